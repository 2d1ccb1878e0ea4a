/-
Natural numbers of the reference: Mul. No condition.
-/
import Derived.Test.YtedmkbpfmddafaaSpB
namespace Go.Proofs.Ytedmkbpfmddafaa
open Go.RowKit

/-- A row of L digits, those from lo on are 0, which with c at the place pos is T. -/
def MuRel (B : Nat) (w : World) (v : Value) (L lo pos c T : Nat) (wr : World) : Prop :=
  ∃ os : List Nat, Own wr B 3 v (cellsN os) ∧ os.length = L ∧ (∀ d ∈ os, d < 65536) ∧ (∀ j, lo ≤ j → os.getD j 0 = 0) ∧ val os + 65536 ^ pos * c = T ∧ Below B w wr
theorem cellsN_set (os : List Nat) (i d : Nat) : (cellsN os).set i (.int .i64 (d : Int)) = cellsN (os.set i d) := by simp [cellsN, List.map_set]
theorem getD_lt {os : List Nat} (h : ∀ d ∈ os, d < 65536) (i : Nat) : os.getD i 0 < 65536 := by
  by_cases hi : i < os.length
  · rw [List.getD_eq_getElem?_getD, List.getElem?_eq_getElem hi]; exact h _ (List.getElem_mem hi)
  · rw [List.getD_eq_getElem?_getD, List.getElem?_eq_none (by omega)]; decide
theorem getD_set (os : List Nat) (i j d : Nat) (hi : i < os.length) : (os.set i d).getD j 0 = if i = j then d else os.getD j 0 := by
  simp only [List.getD_eq_getElem?_getD, List.getElem?_set]
  split
  · rename_i h; rfl
  · rfl
/-- One digit is stored. -/
theorem muStore {B L lo pos c c' d T T' : Nat} {w wr : World} {v : Value} {os : List Nat} (ho : Own wr B 3 v (cellsN os)) (hL : os.length = L) (hd : ∀ d ∈ os, d < 65536) (hz : ∀ j, lo ≤ j → os.getD j 0 = 0)
    (hv : val os + 65536 ^ pos * c = T) (hb : Below B w wr) (hp : pos < L) (hlo : pos < lo) (hd' : d < 65536) (hT : T' + 65536 ^ pos * (c + os.getD pos 0) = T + 65536 ^ pos * (d + 65536 * c')) :
    MuRel B w v L lo (pos + 1) c' T' (wr.setCell ⟨sBlk v, sOff v + pos, none⟩ (.int .i64 (d : Int))) := by
  have hs := ho.set (i := pos) (by rw [cellsN_length]; omega) (.int .i64 (d : Int))
  rw [cellsN_set] at hs
  have hl := ho.len
  rw [cellsN_length] at hl
  have hcp := ho.isS.le
  refine ⟨_, hs, by simpa using hL, ?_, fun j hj => ?_, ?_, bset hb (ho.lt (by omega)).1⟩
  · intro z hz'
    rcases List.mem_or_eq_of_mem_set hz' with h | h
    · exact hd z h
    · rw [h]; exact hd'
  · rw [getD_set _ _ _ _ (by omega), if_neg (by omega)]; exact hz j hj
  · have h1 := val_set (a := os) (i := pos) (by omega) d
    rw [Nat.pow_succ]
    generalize os.getD pos 0 = o at *
    generalize val (os.set pos d) = V at *
    generalize val os = V0 at *
    generalize 65536 ^ pos = p at *
    grind
def Tin (x y i p k : Nat) : Nat := x % 65536 ^ i * y + 65536 ^ i * (p * (y % 65536 ^ k))
theorem Tin_step {x y i p k c o q r : Nat} (h : c + (o + p * dig y k) = r + 65536 * q) : Tin x y i p (k + 1) + 65536 ^ (i + k) * (c + o) = Tin x y i p k + 65536 ^ (i + k) * (r + 65536 * q) := by
  rw [← h]
  unfold Tin
  rw [mod_succ y k, Nat.pow_add]
  grind
theorem Tin_end {x y i k : Nat} (hk : nl y ≤ k) : Tin x y i (dig x i) k = x % 65536 ^ (i + 1) * y := by
  unfold Tin
  rw [mod_nl hk, mod_succ]
  grind

set_option maxRecDepth 100000 in
set_option maxHeartbeats 1600000 in
theorem spMul (a b : Value) (x y : Nat) (w : World) (ha : NatV w a x) (hb : NatV w b y) (hx : nl x ≤ 1000000000) (hy : nl y ≤ 1000000000) :
    Calls Try.prog 16 #[a, b] w fun e w' => ∃ r, e = .returned r ∧ NPost (x * y) w r w' := by
  have hSa := ha.isS
  have hSb := hb.isS
  have hLa := ha.len
  have hLb := hb.len
  obtain ⟨la, hla⟩ : ∃ la, la = nl x := ⟨_, rfl⟩
  obtain ⟨lb, hlb⟩ : ∃ lb, lb = nl y := ⟨_, rfl⟩
  rw [← hla] at hLa hx
  rw [← hlb] at hLb hy
  have Hla := Lib.hid hla
  have Hlb := Lib.hid hlb
  have Ha := Lib.hid ha
  have Hb := Lib.hid hb
  clear hla hlb ha hb
  go_enter Try.func16, Try.ntmps16
  go_wp2_with (at_make; refine wpList_make_O rfl _ _ _ rfl elemN .i64 .i64 _ _ rfl rfl w.heap.size ?c1 ?c2 ?c3 ?c4 ?c5 ?_)
  case c1 => omega
  case c2 => omega
  case c3 => omega
  case c4 => omega
  case c5 => exact Nat.le_refl _
  rintro v0 w0 - ho0 hb0 -
  have e0 : List.replicate ((la : Int) + lb).toNat (Value.int .i64 0) = cellsN (List.replicate (la + lb) 0) := by
    rw [show ((la : Int) + lb).toNat = la + lb by omega]; simp [cellsN]
  rw [e0] at ho0
  have hSv := ho0.isS
  have hLv : sLen v0 = la + lb := by rw [ho0.len, cellsN_length]; simp
  have M0 : MuRel w.heap.size w v0 (la + lb) 0 0 0 0 w0 :=
    ⟨_, ho0, by simp, fun d hd => by rw [(List.mem_replicate.1 hd).2]; decide, fun j _ => (by rw [List.getD_eq_getElem?_getD, List.getElem?_replicate]; split <;> rfl), by rw [val_replicate], hb0⟩
  clear ho0 e0 hb0
  have HM0 := Lib.hid M0
  clear M0
  go_wp2
  go_loopw [19] (fun i wr => ∃ k : Nat, k ≤ la ∧ i = .int .i64 k ∧ MuRel w.heap.size w v0 (la + lb) (k + lb) 0 0 (x % 65536 ^ k * y) wr) (fun i _ => la - (intOf i).toNat)
  case atStart =>
    refine ⟨0, Nat.zero_le _, rfl, ?_⟩
    obtain ⟨os, h1, h2, h3, h4, h5, h6⟩ := HM0.out
    exact ⟨os, h1, h2, h3, fun j _ => h4 j (Nat.zero_le _), by simp [Nat.mod_one]; simpa using h5, h6⟩
  case round =>
    obtain ⟨i, hi, rfl, hM⟩ := hrel
    obtain ⟨wo, hwo⟩ : ∃ wo : World, wo = wr := ⟨_, rfl⟩
    subst hwo
    have HM := Lib.hid hM
    have hbo : Below w.heap.size w wo := by obtain ⟨_, _, _, _, _, _, h⟩ := hM; exact h
    clear hM
    by_cases hia : i < la
    · have ca := (Ha.out.below hbo).cell i (by rw [← Hla.out]; exact hia)
      have g1 := dig_lt x i
      obtain ⟨p, hp⟩ : ∃ p, p = dig x i := ⟨_, rfl⟩
      rw [← hp] at ca g1
      have Hp := Lib.hid hp
      clear hp
      go_wp2
      go_loopw [8, 26] (fun c k wr => ∃ kk cc : Nat, kk ≤ lb ∧ cc < 65536 ∧ k = .int .i64 kk ∧ c = .int .i64 cc ∧ MuRel w.heap.size w v0 (la + lb) (i + lb) (i + kk) cc (Tin x y i p kk) wr) (fun _ k _ => lb - (intOf k).toNat)
      case atStart =>
        refine ⟨0, 0, Nat.zero_le _, by decide, rfl, rfl, ?_⟩
        obtain ⟨os, h1, h2, h3, h4, h5, h6⟩ := HM.out
        refine ⟨os, h1, h2, h3, h4, ?_, h6⟩
        unfold Tin; simp [Nat.mod_one]; simpa using h5
      case round =>
        obtain ⟨k, c, hk, hc, rfl, rfl, os, ho, hoL, hod, hoz, hov, hbl⟩ := hrel
        have Ho := Lib.hid ho
        have HoL := Lib.hid hoL
        have Hod := Lib.hid hod
        have Hoz := Lib.hid hoz
        have Hov := Lib.hid hov
        have hcap : la + lb ≤ sCap v0 := by rw [← hLv]; exact hSv.le
        by_cases hkb : k < lb
        · have cb := (Hb.out.below hbl).cell k (by rw [← Hlb.out]; exact hkb)
          have g2 := dig_lt y k
          obtain ⟨q, hq⟩ : ∃ q, q = dig y k := ⟨_, rfl⟩
          rw [← hq] at cb g2
          have Hq := Lib.hid hq
          have g3 := getD_lt hod (i + k)
          have co : wr.cell? ⟨sBlk v0, sOff v0 + (i + k), none⟩ = some (.int .i64 ((os.getD (i + k) 0 : Nat) : Int)) := ho.rl.cell (i + k) (by omega)
          obtain ⟨o, hoo⟩ : ∃ o, o = os.getD (i + k) 0 := ⟨_, rfl⟩
          rw [← hoo] at co g3
          have Hoo := Lib.hid hoo
          have fz := ho.frozen (by omega) (sOff v0 + (i + k))
          have hpq : (p : Int) * q ≤ 4294836225 := by
            have : p * q ≤ 65535 * 65535 := Nat.mul_le_mul (by omega) (by omega)
            have e : ((p * q : Nat) : Int) = (p : Int) * q := by simp
            omega
          have hpq0 : 0 ≤ (p : Int) * q := by
            have e : ((p * q : Nat) : Int) = (p : Int) * q := by simp
            omega
          clear ho hoL hod hoz hov hq hoo
          go_wp2
          have hS : ((p * q : Nat) : Int) = (p : Int) * q := by simp
          obtain ⟨S, hSd⟩ : ∃ S : Nat, S = c + (o + p * q) := ⟨_, rfl⟩
          have hSi : (c : Int) + ((o : Int) + (p : Int) * q) = (S : Int) := by rw [hSd]; omega
          rw [hSi, show (S : Int) % 65536 = ((S % 65536 : Nat) : Int) by omega]
          refine ⟨⟨k + 1, S / 65536, by omega, by omega, by go_num, by go_num, ?_⟩, by simp [intOf]; omega⟩
          refine muStore (pos := i + k) (c' := S / 65536) (d := S % 65536) Ho.out HoL.out Hod.out Hoz.out Hov.out hbl (by omega) (by omega) (by omega) ?_
          rw [← Hoo.out]
          refine Tin_step ?_
          rw [← Hq.out, ← hSd]
          omega
        · have hkb' : k = lb := by omega
          have fz := fun (hc : 0 < sCap v0) => ho.frozen hc (sOff v0 + (i + lb))
          have fz := fz (by omega)
          have co : wr.cell? ⟨sBlk v0, sOff v0 + (i + lb), none⟩ = some (.int .i64 ((os.getD (i + lb) 0 : Nat) : Int)) := ho.rl.cell (i + lb) (by omega)
          rw [hoz (i + lb) (Nat.le_refl _)] at co
          clear ho hoL hod hoz hov
          have Hk := Lib.hid hkb'
          clear hkb'
          go_wp2
          refine ⟨⟨i + 1, by omega, by go_num, ?_⟩, by simp [intOf]; omega⟩
          have hov := Hov.out
          rw [Hk.out] at hov
          have h1 := muStore (pos := i + lb) (lo := i + 1 + lb) (c' := 0) (d := c) (T' := x % 65536 ^ (i + 1) * y) Ho.out HoL.out Hod.out (fun j hj => Hoz.out j (by omega)) hov hbl (by omega) (by omega) hc (by
            rw [Hoz.out (i + lb) (Nat.le_refl _), Hp.out, Tin_end (by rw [← Hlb.out]; exact Nat.le_refl _)])
          obtain ⟨os', a1, a2, a3, a4, a5, a6⟩ := h1
          exact ⟨os', a1, a2, a3, a4, by simpa using a5, a6⟩
    · have hla' : i = la := by omega
      subst hla'
      obtain ⟨os, h1, h2, h3, h4, h5, h6⟩ := HM.out
      have Ho := Lib.hid h1
      have HoL := Lib.hid h2
      have Hod := Lib.hid h3
      have Hov := Lib.hid h5
      clear h1 h2 h3 h4 h5
      go_wp2_with fail
      refine (spTrim v0 os _ Ho.out.rl Hod.out (by rw [HoL.out]; omega)).mono ?_
      rintro _ _ ⟨r, rfl, hr, rfl⟩
      have Hr := Lib.hid hr
      clear hr
      go_wp2
      go_ret
      refine ⟨_, rfl, ?_, h6⟩
      have h7 : val os = x * y := by
        have := Hov.out
        rw [mod_nl (by rw [← Hla.out]; exact Nat.le_refl _)] at this
        simpa using this
      rw [← h7]; exact Hr.out
end Go.Proofs.Ytedmkbpfmddafaa
