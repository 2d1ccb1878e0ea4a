/-
Texts of this proof, joined: SpC SpD FlA RnA FlK RnC MuA MuB InK SqA SqB. No condition.
-/
import Derived.Test.YtoddjkpckpekcaaGreatDoorK01
import Derived.Test.YtoddjkpckpekcaaGreatDoorK02
import Derived.Test.YtoddjkpckpekcaaGreatDoorK03
import Derived.Test.YtoddjkpckpekcaaGreatDoorK04
import Derived.Test.YtoddjkpckpekcaaGreatDoorK05
import Derived.Test.YtoddjkpckpekcaaGreatDoorK06
import Derived.Test.YtoddjkpckpekcaaGreatDoorK07
import Derived.Test.YtoddjkpckpekcaaGreatDoorK08
import Derived.Test.YtoddjkpckpekcaaGreatDoorK09
import Derived.Test.YtoddjkpckpekcaaGreatDoorK10
import Derived.Test.YtoddjkpckpekcaaGreatDoorK11
import Derived.Test.YtoddjkpckpekcaaGreatDoorK12
import Derived.Test.YtoddjkpckpekcaaGreatDoorK13
import Derived.Test.YtoddjkpckpekcaaGreatDoorK14
import Derived.Test.YtoddjkpckpekcaaGreatDoorK15
import Derived.Test.YtoddjkpckpekcaaGreatDoorK16
import Derived.Test.YtoddjkpckpekcaaGreatDoorK17
import Derived.Test.YtoddjkpckpekcaaGreatDoorK18
import Derived.Test.YtoddjkpckpekcaaGreatDoorK19
import Derived.Test.YtoddjkpckpekcaaGreatDoorK20
import Derived.Test.YtoddjkpckpekcaaGreatDoorK21
import Derived.Test.YtoddjkpckpekcaaGreatDoorK22
import Derived.Test.YtoddjkpckpekcaaGreatDoorK23
import Derived.Test.YtoddjkpckpekcaaGreatDoorK24
import Derived.Test.YtoddjkpckpekcaaGreatDoorK25
import Derived.Test.YtoddjkpckpekcaaGreatDoorK26
import Derived.Test.YtoddjkpckpekcaaGreatDoorK27
import Derived.Test.YtoddjkpckpekcaaGreatDoorK28
import Derived.Test.YtoddjkpckpekcaaGreatDoorK29
import Derived.Test.YtoddjkpckpekcaaGreatDoorK30
import Derived.Test.YtoddjkpckpekcaaGreatDoorK31
import Derived.Test.YtoddjkpckpekcaaGreatDoorK32
import Derived.Test.YtoddjkpckpekcaaGreatDoorK33
import Derived.Test.YtoddjkpckpekcaaGreatDoorK34
import Derived.Test.YtoddjkpckpekcaaGreatDoorK35
import Derived.Test.YtoddjkpckpekcaaGreatDoorK36
import Derived.Test.YtoddjkpckpekcaaGreatDoorK37
import Derived.Test.YtoddjkpckpekcaaGreatDoorK38
import Derived.Test.YtoddjkpckpekcaaGreatDoorK39
import Derived.Test.YtoddjkpckpekcaaGreatDoorK40
import Derived.Test.YtoddjkpckpekcaaGreatDoorK41
import Derived.Test.YtoddjkpckpekcaaGreatDoorProg
import Derived.WalkKit
import Derived.WalkSpells
import Derived.WalkLawsBesides
import Derived.Lib.Hide
import Derived.Deep.QuietTactic
import Derived.BigQuiet
import Derived.Deep.DeepFit
import Derived.Deep.AppendSrc
import Derived.Laws.Bits64b
import Derived.Laws.CopyOwn
import Derived.Outline
import Derived.Deep.RegionHeld3
import Derived.Deep.DeepCutAuto
import Derived.Deep.CutRange
import Derived.Lib.Builder
import Derived.Shelf.Small.Bits
import Derived.Shelf.Strconv.Itoa0
import Derived.Shelf.Bits.Mul64
import Derived.Lib.BitFns
import Derived.Laws.Externs
import Derived.Laws.BitsAllLaws
import Derived.Lib.AppendZeros
import Derived.LaidEqlPtr
namespace Go.Proofs.YtoddjkpckpekcaaGreatDoor
open Go.RowKit

def MuRel (B : Nat) (w : World) (v : Value) (L lo pos c T : Nat) (wr : World) : Prop :=
  ∃ os : List Nat, Own wr B 3 v (cellsN os) ∧ os.length = L ∧ (∀ d ∈ os, d < 65536) ∧ (∀ j, lo ≤ j → os.getD j 0 = 0) ∧ val os + 65536 ^ pos * c = T ∧ Below B w wr
theorem getD_lt {os : List Nat} (h : ∀ d ∈ os, d < 65536) (i : Nat) : os.getD i 0 < 65536 := by
  by_cases hi : i < os.length
  · rw [List.getD_eq_getElem?_getD, List.getElem?_eq_getElem hi]; exact h _ (List.getElem_mem hi)
  · rw [List.getD_eq_getElem?_getD, List.getElem?_eq_none (by omega)]; decide
theorem muStore {B L lo pos c c' d T T' : Nat} {w wr : World} {v : Value} {os : List Nat} (ho : Own wr B 3 v (cellsN os)) (hL : os.length = L) (hd : ∀ d ∈ os, d < 65536) (hz : ∀ j, lo ≤ j → os.getD j 0 = 0)
    (hv : val os + 65536 ^ pos * c = T) (hb : Below B w wr) (hp : pos < L) (hlo : pos < lo) (hd' : d < 65536) (hT : T' + 65536 ^ pos * (c + os.getD pos 0) = T + 65536 ^ pos * (d + 65536 * c')) :
    MuRel B w v L lo (pos + 1) c' T' (wr.setCell ⟨sBlk v, sOff v + pos, none⟩ (.int .i64 (d : Int))) := by
  have hs := ho.set (i := pos) (by rw [cellsN_length]; omega) (.int .i64 (d : Int))
  rw [cellsN_set] at hs
  have hl := ho.len
  rw [cellsN_length] at hl
  have hcp := ho.isS.le
  refine ⟨_, hs, by simpa using hL, ?_, fun j hj => ?_, ?_, bset hb (ho.lt (by omega)).1⟩
  · intro z hz'
    rcases List.mem_or_eq_of_mem_set hz' with h | h
    · exact hd z h
    · rw [h]; exact hd'
  · rw [getD_set _ _ _ _ (by omega), if_neg (by omega)]; exact hz j hj
  · have h1 := val_set (a := os) (i := pos) (by omega) d
    rw [Nat.pow_succ]
    generalize os.getD pos 0 = o at *
    generalize val (os.set pos d) = V at *
    generalize val os = V0 at *
    generalize 65536 ^ pos = p at *
    grind
def Tin (x y i p k : Nat) : Nat := x % 65536 ^ i * y + 65536 ^ i * (p * (y % 65536 ^ k))
theorem Tin_step {x y i p k c o q r : Nat} (h : c + (o + p * dig y k) = r + 65536 * q) : Tin x y i p (k + 1) + 65536 ^ (i + k) * (c + o) = Tin x y i p k + 65536 ^ (i + k) * (r + 65536 * q) := by
  rw [← h]
  unfold Tin
  rw [mod_succ y k, Nat.pow_add]
  grind
theorem Tin_end {x y i k : Nat} (hk : nl y ≤ k) : Tin x y i (dig x i) k = x % 65536 ^ (i + 1) * y := by
  unfold Tin
  rw [mod_nl hk, mod_succ]
  grind

set_option maxRecDepth 100000 in
set_option maxHeartbeats 1600000 in
theorem spMul (a b : Value) (x y : Nat) (w : World) (ha : NatV w a x) (hb : NatV w b y) (hx : nl x ≤ 1000000000) (hy : nl y ≤ 1000000000) :
    Calls Tryz.prog 33 #[a, b] w fun e w' => ∃ r, e = .returned r ∧ NPost (x * y) w r w' := by
  have hSa := ha.isS
  have hSb := hb.isS
  have hLa := ha.len
  have hLb := hb.len
  obtain ⟨la, hla⟩ : ∃ la, la = nl x := ⟨_, rfl⟩
  obtain ⟨lb, hlb⟩ : ∃ lb, lb = nl y := ⟨_, rfl⟩
  rw [← hla] at hLa hx
  rw [← hlb] at hLb hy
  have Hla := Lib.hid hla
  have Hlb := Lib.hid hlb
  have Ha := Lib.hid ha
  have Hb := Lib.hid hb
  clear hla hlb ha hb
  go_enter Tryz.func33, Tryz.ntmps33
  go_wp2_with (at_make; refine wpList_make_O rfl _ _ _ rfl elemN .i64 .i64 _ _ rfl rfl w.heap.size ?c1 ?c2 ?c3 ?c4 ?c5 ?_)
  case c1 => omega
  case c2 => omega
  case c3 => omega
  case c4 => omega
  case c5 => exact Nat.le_refl _
  rintro v0 w0 - ho0 hb0 -
  have e0 : List.replicate ((la : Int) + lb).toNat (Value.int .i64 0) = cellsN (List.replicate (la + lb) 0) := by
    rw [show ((la : Int) + lb).toNat = la + lb by omega]; simp [cellsN]
  rw [e0] at ho0
  have hSv := ho0.isS
  have hLv : sLen v0 = la + lb := by rw [ho0.len, cellsN_length]; simp
  have M0 : MuRel w.heap.size w v0 (la + lb) 0 0 0 0 w0 :=
    ⟨_, ho0, by simp, fun d hd => by rw [(List.mem_replicate.1 hd).2]; decide, fun j _ => (by rw [List.getD_eq_getElem?_getD, List.getElem?_replicate]; split <;> rfl), by rw [val_replicate], hb0⟩
  clear ho0 e0 hb0
  have HM0 := Lib.hid M0
  clear M0
  go_wp2
  go_loopw [19] (fun i wr => ∃ k : Nat, k ≤ la ∧ i = .int .i64 k ∧ MuRel w.heap.size w v0 (la + lb) (k + lb) 0 0 (x % 65536 ^ k * y) wr) (fun i _ => la - (intOf i).toNat)
  case atStart =>
    refine ⟨0, Nat.zero_le _, rfl, ?_⟩
    obtain ⟨os, h1, h2, h3, h4, h5, h6⟩ := HM0.out
    exact ⟨os, h1, h2, h3, fun j _ => h4 j (Nat.zero_le _), by simp [Nat.mod_one]; simpa using h5, h6⟩
  case round =>
    obtain ⟨i, hi, rfl, hM⟩ := hrel
    obtain ⟨wo, hwo⟩ : ∃ wo : World, wo = wr := ⟨_, rfl⟩
    subst hwo
    have HM := Lib.hid hM
    have hbo : Below w.heap.size w wo := by obtain ⟨_, _, _, _, _, _, h⟩ := hM; exact h
    clear hM
    by_cases hia : i < la
    · have ca := (Ha.out.below hbo).cell i (by rw [← Hla.out]; exact hia)
      have g1 := dig_lt x i
      obtain ⟨p, hp⟩ : ∃ p, p = dig x i := ⟨_, rfl⟩
      rw [← hp] at ca g1
      have Hp := Lib.hid hp
      clear hp
      go_wp2
      go_loopw [8, 26] (fun c k wr => ∃ kk cc : Nat, kk ≤ lb ∧ cc < 65536 ∧ k = .int .i64 kk ∧ c = .int .i64 cc ∧ MuRel w.heap.size w v0 (la + lb) (i + lb) (i + kk) cc (Tin x y i p kk) wr) (fun _ k _ => lb - (intOf k).toNat)
      case atStart =>
        refine ⟨0, 0, Nat.zero_le _, by decide, rfl, rfl, ?_⟩
        obtain ⟨os, h1, h2, h3, h4, h5, h6⟩ := HM.out
        refine ⟨os, h1, h2, h3, h4, ?_, h6⟩
        unfold Tin; simp [Nat.mod_one]; simpa using h5
      case round =>
        obtain ⟨k, c, hk, hc, rfl, rfl, os, ho, hoL, hod, hoz, hov, hbl⟩ := hrel
        have Ho := Lib.hid ho
        have HoL := Lib.hid hoL
        have Hod := Lib.hid hod
        have Hoz := Lib.hid hoz
        have Hov := Lib.hid hov
        have hcap : la + lb ≤ sCap v0 := by rw [← hLv]; exact hSv.le
        by_cases hkb : k < lb
        · have cb := (Hb.out.below hbl).cell k (by rw [← Hlb.out]; exact hkb)
          have g2 := dig_lt y k
          obtain ⟨q, hq⟩ : ∃ q, q = dig y k := ⟨_, rfl⟩
          rw [← hq] at cb g2
          have Hq := Lib.hid hq
          have g3 := getD_lt hod (i + k)
          have co : wr.cell? ⟨sBlk v0, sOff v0 + (i + k), none⟩ = some (.int .i64 ((os.getD (i + k) 0 : Nat) : Int)) := ho.rl.cell (i + k) (by omega)
          obtain ⟨o, hoo⟩ : ∃ o, o = os.getD (i + k) 0 := ⟨_, rfl⟩
          rw [← hoo] at co g3
          have Hoo := Lib.hid hoo
          have fz := ho.frozen (by omega) (sOff v0 + (i + k))
          have hpq : (p : Int) * q ≤ 4294836225 := by
            have : p * q ≤ 65535 * 65535 := Nat.mul_le_mul (by omega) (by omega)
            have e : ((p * q : Nat) : Int) = (p : Int) * q := by simp
            omega
          have hpq0 : 0 ≤ (p : Int) * q := by
            have e : ((p * q : Nat) : Int) = (p : Int) * q := by simp
            omega
          clear ho hoL hod hoz hov hq hoo
          go_wp2
          have hS : ((p * q : Nat) : Int) = (p : Int) * q := by simp
          obtain ⟨S, hSd⟩ : ∃ S : Nat, S = c + (o + p * q) := ⟨_, rfl⟩
          have hSi : (c : Int) + ((o : Int) + (p : Int) * q) = (S : Int) := by rw [hSd]; omega
          rw [hSi, show (S : Int) % 65536 = ((S % 65536 : Nat) : Int) by omega]
          refine ⟨⟨k + 1, S / 65536, by omega, by omega, by go_num, by go_num, ?_⟩, by simp [intOf]; omega⟩
          refine muStore (pos := i + k) (c' := S / 65536) (d := S % 65536) Ho.out HoL.out Hod.out Hoz.out Hov.out hbl (by omega) (by omega) (by omega) ?_
          rw [← Hoo.out]
          refine Tin_step ?_
          rw [← Hq.out, ← hSd]
          omega
        · have hkb' : k = lb := by omega
          have fz := fun (hc : 0 < sCap v0) => ho.frozen hc (sOff v0 + (i + lb))
          have fz := fz (by omega)
          have co : wr.cell? ⟨sBlk v0, sOff v0 + (i + lb), none⟩ = some (.int .i64 ((os.getD (i + lb) 0 : Nat) : Int)) := ho.rl.cell (i + lb) (by omega)
          rw [hoz (i + lb) (Nat.le_refl _)] at co
          clear ho hoL hod hoz hov
          have Hk := Lib.hid hkb'
          clear hkb'
          go_wp2
          refine ⟨⟨i + 1, by omega, by go_num, ?_⟩, by simp [intOf]; omega⟩
          have hov := Hov.out
          rw [Hk.out] at hov
          have h1 := muStore (pos := i + lb) (lo := i + 1 + lb) (c' := 0) (d := c) (T' := x % 65536 ^ (i + 1) * y) Ho.out HoL.out Hod.out (fun j hj => Hoz.out j (by omega)) hov hbl (by omega) (by omega) hc (by
            rw [Hoz.out (i + lb) (Nat.le_refl _), Hp.out, Tin_end (by rw [← Hlb.out]; exact Nat.le_refl _)])
          obtain ⟨os', a1, a2, a3, a4, a5, a6⟩ := h1
          exact ⟨os', a1, a2, a3, a4, by simpa using a5, a6⟩
    · have hla' : i = la := by omega
      subst hla'
      obtain ⟨os, h1, h2, h3, h4, h5, h6⟩ := HM.out
      have Ho := Lib.hid h1
      have HoL := Lib.hid h2
      have Hod := Lib.hid h3
      have Hov := Lib.hid h5
      clear h1 h2 h3 h4 h5
      go_wp2_with fail
      refine (spTrim v0 os _ Ho.out.rl Hod.out (by rw [HoL.out]; omega)).mono ?_
      rintro _ _ ⟨r, rfl, hr, rfl⟩
      have Hr := Lib.hid hr
      clear hr
      go_wp2
      go_ret
      refine ⟨_, rfl, ?_, h6⟩
      have h7 : val os = x * y := by
        have := Hov.out
        rw [mod_nl (by rw [← Hla.out]; exact Nat.le_refl _)] at this
        simpa using this
      rw [← h7]; exact Hr.out
theorem nl_pow {b n : Nat} (hb : b < 65536) : nl (b ^ n) ≤ n + 1 :=
  nl_le (Nat.lt_of_le_of_lt (Nat.pow_le_pow_left (Nat.le_of_lt hb) n) (Nat.pow_lt_pow_right (by decide) (by omega)))
set_option maxRecDepth 100000 in
set_option maxHeartbeats 400000 in
theorem spPower (b n : Nat) (w : World) (hb : b < 65536) (hn : n ≤ 100000000) :
    Calls Tryz.prog 34 #[.int .i64 b, .int .i64 n] w fun e w' => ∃ r, e = .returned r ∧ NPost (b ^ n) w r w' := by
  go_enter Tryz.func34, Tryz.ntmps34
  go_wp2_with fail
  refine (spSmall 1 w (by decide)).mono ?_
  rintro _ w1 ⟨r1, rfl, h1, hb1⟩
  have H1 := Lib.hid h1
  clear h1
  go_wp2
  go_loopw [1, 5] (fun i u wr => ∃ m : Nat, m ≤ n ∧ i = .int .i64 m ∧ NatV wr u (b ^ (n - m)) ∧ Below w.heap.size w wr) (fun i _ _ => (intOf i).toNat)
  case atStart => exact ⟨n, Nat.le_refl _, rfl, by rw [Nat.sub_self]; exact H1.out, hb1⟩
  case round =>
    obtain ⟨m, hm, rfl, hu, hbl⟩ := hrel
    have Hu := Lib.hid hu
    clear hu
    by_cases hm0 : 0 < m
    · go_wp2_with fail
      refine (spSmall b wr (by omega)).mono ?_
      rintro _ w2 ⟨r2, rfl, h2, hb2⟩
      have H2 := Lib.hid h2
      clear h2
      go_wp2_with fail
      have n1 := nl_pow (b := b) (n := n - m) hb
      have n2 := nl_le4 (n := b) (by omega)
      refine (spMul _ _ _ _ w2 (Hu.out.below hb2) H2.out (by omega) (by omega)).mono ?_
      rintro _ w3 ⟨r3, rfl, h3, hb3⟩
      have H3 := Lib.hid h3
      clear h3
      go_wp2
      go_roundw
      case rel =>
        refine ⟨m - 1, by omega, by go_num, ?_, bthen (bthen hbl hb2) hb3⟩
        rw [show n - (m - 1) = (n - m) + 1 by omega, Nat.pow_succ]
        exact H3.out
      case measure => simp [intOf]; omega
    · have hm0' : m = 0 := by omega
      subst hm0'
      go_wp2
      go_ret
      exact ⟨_, rfl, Hu.out, hbl⟩

end Go.Proofs.YtoddjkpckpekcaaGreatDoor
namespace Go.Proofs.YtoddjkpckpekcaaGreatDoor

theorem wlow_zero {n : Nat} : ∀ j : Nat, n % 18446744073709551616 ^ j = 0 ↔ ∀ k, k < j → wdg n k = 0
  | 0 => by simp [Nat.mod_one]
  | j + 1 => by
    have ih := wlow_zero (n := n) j
    have hs := wmod_succ n j
    have hp := wpow_pos j
    constructor
    · intro h k hk
      rw [h] at hs
      have h1 : n % 18446744073709551616 ^ j = 0 := by omega
      have h2 : 18446744073709551616 ^ j * wdg n j = 0 := by omega
      rcases (by omega : k < j ∨ k = j) with hk' | rfl
      · exact ih.1 h1 k hk'
      · rcases Nat.mul_eq_zero.1 h2 with h | h
        · omega
        · exact h
    · intro h
      rw [hs, ih.2 (fun k hk => h k (by omega)), h j (by omega)]
      simp
end Go.Proofs.YtoddjkpckpekcaaGreatDoor
namespace Go.Proofs.YtoddjkpckpekcaaGreatDoor
open Go.RowKit

/-! ### Odd parts -/
theorem od_pos {n : Nat} (h : 0 < n) : 0 < od n := by have := (od_tz h).2; omega
theorem od_of {n o t : Nat} (h : n = o * 2 ^ t) (ho : o % 2 = 1) : od n = o ∧ tz n = t := by
  have hn : 0 < n := by rw [h]; exact Nat.mul_pos (by omega) (Nat.two_pow_pos t)
  have h2 := od_tz hn
  have h3 := odd_two h2.2 ho (h2.1.symm.trans h)
  exact ⟨h3.2, h3.1⟩
theorem bl_od {n : Nat} (h : 0 < n) : bl n = bl (od n) + tz n := by
  conv => lhs; rw [(od_tz h).1]
  exact bl_mul (od_pos h) _
theorem tz_le {n : Nat} (h : 0 < n) : tz n < bl n := by have := bl_od h; have := bl_pos (od_pos h); omega
/-! ### Rounding -/
theorem ret_u64 {a b : Int} (h : a = b) : Ending.returned (.int .u64 a) = Ending.returned (.int .u64 b) := by rw [h]
theorem wv_drop {ws : List Nat} (h : ∀ d ∈ ws, d < 18446744073709551616) {k : Nat} (hk : k ≤ ws.length) : wv (ws.drop k) = wv ws / 18446744073709551616 ^ k := by
  have h1 := wv_append (ws.take k) (ws.drop k)
  rw [List.take_append_drop, List.length_take, Nat.min_eq_left hk] at h1
  have h2 := wv_lt (a := ws.take k) (fun d hd => h d (List.mem_of_mem_take hd))
  rw [List.length_take, Nat.min_eq_left hk] at h2
  rw [h1, Nat.add_mul_div_left _ _ (wpow_pos k), Nat.div_eq_of_lt h2, Nat.zero_add]
set_option maxRecDepth 100000 in
set_option maxHeartbeats 1600000 in
theorem addMulVVWW_g_any (v x y : Value) (os : List Value) (xs ys : List Nat) (m a0 B : Nat) (w : World) (ho : Own w B 98 v os) (hx : RW w x xs) (hy : RW w y ys) (hlx : xs.length = os.length) (hly : ys.length = os.length)
    (hax : sBlk x = sBlk v → sOff v ≤ sOff x) (hay : sBlk y = sBlk v → sOff v ≤ sOff y) (hm : m < 18446744073709551616) (ha0 : a0 < 18446744073709551616) (hl : os.length ≤ 1000000000) :
    Calls Tryz.prog 169 #[v, x, y, .int .u64 m, .int .u64 a0] w fun e w' => ∃ c : Nat, e = .returned (.int .u64 c) ∧ (c < 18446744073709551616 ∧ wv xs + wv ys * m + a0 = wv (wdsN (wv xs + wv ys * m + a0) os.length) + 18446744073709551616 ^ os.length * c) ∧ VvP v os.length B (wv xs + wv ys * m + a0) w w' := by
  have hS := ho.isS
  have hSx := hx.isS
  have hSy := hy.isS
  obtain ⟨L, hLw⟩ : ∃ L, L = os.length := ⟨_, rfl⟩
  have hL : sLen v = L := by rw [hLw]; exact ho.len
  have hLx : sLen x = L := by rw [hx.len, hlx, hLw]
  have hLy : sLen y = L := by rw [hy.len, hly, hLw]
  have R0 := Lib.hid (Vv.start ho hLw.symm)
  have HB0 : Hid (0 < L → 0 < sCap v ∧ B ≤ sBlk v) := Lib.hid (fun h => by
    have := hS.le
    have hc : 0 < sCap v := by omega
    exact ⟨hc, (ho.lt hc).1⟩)
  have HXL : Hid (xs.length = L) := Lib.hid (by omega)
  have HYL : Hid (ys.length = L) := Lib.hid (by omega)
  rw [← hLw] at hl ⊢
  have HX := Lib.hid hx
  have HY := Lib.hid hy
  have HAX := Lib.hid hax
  have HAY := Lib.hid hay
  clear ho hLw hx hy hlx hly hax hay
  go_enter Tryz.func169, Tryz.ntmps169
  go_wp2
  go_loopw [10, 32] (fun c i wr => ∃ k d Z : Nat, k ≤ L ∧ i = .int .i64 k ∧ c = .int .u64 d ∧ (d < 18446744073709551616 ∧ wv (xs.take k) + wv (ys.take k) * m + a0 = Z + 18446744073709551616 ^ k * d) ∧ Vv v L B k Z w wr) (fun c i _ => L - (intOf i).toNat)
  case atStart => exact ⟨0, a0, 0, Nat.zero_le _, rfl, rfl, ⟨ha0, by simp [wv]⟩, R0.out⟩
  case round =>
    obtain ⟨k, d, Z, hk, rfl, rfl, ⟨hd, hZ⟩, hrel⟩ := hrel
    have HREL := Lib.hid hrel
    by_cases hkL : k < L
    · obtain ⟨hcap, hB⟩ := HB0.out (by omega)
      have cx := hrel.src HX.out HAX.out (Nat.le_refl k) (by rw [HXL.out]; exact hkL)
      have cy := hrel.src HY.out HAY.out (Nat.le_refl k) (by rw [HYL.out]; exact hkL)
      obtain ⟨u, cv⟩ := hrel.own hkL
      have fz := hrel.frozen hcap (sOff v + k)
      have hxl := getD_ltW HX.out.lt k
      have hyl := getD_ltW HY.out.lt k
      have e1 := wv_take_succ (ws := xs) (i := k) (by rw [HXL.out]; exact hkL)
      have e2 := wv_take_succ (ws := ys) (i := k) (by rw [HYL.out]; exact hkL)
      obtain ⟨a, ha⟩ : ∃ a, a = xs.getD k 0 := ⟨_, rfl⟩
      obtain ⟨b, hb⟩ : ∃ b, b = ys.getD k 0 := ⟨_, rfl⟩
      rw [← ha] at cx hxl e1
      rw [← hb] at cy hyl e2
      have hbm : b * m ≤ 18446744073709551615 * 18446744073709551615 := Nat.mul_le_mul (by omega) (by omega)
      obtain ⟨s, z1, hsc, hs⟩ : ∃ s z1, b * m + a = s + 18446744073709551616 * z1 ∧ s < 18446744073709551616 := ⟨(b * m + a) % 18446744073709551616, (b * m + a) / 18446744073709551616, by omega, by omega⟩
      have hz1 : z1 < 18446744073709551616 := by omega
      obtain ⟨l, cc, hlc, hll⟩ : ∃ l cc, s + d = l + 18446744073709551616 * cc ∧ l < 18446744073709551616 := ⟨(s + d) % 18446744073709551616, (s + d) / 18446744073709551616, by omega, by omega⟩
      obtain ⟨c, hc⟩ : ∃ c, c = cc + z1 := ⟨_, rfl⟩
      have hc1 : c < 18446744073709551616 := by omega
      have hcc1 : cc < 18446744073709551616 := by omega
      have e3 : (cc : Int) + (z1 : Int) = (c : Int) := by omega
      have e4 : IntKind.u64.wrap ((cc : Int) + (z1 : Int)) = (c : Int) := by rw [e3, IntKind.wrap_u64]; omega
      have HA : Hid (∀ n, Calls Tryz.prog 188 #[.int .u64 b, .int .u64 m, .int .u64 a] (wr.drewN n) fun e w' => e = .returned (.tuple #[.int .u64 z1, .int .u64 s]) ∧ w' = wr.drewN n) := Lib.hid (fun n => mulWWW_any b m a z1 s _ hyl hm hxl hsc hs hz1)
      have HB : Hid (∀ W, Calls Tryz.prog 183 #[.int .u64 s, .int .u64 d, .int .u64 0] W fun e w' => e = .returned (.tuple #[.int .u64 l, .int .u64 cc]) ∧ W = w') := Lib.hid (fun W => bitsAdd0 s d l cc W hlc hll)
      have HZ : Hid (wv (xs.take (k + 1)) + wv (ys.take (k + 1)) * m + a0 = Z + 18446744073709551616 ^ k * l + 18446744073709551616 ^ (k + 1) * c) := Lib.hid (by
        rw [e1, e2, Nat.pow_succ, Nat.mul_assoc]
        have h0 : b * m + a + d = l + 18446744073709551616 * c := by omega
        have h1 : 18446744073709551616 ^ k * (b * m + a + d) = 18446744073709551616 ^ k * l + 18446744073709551616 ^ k * (18446744073709551616 * c) := by rw [h0, Nat.mul_add]
        rw [Nat.mul_add, Nat.mul_add, ← Nat.mul_assoc] at h1
        rw [Nat.add_mul]
        omega)
      have PUT := Lib.hid (fun n => (HREL.out.drewN (k := n)).put hkL hB hll)
      clear hrel e1 e2 ha hb hZ hsc hbm hlc hc
      go_wp2_with fail
      go_quiet ((go_at_call 188; exact Calls.quiet_of_same (HA.out _)))
      go_wp2_with fail
      refine (HB.out _).mono ?_
      rintro _ _ ⟨rfl, rfl⟩
      go_wp2
      exact ⟨⟨k + 1, c, _, by omega, by go_num, rfl, ⟨hc1, HZ.out⟩, PUT.out nq⟩, by simp [intOf]; omega⟩
    · have hkk : k = L := by omega
      have HD : Hid ((d < 18446744073709551616 ∧ wv xs + wv ys * m + a0 = wv (wdsN (wv xs + wv ys * m + a0) L) + 18446744073709551616 ^ L * d) ∧ VvP v L B (wv xs + wv ys * m + a0) w wr) := Lib.hid (by
        subst hkk
        rw [List.take_of_length_le (by rw [HXL.out]; exact Nat.le_refl _), List.take_of_length_le (by rw [HYL.out]; exact Nat.le_refl _)] at hZ
        have hZl : Z < 18446744073709551616 ^ k := by
          obtain ⟨os', ds, g1, g2, g3, g4, g5, g6, g7, g8⟩ := hrel
          have := wv_lt g5
          rw [g4] at this; omega
        refine ⟨⟨hd, ?_⟩, hrel.done d hZ⟩
        rw [wdsN_wv, hZ, Nat.add_mul_mod_self_left, Nat.mod_eq_of_lt hZl])
      clear hrel hZ HREL
      go_wp2
      go_ret
      exact ⟨d, rfl, HD.out⟩
set_option maxRecDepth 100000 in
theorem addMulVVWW_any (v x y : Value) (os : List Value) (xs ys : List Nat) (m a0 B : Nat) (w : World) (ho : Own w B 98 v os) (hx : RW w x xs) (hy : RW w y ys) (hlx : xs.length = os.length) (hly : ys.length = os.length)
    (hax : sBlk x = sBlk v → sOff v ≤ sOff x) (hay : sBlk y = sBlk v → sOff v ≤ sOff y) (hm : m < 18446744073709551616) (ha0 : a0 < 18446744073709551616) (hl : os.length ≤ 1000000000) :
    Calls Tryz.prog 135 #[v, x, y, .int .u64 m, .int .u64 a0] w fun e w' => ∃ c : Nat, e = .returned (.int .u64 c) ∧ (c < 18446744073709551616 ∧ wv xs + wv ys * m + a0 = wv (wdsN (wv xs + wv ys * m + a0) os.length) + 18446744073709551616 ^ os.length * c) ∧ VvP v os.length B (wv xs + wv ys * m + a0) w w' := by
  have hS := ho.isS
  have hSx := hx.isS
  have hSy := hy.isS
  have H := Lib.hid (addMulVVWW_g_any v x y os xs ys m a0 B w ho hx hy hlx hly hax hay hm ha0 hl)
  clear ho hx hy hlx hly hax hay hl
  go_enter Tryz.func135, Tryz.ntmps135
  go_wp2_with fail
  refine H.out.mono ?_
  rintro _ w1 ⟨c, rfl, h1, h2⟩
  have H1 := Lib.hid (And.intro h1 h2)
  clear h1 h2
  go_wp2
  go_ret
  exact ⟨c, rfl, H1.out⟩
theorem wdsN_sub {Z L k m : Nat} (h : k + m ≤ L) : ((wdsN Z L).take (k + m)).drop k = wdsN (Z / 18446744073709551616 ^ k) m := by
  refine wdsN_of ?_ fun j hj => ?_
  · rw [List.length_drop, List.length_take, wdsN_length]; omega
  · rw [List.getD_eq_getElem?_getD, List.getElem?_drop, List.getElem?_take, if_pos (by omega), ← List.getD_eq_getElem?_getD, wdsN_getD (by omega)]
    unfold wdg
    rw [Nat.div_div_eq_div_mul, ← Nat.pow_add]
theorem wdsN_take {Z L k : Nat} (h : k ≤ L) : (wdsN Z L).take k = wdsN Z k := by
  have := wdsN_sub (Z := Z) (L := L) (k := 0) (m := k) (by omega)
  rw [Nat.zero_add, List.drop_zero, Nat.pow_zero, Nat.div_one] at this
  exact this
theorem bm_words {Z V m k n S c : Nat} (hk : k < n) (hZ : Z < 18446744073709551616 ^ (m + k)) (hS : S = Z / 18446744073709551616 ^ k + V) (hc : S = wv (wdsN S m) + 18446744073709551616 ^ m * c) (hcl : c < 18446744073709551616) :
    ((wdsN Z (m + n)).take k ++ (wdsN S m ++ (wdsN Z (m + n)).drop (k + m))).set (m + k) c = wdsN (Z + 18446744073709551616 ^ k * V) (m + n) := by
  have hlt : ((wdsN Z (m + n)).take k).length = k := by rw [List.length_take, wdsN_length]; omega
  have hll : ((wdsN Z (m + n)).take k ++ (wdsN S m ++ (wdsN Z (m + n)).drop (k + m))).length = m + n := by
    rw [List.length_append, hlt, List.length_append, wdsN_length, List.length_drop, wdsN_length]; omega
  refine wdsN_eq (by rw [List.length_set, hll]) ?_ ⟨0, ?_⟩
  · refine set_lt ?_ hcl
    intro d hd
    rcases List.mem_append.1 hd with h | h
    · exact wdsN_lt d (List.mem_of_mem_take h)
    · rcases List.mem_append.1 h with h | h
      · exact wdsN_lt d h
      · exact wdsN_lt d (List.mem_of_mem_drop h)
  · have hw := wset (ws := (wdsN Z (m + n)).take k ++ (wdsN S m ++ (wdsN Z (m + n)).drop (k + m))) (i := m + k) (by rw [hll]; omega) c
    have hg : ((wdsN Z (m + n)).take k ++ (wdsN S m ++ (wdsN Z (m + n)).drop (k + m))).getD (m + k) 0 = 0 := by
      rw [List.getD_eq_getElem?_getD, List.getElem?_append_right (by omega), hlt, List.getElem?_append_right (by rw [wdsN_length]; omega), wdsN_length, List.getElem?_drop, ← List.getD_eq_getElem?_getD, wdsN_getD (by omega)]
      unfold wdg
      rw [show k + m + (m + k - k - m) = m + k by omega, Nat.div_eq_of_lt hZ]
    have hD : wv ((wdsN Z (m + n)).drop (k + m)) = 0 := by
      have h1 := wv_split (wdsN Z (m + n)) (k + m) (by rw [wdsN_length]; omega)
      rw [wdsN_take (by omega), wdsN_wv, wdsN_wv, Nat.mod_eq_of_lt (Nat.lt_of_lt_of_le hZ (Nat.pow_le_pow_right (by decide) (by omega))), Nat.add_comm k m, Nat.mod_eq_of_lt hZ] at h1
      have h2 : 18446744073709551616 ^ (m + k) * wv ((wdsN Z (m + n)).drop (m + k)) = 0 := by omega
      rcases Nat.mul_eq_zero.1 h2 with h3 | h3
      · exact absurd h3 (Nat.ne_of_gt (wpow_pos _))
      · rw [Nat.add_comm k m]; exact h3
    obtain ⟨W, hW⟩ : ∃ W, W = wv (((wdsN Z (m + n)).take k ++ (wdsN S m ++ (wdsN Z (m + n)).drop (k + m))).set (m + k) c) := ⟨_, rfl⟩
    rw [← hW] at hw ⊢
    rw [hg, wv_append, hlt, wv_append, wdsN_length, hD, wdsN_take (by omega), wdsN_wv] at hw
    have e1 : 18446744073709551616 ^ (m + k) * c = 18446744073709551616 ^ k * (18446744073709551616 ^ m * c) := by rw [Nat.pow_add, Nat.mul_comm (18446744073709551616 ^ m), Nat.mul_assoc]
    have e2 : 18446744073709551616 ^ k * S = 18446744073709551616 ^ k * wv (wdsN S m) + 18446744073709551616 ^ k * (18446744073709551616 ^ m * c) := by rw [← Nat.mul_add, ← hc]
    have e3 : 18446744073709551616 ^ k * S = 18446744073709551616 ^ k * (Z / 18446744073709551616 ^ k) + 18446744073709551616 ^ k * V := by rw [hS, Nat.mul_add]
    have e4 := Nat.div_add_mod Z (18446744073709551616 ^ k)
    rw [Nat.mul_zero, Nat.mul_zero, Nat.add_zero, Nat.add_zero] at hw
    rw [Nat.mul_zero, Nat.add_zero, hw, e1]
    omega
def BmRel (z : Value) (xs ys : List Nat) (N B k : Nat) (w wr : World) : Prop :=
  Own wr B 98 z (cellsW (wdsN (wv xs * wv (ys.take k)) N)) ∧ Below B w wr ∧ FrB (sBlk z) (sOff z) (sOff z + N) w wr
set_option maxRecDepth 100000 in
set_option maxHeartbeats 6400000 in
theorem basicMul_any (z x y : Value) (os : List Value) (xs ys : List Nat) (B : Nat) (w : World) (hz : Own w B 98 z os) (hx : RW w x xs) (hy : RW w y ys) (hos : os.length = xs.length + ys.length) (hnx : sBlk x ≠ sBlk z) (hny : sBlk y ≠ sBlk z) (h0 : 0 < xs.length) (hl : os.length ≤ 1000000000) :
    Calls Tryz.prog 99 #[z, x, y] w fun e w' => e = .returned (.tuple #[]) ∧ Own w' B 98 z (cellsW (wdsN (wv xs * wv ys) os.length)) ∧ Below B w w' ∧ FrB (sBlk z) (sOff z) (sOff z + os.length) w w' := by
  have hS := hz.isS
  have hSx := hx.isS
  have hSy := hy.isS
  obtain ⟨m, hm⟩ : ∃ m, m = xs.length := ⟨_, rfl⟩
  obtain ⟨n, hn⟩ : ∃ n, n = ys.length := ⟨_, rfl⟩
  obtain ⟨N, hN⟩ : ∃ N, N = os.length := ⟨_, rfl⟩
  have hLz : sLen z = N := by rw [hz.len, hN]
  have hLx : sLen x = m := by rw [hx.len, hm]
  have hLy : sLen y = n := by rw [hy.len, hn]
  have hNm : N = m + n := by omega
  have hcz : N ≤ sCap z := by have := hS.le; omega
  have hcz0 : 0 < sCap z := by omega
  have hBz := (hz.lt hcz0).1
  have hS0 : IsS (subS z 0 N) := subS_isS hS (Nat.zero_le _) hcz
  have hsub := hz.sub (l := 0) (n := N) (Nat.zero_le _) (by omega)
  have hsl : ((os.take N).drop 0).length = N := by simp; omega
  have e1 : (m : Int) + (n : Int) = (N : Int) := by omega
  rw [← hN] at hl ⊢
  rw [← hm] at h0
  have HZ := Lib.hid hz
  have HX := Lib.hid hx
  have HY := Lib.hid hy
  have HNX := Lib.hid hnx
  have HNY := Lib.hid hny
  have HM := Lib.hid hm
  have HN := Lib.hid hn
  have HNN := Lib.hid hN
  have HNM := Lib.hid hNm
  have HSUB := Lib.hid hsub
  have HSL := Lib.hid hsl
  have hmb : m ≤ N := by omega
  clear hz hx hy hnx hny hm hn hN hos hNm hsub hsl
  go_enter Tryz.func99, Tryz.ntmps99
  go_wp2_with (refine wpList_clear_O (o := ⟨none, _, _, _, _, _⟩) rfl (.tmp 14) 85 rfl elemT rfl (subS z 0 N) rfl B _ HSUB.out ?_)
  intro w1 ho1 hb1 hf1
  have hmn : min N os.length = N := by rw [← HNN.out]; exact Nat.min_self _
  rw [hmn] at ho1 hf1
  rw [(sub0 hS).1, (sub0 hS).2] at hf1
  have hp1 := HZ.out.patch (l := 0) (n := N) (Nat.zero_le _) (by rw [← HNN.out]; exact Nat.le_refl _) (by simp) ho1 (by rw [Nat.add_zero]; exact hf1)
  rw [List.take_zero, List.nil_append, List.drop_of_length_le (by rw [← HNN.out]; exact Nat.le_refl _), List.append_nil, cellsW_zeros] at hp1
  have hz0 : List.replicate N 0 = wdsN 0 N := wdsN_of (by simp) (fun j hj => by
    rw [List.getD_eq_getElem?_getD, List.getElem?_replicate, if_pos hj]; simp [wdg])
  have R0 : Hid (BmRel z xs ys N B 0 w w1) := Lib.hid ⟨by rw [List.take_zero, show wv [] = 0 from rfl, Nat.mul_zero, ← hz0]; exact hp1, hb1, hf1⟩
  clear ho1 hb1 hf1 hp1 hz0 HSUB HSL
  go_wp2
  go_loopw [17] (fun i wr => ∃ k : Nat, k ≤ n ∧ i = .int .i64 k ∧ BmRel z xs ys N B k w wr) (fun i _ => n - (intOf i).toNat)
  case atStart => exact ⟨0, Nat.zero_le _, rfl, R0.out⟩
  case round =>
    obtain ⟨k, hk, rfl, hrel⟩ := hrel
    obtain ⟨wo, hwo⟩ : ∃ wo : World, wo = wr := ⟨_, rfl⟩
    subst hwo
    have HREL := Lib.hid hrel
    have HYo := Lib.hid (hrel.2.2.rw HY.out (fun h => absurd h HNY.out))
    have HXo := Lib.hid (hrel.2.2.rw HX.out (fun h => absurd h HNX.out))
    by_cases hkn : k < n
    · have cy := HYo.out.cell k (by rw [← HN.out]; exact hkn)
      have hyl := getD_ltW HY.out.lt k
      have e2 := wv_take_succ (ws := ys) (i := k) (by rw [← HN.out]; exact hkn)
      obtain ⟨d, hd⟩ : ∃ d, d = ys.getD k 0 := ⟨_, rfl⟩
      rw [← hd] at cy hyl e2
      by_cases hd0 : d = 0
      · have t1 : ((d : Int) == 0) = true := by rw [hd0]; rfl
        have HR : Hid (BmRel z xs ys N B (k + 1) w wo) := Lib.hid (by
          unfold BmRel; rw [e2, hd0, Nat.mul_zero, Nat.add_zero]; exact hrel)
        clear hrel e2 hd hd0 HREL
        go_wp2
        exact ⟨⟨k + 1, by omega, by go_num, HR.out⟩, by simp [intOf]; omega⟩
      · have t1 : ((d : Int) == 0) = false := by rw [beq_eq_false_iff_ne]; omega
        obtain ⟨Z, hZ⟩ : ∃ Z, Z = wv xs * wv (ys.take k) := ⟨_, rfl⟩
        have hZl : Z < 18446744073709551616 ^ (m + k) := by
          have h1 := wv_lt HX.out.lt
          have h2 := wv_lt (a := ys.take k) (fun d hd => HY.out.lt d (List.mem_of_mem_take hd))
          rw [List.length_take, show min k ys.length = k by have := HN.out; omega] at h2
          rw [← HM.out] at h1
          rw [hZ, Nat.pow_add]
          exact Nat.mul_lt_mul'' h1 h2
        obtain ⟨S, hSS⟩ : ∃ S, S = Z / 18446744073709551616 ^ k + wv xs * d := ⟨_, rfl⟩
        have hrel' := hrel
        obtain ⟨r1, r2, r3⟩ := hrel'
        rw [← hZ] at r1
        have hkm : k + m ≤ N := by have := HNM.out; omega
        have hSk : IsS (subS z k (k + m)) := subS_isS hS (Nat.le_add_right _ _) (by omega)
        have rs := r1.sub (l := k) (n := k + m) (Nat.le_add_right _ _) (by rw [cellsW_length, wdsN_length]; exact hkm)
        have es : ((cellsW (wdsN Z N)).take (k + m)).drop k = cellsW (wdsN (Z / 18446744073709551616 ^ k) m) := by
          rw [← wdsN_sub hkm]; simp [cellsW]
        rw [es] at rs
        have hq : Z / 18446744073709551616 ^ k < 18446744073709551616 ^ m := by
          refine Nat.div_lt_of_lt_mul ?_
          rw [← Nat.pow_add, Nat.add_comm]; exact hZl
        have HCALL : Hid (∀ j, Calls Tryz.prog 135 #[subS z k (k + m), subS z k (k + m), x, .int .u64 d, .int .u64 0] (wo.drewN j) fun e w' => ∃ c : Nat, e = .returned (.int .u64 c) ∧ (c < 18446744073709551616 ∧ S = wv (wdsN S m) + 18446744073709551616 ^ m * c) ∧ VvP (subS z k (k + m)) m B S wo w') := Lib.hid (fun j => by
          have := addMulVVWW_any (subS z k (k + m)) (subS z k (k + m)) x _ (wdsN (Z / 18446744073709551616 ^ k) m) xs d 0 B (wo.drewN j) (rs.drewN j) ((rs.rw' wdsN_lt).below (undrewN' (Below.refl _ _))) (HXo.out.below (undrewN' (Below.refl _ _)))
            (by rw [cellsW_length]) (by rw [cellsW_length, wdsN_length]; exact HM.out.symm) (fun _ => Nat.le_refl _) (by rw [subS_blk hS]; intro h; exact absurd h HNX.out) hyl (by decide) (by rw [cellsW_length, wdsN_length]; omega)
          rw [cellsW_length, wdsN_length, wv_wdsN_lt hq, Nat.add_zero, ← hSS] at this
          refine this.mono ?_
          rintro _ w' ⟨c, rfl, h1, h2, h3, h4⟩
          exact ⟨c, rfl, h1, h2, undrewN h3, h4.undrewN⟩)
        have HFIN : Hid (∀ c w2, c < 18446744073709551616 → S = wv (wdsN S m) + 18446744073709551616 ^ m * c → VvP (subS z k (k + m)) m B S wo w2 →
            (w2.frozen? ⟨sBlk z, sOff z + (m + k), none⟩ = false ∧ ∃ u, w2.cell? ⟨sBlk z, sOff z + (m + k), none⟩ = some u) ∧ BmRel z xs ys N B (k + 1) w (w2.setCell ⟨sBlk z, sOff z + (m + k), none⟩ (.int .u64 (c : Int)))) := Lib.hid (fun c w2 hc hcS hvp => by
          have hpt := VvP.patch (l := k) (n := k + m) r1 (Nat.le_add_right _ _) (by rw [cellsW_length, wdsN_length]; exact hkm) (by rw [Nat.add_sub_cancel_left]; exact hvp)
          rw [Nat.add_sub_cancel_left] at hpt
          obtain ⟨g1, g2, g3⟩ := hpt
          have ec : (cellsW (wdsN Z N)).take k ++ (cellsW (wdsN S m) ++ (cellsW (wdsN Z N)).drop (k + m)) = cellsW ((wdsN Z N).take k ++ (wdsN S m ++ (wdsN Z N).drop (k + m))) := by simp [cellsW]
          rw [ec] at g1
          have hll : ((wdsN Z N).take k ++ (wdsN S m ++ (wdsN Z N).drop (k + m))).length = N := by
            rw [List.length_append, List.length_take, wdsN_length, List.length_append, wdsN_length, List.length_drop, wdsN_length]; omega
          have hmk : m + k < N := by have := HNM.out; omega
          have gs := g1.set (i := m + k) (by rw [cellsW_length, hll]; exact hmk) (.int .u64 (c : Int))
          have hbw := bm_words (V := wv xs * d) hkn hZl hSS hcS hc
          rw [← HNM.out] at hbw
          rw [cellsW_set, hbw, show Z + 18446744073709551616 ^ k * (wv xs * d) = wv xs * wv (ys.take (k + 1)) by rw [e2, Nat.mul_add, hZ]; congr 1; rw [Nat.mul_left_comm]] at gs
          refine ⟨⟨g1.frozen hcz0 _, _, g1.cell (List.getElem?_eq_getElem (by rw [cellsW_length, hll]; exact hmk))⟩, gs, bset (r2.trans g2) hBz, ?_⟩
          refine r3.trans r2.size ?_
          refine (g3.mono (by omega) (by omega)).set (by omega) (by omega) _)
        have e3 : (k : Int) + (m : Int) = ((k + m : Nat) : Int) := by omega
        have e4 : (m : Int) + (k : Int) = ((m + k : Nat) : Int) := by omega
        obtain ⟨km, hkmE⟩ : ∃ km, km = k + m := ⟨_, rfl⟩
        obtain ⟨mk, hmkE⟩ : ∃ mk, mk = m + k := ⟨_, rfl⟩
        rw [← hkmE] at hSk HCALL HFIN e3 hkm
        rw [← hmkE] at HFIN e4
        have hmkN : mk < N := by have := HNM.out; omega
        have hkkm : k ≤ km := by omega
        have hkc : km ≤ sCap z := by omega
        have hkkm' : (k : Int) ≤ (km : Int) := by omega
        have hkc' : (km : Int) ≤ (sCap z : Int) := by omega
        have hk0 : (0 : Int) ≤ (k : Int) := by omega
        have hw1 : IntKind.i64.wrap (km : Int) = (km : Int) := by rw [IntKind.wrap_i64]; omega
        have hw2 : IntKind.i64.wrap (mk : Int) = (mk : Int) := by rw [IntKind.wrap_i64]; omega
        clear hrel e2 hd hd0 HREL hZ hZl hSS r1 r2 r3 rs es hq hkmE hmkE
        go_upto_region 5 with fail
        first
          | (go_region_held3 (fun _ => True)
              ((exact True.intro))
              (first
                | (go_at_call 135; refine (HCALL.out 1).mono ?_; rintro _ w2 ⟨c, rfl, ⟨hc, hcS⟩, hvp⟩; obtain ⟨⟨fz, u, cu⟩, hq⟩ := HFIN.out c w2 hc hcS hvp; have HQ := Lib.hid hq; clear hcS hvp hq)))
          | fail
        all_goals
          go_wp2
          exact ⟨⟨k + 1, by omega, by go_num, HQ.out⟩, by simp [intOf]; omega⟩
    · have hkk : k = n := by omega
      have HD : Hid (Own wo B 98 z (cellsW (wdsN (wv xs * wv ys) N)) ∧ Below B w wo ∧ FrB (sBlk z) (sOff z) (sOff z + N) w wo) := Lib.hid (by
        have h1 := hrel
        unfold BmRel at h1
        rw [hkk, List.take_of_length_le (by rw [HN.out]; exact Nat.le_refl _)] at h1
        exact h1)
      clear hrel HREL hkk
      go_wp2
      go_end0
      exact ⟨rfl, HD.out⟩
set_option maxRecDepth 100000 in
theorem natOne_any (w : World) : Calls Tryz.prog 66 #[] w fun e w' => ∃ r, e = .returned r ∧ Own w' w.heap.size 98 r (cellsW (wds 1)) ∧ Below w.heap.size w w' := by
  have ho : Own (w.alloc (.cells #[.int .u64 1] 98)) w.heap.size 98 (.slice (some ⟨w.heap.size, 0, none⟩) 1 1) (cellsW (wds 1)) := by
    rw [wds_one]
    exact ⟨IsS.mk (Nat.le_refl _), rfl, by rw [sCap_mk]; unfold maxLen; omega, .inr ⟨Nat.le_refl _, _, heap_alloc_new w _, by simp, by simp [cellsW]⟩⟩
  have HO := Lib.hid ho
  clear ho
  go_enter Tryz.func66, Tryz.ntmps66
  go_wp2
  go_ret
  exact ⟨_, rfl, HO.out, (Below.refl _ _).alloc (Nat.le_refl _) _⟩
theorem nil_cap0 : ¬ 0 < sCap (.slice none 0 0) := by decide
def Av (z x : Value) : Prop := x = z ∨ (0 < sCap z → sBlk z ≠ sBlk x)
theorem Av.nil (x : Value) : Av (.slice none 0 0) x := .inr fun h => absurd h (by decide)
theorem Av.al {z x : Value} (h : Av z x) : Al z x := by
  rcases h with rfl | h
  · exact fun _ _ => rfl
  · exact fun h1 h2 => absurd h2.symm (h h1)
set_option maxRecDepth 100000 in
set_option maxHeartbeats 800000 in
theorem alias_same (x : Value) (xs : List Value) (B : Nat) (w : World) (hx : Own w B 98 x xs) (h0 : 0 < sCap x) :
    Calls Tryz.prog 93 #[x, x] w fun e w' => e = .returned (.bool true) ∧ ∃ m, w' = w.drewN m := by
  have hSx := hx.isS
  obtain ⟨cx, hcx⟩ : ∃ c, c = sCap x := ⟨_, rfl⟩
  have ex : sCap x = cx := hcx.symm
  have hmx := hx.cap
  unfold maxLen at hmx
  rw [ex] at hmx
  have t1' : decide (0 < cx) = true := decide_eq_true (by omega)
  have hS1 : IsS (subS x 0 cx) := subS_isS hSx (Nat.zero_le _) (by omega)
  have hl1 : sLen (subS x 0 cx) = cx := by rw [subS_len hSx]; omega
  have hq := fun (m i : Nat) => eqlW_same (w.drewN m) ⟨sBlk (subS x 0 cx), i, none⟩
  obtain ⟨kx, hkx⟩ : ∃ k, cx = k + 1 := ⟨cx - 1, by omega⟩
  have e1 : (cx : Int) - 1 = (kx : Int) := by omega
  have w1 : IntKind.i64.wrap ((cx : Int) - 1) = (kx : Int) := by rw [IntKind.wrap_i64]; omega
  have k1 : kx < cx := by omega
  clear hx hcx h0 hkx
  go_enter Tryz.func93, Tryz.ntmps93
  go_wp2_with fail
  go_quiet (fail)
  go_wp2
  go_ret
  exact ⟨rfl, _, rfl⟩
structure Opn (w : World) (x : Value) (X : Nat) : Prop where
  ro : RO w x (wds X)
  cap : sCap x ≤ maxLen
theorem Opn.of {w : World} {B X : Nat} {x : Value} (h : Own w B 98 x (cellsW (wds X))) : Opn w x X := ⟨h.ro (wds_all _), h.cap⟩
theorem Opn.drewN {w : World} {x : Value} {X : Nat} (h : Opn w x X) (k : Nat) : Opn (w.drewN k) x X := ⟨h.ro.below (undrewN' (Below.refl _ _)), h.cap⟩
theorem Opn.below {w w' : World} {x : Value} {X : Nat} (h : Opn w x X) (hb : Below w.heap.size w w') : Opn w' x X := ⟨h.ro.below hb, h.cap⟩
theorem Opn.len {w : World} {x : Value} {X : Nat} (h : Opn w x X) : sLen x = nw X := by rw [h.ro.rw.len, wds_length]
theorem Opn.lt {w : World} {x : Value} {X : Nat} (h : Opn w x X) (h0 : 0 < nw X) : sBlk x < w.heap.size := by
  obtain ⟨c, hc⟩ := h.ro.row (by rw [wds_length]; exact h0)
  exact get_lt hc
set_option maxRecDepth 100000 in
set_option maxHeartbeats 800000 in
theorem alias_no (z x : Value) (zs : List Value) (X B : Nat) (w : World) (hz : Own w B 98 z zs) (hx : Opn w x X) (h0 : 0 < nw X) (hne : 0 < sCap z → sBlk z ≠ sBlk x) :
    Calls Tryz.prog 93 #[z, x] w fun e w' => e = .returned (.bool false) ∧ ∃ m, w' = w.drewN m := by
  have hSx := hz.isS
  have hSy := hx.ro.rw.isS
  obtain ⟨cx, hcx⟩ : ∃ c, c = sCap z := ⟨_, rfl⟩
  obtain ⟨cy, hcy⟩ : ∃ c, c = sCap x := ⟨_, rfl⟩
  have ex : sCap z = cx := hcx.symm
  have ey : sCap x = cy := hcy.symm
  have hmx := hz.cap
  have hmy := hx.cap
  unfold maxLen at hmx hmy
  rw [ex] at hmx
  rw [ey] at hmy
  have hle := hSy.le
  have hl := hx.len
  by_cases h1 : cx = 0
  · have t1' : decide (0 < cx) = false := decide_eq_false (by omega)
    clear hz hx hne hcx hcy h1 h0 hle hl
    go_enter Tryz.func93, Tryz.ntmps93
    go_wp2_with fail
    go_quiet (fail)
    go_wp2
    go_ret
    exact ⟨rfl, _, rfl⟩
  have t1' : decide (0 < cx) = true := decide_eq_true (by omega)
  have t2' : decide (0 < cy) = true := decide_eq_true (by omega)
  obtain ⟨rx, hrx⟩ := hz.rowOf (by omega)
  obtain ⟨ry, hry⟩ := hx.ro.row (by rw [wds_length]; exact h0)
  have hS1 : IsS (subS z 0 cx) := subS_isS hSx (Nat.zero_le _) (by omega)
  have hS2 : IsS (subS x 0 cy) := subS_isS hSy (Nat.zero_le _) (by omega)
  have hl1 : sLen (subS z 0 cx) = cx := by rw [subS_len hSx]; omega
  have hl2 : sLen (subS x 0 cy) = cy := by rw [subS_len hSy]; omega
  have hq := fun (m i k : Nat) => eqlW (w.drewN m) (b := sBlk (subS z 0 cx)) (o := i) (c := sBlk (subS x 0 cy)) (q := k) (by rw [subS_blk hSx, subS_blk hSy]; exact hne (by omega)) (by rw [subS_blk hSx]; exact hrx) (by rw [subS_blk hSy]; exact hry)
  obtain ⟨kx, hkx⟩ : ∃ k, cx = k + 1 := ⟨cx - 1, by omega⟩
  obtain ⟨ky, hky⟩ : ∃ k, cy = k + 1 := ⟨cy - 1, by omega⟩
  have e1 : (cx : Int) - 1 = (kx : Int) := by omega
  have e2 : (cy : Int) - 1 = (ky : Int) := by omega
  have w1 : IntKind.i64.wrap ((cx : Int) - 1) = (kx : Int) := by rw [IntKind.wrap_i64]; omega
  have w2 : IntKind.i64.wrap ((cy : Int) - 1) = (ky : Int) := by rw [IntKind.wrap_i64]; omega
  have k1 : kx < cx := by omega
  have k2 : ky < cy := by omega
  clear hz hx hne hcx hcy h0 h1 hrx hry hkx hky hle hl
  go_enter Tryz.func93, Tryz.ntmps93
  go_wp2_with fail
  go_quiet (fail)
  go_wp2
  go_ret
  exact ⟨rfl, _, rfl⟩
theorem alias_av (z x : Value) (zs : List Value) (X B : Nat) (w : World) (hz : Own w B 98 z zs) (hx : Opn w x X) (h0 : 0 < nw X) (h : Av z x) :
    Calls Tryz.prog 93 #[z, x] w fun e w' => ∃ b, e = .returned (.bool b) ∧ (b = false → 0 < sCap z → sBlk z ≠ sBlk x) ∧ ∃ m, w' = w.drewN m := by
  by_cases hne : 0 < sCap z → sBlk z ≠ sBlk x
  · refine (alias_no z x zs X B w hz hx h0 hne).mono ?_
    rintro e w' ⟨h1, h2⟩
    exact ⟨false, h1, fun _ => hne, h2⟩
  · rcases h with rfl | h
    · have hc : 0 < sCap x := by
        have := hx.ro.rw.isS.le
        have := hx.len
        omega
      refine (alias_same x zs B w hz hc).mono ?_
      rintro e w' ⟨h1, h2⟩
      exact ⟨true, h1, (fun hc => by cases hc), h2⟩
    · exact absurd h hne
theorem NatR.ofNil {z r : Value} {N B : Nat} {w w' : World} (h : NatR (.slice none 0 0) r N B w w') : NatR z r N B w w' := by
  refine ⟨h.own, h.below, fun k hk _ => h.fr k hk (fun hc => absurd hc nil_cap0), fun hc => ?_⟩
  rcases h.at' hc with ⟨k1, -⟩ | k1
  · exact absurd k1 nil_cap0
  · exact .inr k1
theorem NatR.ofDrew {z r : Value} {N B m : Nat} {w w' : World} (h : NatR z r N B (w.drewN m) w') : NatR z r N B w w' :=
  ⟨h.own, undrewN h.below, fun k hk hn => h.fr k hk hn, h.at'⟩
theorem NatR.zero (z : Value) (zs : List Value) (B : Nat) (w : World) (hz : Own w B 98 z zs) : NatR z (subS z 0 0) 0 B w w := by
  have hS := hz.isS
  refine ⟨by have := hz.sub (l := 0) (n := 0) (Nat.le_refl _) (Nat.zero_le _); simpa [cellsW, wds_zero] using this, Below.refl _ _, Fr.refl _ _, fun hc => .inl ?_⟩
  rw [subS_blk hS]
  rw [subS_cap hS] at hc
  exact ⟨by omega, rfl⟩
structure SqS (z x y q : Value) (X Y N B : Nat) (w w1 : World) : Prop where
  own : ∃ os : List Value, os.length = N ∧ Own w1 B 98 q os
  ox : RW w1 x (wds X)
  oy : RW w1 y (wds Y)
  nx : sBlk x ≠ sBlk q
  ny : sBlk y ≠ sBlk q
  how : MkP z q N B w w1
structure SqT (z q : Value) (Z N B : Nat) (w w2 : World) : Prop where
  own : Own w2 B 98 q (cellsW (wdsN Z N))
  below : Below B w w2
  fr : Fr z w w2
  sz : IsS z
  ats : ∀ k, 0 < sCap (subS q 0 k) → (0 < sCap z ∧ sBlk (subS q 0 k) = sBlk z) ∨ w.heap.size ≤ sBlk (subS q 0 k)
theorem mk_sq (z x y : Value) (zs : List Value) (X Y N B : Nat) (w : World) (hz : Own w B 98 z zs) (hx : Opn w x X) (hy : Opn w y Y)
    (nx : 0 < sCap z → sBlk z ≠ sBlk x) (ny : 0 < sCap z → sBlk z ≠ sBlk y) (cx : 0 < nw X) (cy : 0 < nw Y) (hN : N ≤ 1000000000) (hN0 : 0 < N) (hB : B ≤ w.heap.size) :
    Calls Tryz.prog 94 #[z, .int .i64 N] w fun e w1 => ∃ q, e = .returned q ∧ IsS q ∧ sLen q = N ∧ Below w.heap.size w w1 ∧ SqS z x y q X Y N B w w1 := by
  refine (make_any z zs N B w hz hN hB).mono ?_
  rintro _ w1 ⟨q, rfl, hm⟩
  obtain ⟨os, ho, hq⟩ := hm.own
  have hb := hm.below
  have hSz := hz.isS
  have hcq : 0 < sCap q := by have := hq.isS.le; rw [hq.len] at this; omega
  have hx1 := hx.lt cx
  have hy1 := hy.lt cy
  refine ⟨q, rfl, hq.isS, by rw [hq.len]; exact ho, hb, ⟨⟨os, ho, hq⟩, (hx.below hb).ro.rw, (hy.below hb).ro.rw, ?_, ?_, hm⟩⟩
  · rcases hm.at_ hSz hcq with ⟨k1, k2⟩ | k1
    · rw [k2]; exact (nx k1).symm
    · omega
  · rcases hm.at_ hSz hcq with ⟨k1, k2⟩ | k1
    · rw [k2]; exact (ny k1).symm
    · omega
theorem SqS.mul {z x y q : Value} {X Y N B : Nat} {w w1 : World} (h : SqS z x y q X Y N B w w1) (hz : IsS z) (hN : N = nw X + nw Y) (hX : 0 < nw X) (hl : N ≤ 1000000000) (hB : B ≤ w.heap.size) :
    Calls Tryz.prog 99 #[q, x, y] w1 fun e w2 => e = .returned (.tuple #[]) ∧ SqT z q (X * Y) N B w w2 := by
  obtain ⟨os, ho, hq⟩ := h.own
  refine (basicMul_any q x y os (wds X) (wds Y) B w1 hq h.ox h.oy (by rw [wds_length, wds_length, ho, hN]) h.nx h.ny (by rw [wds_length]; exact hX) (by omega)).mono ?_
  rintro e w2 ⟨he, h1, h2, h3⟩
  rw [wv_wds, wv_wds, ho] at h1
  refine ⟨he, h1, (h.how.below.mono hB).trans h2, h.how.fr hz (by omega) h2.size h3.only, hz, fun k hc => h.how.atS hz hq.isS hc⟩
theorem SqT.norm {z q : Value} {Z N B : Nat} {w w2 : World} (h : SqT z q Z N B w w2) (hZ : Z < 18446744073709551616 ^ N) (hl : N ≤ 1000000000) :
    Calls Tryz.prog 89 #[q] w2 fun e w' => ∃ r, e = .returned r ∧ IsS r ∧ NatR z r Z B w w' := by
  have hN := norm_any q _ w2 (h.own.rw' wdsN_lt) (by rw [wdsN_length]; exact hl)
  have hT := h.own.takeW wdsN_lt
  rw [wv_wdsN_lt hZ] at hN hT
  refine hN.mono ?_
  rintro e _ ⟨h1, rfl⟩
  exact ⟨_, h1, hT.isS, hT, h.below, h.fr, h.ats _⟩
theorem lt_pow_mul (X Y : Nat) : X * Y < 18446744073709551616 ^ (nw X + nw Y) := by
  rw [Nat.pow_add]; exact Nat.mul_lt_mul'' (lt_nw X) (lt_nw Y)
def SqrW (w : World) : Prop := w.cell? ⟨1, 0, none⟩ = some (.int .i64 12) ∧ w.cell? ⟨2, 0, none⟩ = some (.int .i64 80)
theorem SqrW.below {w w' : World} (h : SqrW w) (hb : Below w.heap.size w w') : SqrW w' := by
  have h1 := World.block_lt_of_cell? w _ h.1
  have h2 := World.block_lt_of_cell? w _ h.2
  refine ⟨?_, ?_⟩
  · rw [hb.cell (p := ⟨1, 0, none⟩) h1]; exact h.1
  · rw [hb.cell (p := ⟨2, 0, none⟩) h2]; exact h.2
theorem SqrW.drewN {w : World} (h : SqrW w) (n : Nat) : SqrW (w.drewN n) := h
set_option maxRecDepth 100000 in
set_option maxHeartbeats 3200000 in
theorem nsqr_one {pk : Option Addr} (z x : Value) (zs : List Value) (X B : Nat) (w : World) (hz : Own w B 98 z zs) (hx : Opn w x X) (h1 : nw X = 1) (hB : B ≤ w.heap.size) :
    Calls Tryz.prog 62 #[z, .pointer pk, x] w fun e w' => ∃ r, e = .returned r ∧ IsS r ∧ NatR z r (X * X) B w w' := by
  have hSz := hz.isS
  have hSx := hx.ro.rw.isS
  have hLx : sLen x = 1 := by rw [hx.len, h1]
  have hXl : X < 18446744073709551616 := by have := lt_nw X; rw [h1, Nat.pow_one] at this; exact this
  have hcx := hSx.le
  have cx := hx.ro.rw.cell 0 (by rw [wds_length, h1]; decide)
  rw [wds_getD, wdg_zero_eq, Nat.mod_eq_of_lt hXl, Nat.add_zero] at cx
  have HM := Lib.hid (fun W => mulWW_any X X W hXl hXl)
  have HK := Lib.hid (make_any z zs 2 B w hz (by decide) hB)
  obtain ⟨hi, hhi⟩ : ∃ hi, hi = X * X / 18446744073709551616 := ⟨_, rfl⟩
  obtain ⟨lo, hlo⟩ : ∃ lo, lo = X * X % 18446744073709551616 := ⟨_, rfl⟩
  have hhl : hi < 18446744073709551616 := by rw [hhi, Nat.div_lt_iff_lt_mul (by decide)]; exact Nat.mul_lt_mul'' hXl hXl
  have hll : lo < 18446744073709551616 := by rw [hlo]; exact Nat.mod_lt _ (by decide)
  have hw : wv [lo, hi] = X * X := by
    have := Nat.div_add_mod (X * X) 18446744073709551616
    simp only [wv]
    omega
  rw [← hhi, ← hlo] at HM
  have HF : Hid (∀ q w1, MkP z q 2 B w w1 → IsS q ∧ sLen q = 2 ∧ (∃ u0 u1, w1.cell? ⟨sBlk q, sOff q, none⟩ = some u0 ∧ w1.cell? ⟨sBlk q, sOff q + 1, none⟩ = some u1 ∧ w1.frozen? ⟨sBlk q, sOff q, none⟩ = false ∧ w1.frozen? ⟨sBlk q, sOff q + 1, none⟩ = false) ∧
      Calls Tryz.prog 89 #[q] ((w1.setCell ⟨sBlk q, sOff q + 1, none⟩ (.int .u64 (hi : Int))).setCell ⟨sBlk q, sOff q, none⟩ (.int .u64 (lo : Int))) fun e w' => ∃ r, e = .returned r ∧ IsS r ∧ NatR z r (X * X) B w w') := Lib.hid (fun q w1 hm => by
    obtain ⟨os, ho, hq⟩ := hm.own
    have hSq := hq.isS
    have hLq : sLen q = 2 := by rw [hq.len]; exact ho
    have hcq : 0 < sCap q := by have := hSq.le; omega
    have k1 : 0 < os.length := by omega
    have k2 : 1 < os.length := by omega
    have g1 := hq.set k2 (.int .u64 (hi : Int))
    have g2 := g1.set (i := 0) (by rw [List.length_set]; exact k1) (.int .u64 (lo : Int))
    rw [Nat.add_zero] at g2
    have e : (os.set 1 (.int .u64 (hi : Int))).set 0 (.int .u64 (lo : Int)) = cellsW [lo, hi] := by
      match os, ho with
      | [a, b], _ => rfl
    rw [e] at g2
    have hlt : ∀ d ∈ [lo, hi], d < 18446744073709551616 := by
      intro d hd
      simp at hd
      rcases hd with rfl | rfl <;> assumption
    have hN := norm_any q _ _ (g2.rw' hlt) (by simp)
    have hT := g2.takeW hlt
    rw [hw] at hN hT
    have hBq := (hq.lt hcq).1
    have hb2 : Below B w1 ((w1.setCell ⟨sBlk q, sOff q + 1, none⟩ (.int .u64 (hi : Int))).setCell ⟨sBlk q, sOff q, none⟩ (.int .u64 (lo : Int))) := bset (bset (Below.refl _ _) hBq) hBq
    have ho2 : Only (sBlk q) w1 ((w1.setCell ⟨sBlk q, sOff q + 1, none⟩ (.int .u64 (hi : Int))).setCell ⟨sBlk q, sOff q, none⟩ (.int .u64 (lo : Int))) := fun k _ hne => by
      rw [heap_setCell_other _ _ _ _ (by simpa using hne), heap_setCell_other _ _ _ _ (by simpa using hne)]
    refine ⟨hSq, hLq, ⟨_, _, by have := hq.cell (i := 0) (List.getElem?_eq_getElem k1); rw [Nat.add_zero] at this; exact this, hq.cell (List.getElem?_eq_getElem k2), hq.frozen hcq _, hq.frozen hcq _⟩, hN.mono fun e w' h => ⟨_, h.1, hT.isS, ?_⟩⟩
    rw [← h.2]
    exact ⟨hT, (hm.below.mono hB).trans hb2, hm.fr hSz (by decide) hb2.size ho2, fun hc => hm.atS hSz hSq hc⟩)
  have t1 : ((1 : Int) == 0) = false := rfl
  clear hz hx hhi hlo hw h1 hXl hhl hll hB
  go_enter Tryz.func62, Tryz.ntmps62
  go_wp2_with fail
  refine HK.out.mono ?_
  rintro _ w1 ⟨q, rfl, hm⟩
  obtain ⟨hSq, hLq, ⟨u0, u1, cq0, cq1, f0, f1⟩, hn⟩ := HF.out q w1 hm
  have HN := Lib.hid hn
  have hcq := hSq.le
  clear hm hn
  go_wp2_with fail
  refine (HM.out _).mono ?_
  rintro _ _ ⟨rfl, rfl⟩
  go_wp2_with fail
  refine HN.out.mono ?_
  rintro _ w2 ⟨r, rfl, hSr, hr⟩
  have Q := Lib.hid hr
  clear hr
  go_wp2
  go_ret
  exact ⟨_, rfl, hSr, Q.out⟩
set_option maxRecDepth 100000 in
set_option maxHeartbeats 3200000 in
theorem nsqr_gen {pk : Option Addr} (z x : Value) (zs : List Value) (X B : Nat) (w : World) (hz : Own w B 98 z zs) (hx : Opn w x X)
    (ax : Av z x) (hk : nw X < 12) (hB : B ≤ w.heap.size) (hK : SqrW w) :
    Calls Tryz.prog 62 #[z, .pointer pk, x] w fun e w' => ∃ r, e = .returned r ∧ IsS r ∧ NatR z r (X * X) B w w' := by
  by_cases h1 : nw X = 1
  · exact nsqr_one z x zs X B w hz hx h1 hB
  have hSz := hz.isS
  have hSx := hx.ro.rw.isS
  have hSn := IsS.nil
  obtain ⟨n, hn⟩ : ∃ n, n = nw X := ⟨_, rfl⟩
  have hLx : sLen x = n := by rw [hx.len, hn]
  rw [← hn] at hk h1
  rcases Nat.eq_zero_or_pos n with hn0 | hn0
  · have hX0 : X = 0 := nw_eq_zero.1 (by omega)
    have Q : Hid (NatR z (subS z 0 0) (X * X) B w w) := Lib.hid (by rw [hX0, Nat.mul_zero]; exact NatR.zero z zs B w hz)
    have hS0 : IsS (subS z 0 0) := subS_isS hSz (Nat.zero_le _) (Nat.zero_le _)
    subst hn0
    clear hz hx hn hX0 hK ax h1
    go_enter Tryz.func62, Tryz.ntmps62
    go_wp2
    go_ret
    exact ⟨_, rfl, hS0, Q.out⟩
  have t2 : ((n : Int) == 0) = false := by rw [beq_eq_false_iff_ne]; omega
  have t3 : ((n : Int) == 1) = false := by rw [beq_eq_false_iff_ne]; omega
  have hcx : 0 < nw X := by omega
  obtain ⟨N, hN⟩ : ∃ N, N = n + n := ⟨_, rfl⟩
  have e1 : 2 * (n : Int) = (N : Int) := by omega
  have t5 : decide ((n : Int) < 12) = true := decide_eq_true (by omega)
  have t5' : decide (n < 12) = true := decide_eq_true (by omega)
  have t6 : decide ((n : Int) < 80) = true := decide_eq_true (by omega)
  have t6' : decide (n < 80) = true := decide_eq_true (by omega)
  have HAX := Lib.hid (alias_av z x zs X B w hz hx hcx ax)
  have hNb : N ≤ 1000000000 := by omega
  have hNp : 0 < N := by omega
  have HMN : Hid (∀ k, Calls Tryz.prog 94 #[.slice none 0 0, .int .i64 N] (w.drewN k) fun e w1 => ∃ q, e = .returned q ∧ IsS q ∧ sLen q = N ∧ SqrW w1 ∧ SqS (.slice none 0 0) x x q X X N B (w.drewN k) w1) := Lib.hid (fun k => by
    refine (mk_sq (.slice none 0 0) x x [] X X N B (w.drewN k) (.nil _ _ _) (hx.drewN k) (hx.drewN k) (fun h => absurd h nil_cap0) (fun h => absurd h nil_cap0) hcx hcx hNb hNp hB).mono ?_
    rintro e w1 ⟨q, h1, h2, h3, h4, h5⟩
    exact ⟨q, h1, h2, h3, (hK.drewN k).below h4, h5⟩)
  have HMZ : Hid (∀ k, (0 < sCap z → sBlk z ≠ sBlk x) → Calls Tryz.prog 94 #[z, .int .i64 N] (w.drewN k) fun e w1 => ∃ q, e = .returned q ∧ IsS q ∧ sLen q = N ∧ SqrW w1 ∧ SqS z x x q X X N B (w.drewN k) w1) := Lib.hid (fun k nx => by
    refine (mk_sq z x x zs X X N B (w.drewN k) (hz.drewN k) (hx.drewN k) (hx.drewN k) nx nx hcx hcx hNb hNp hB).mono ?_
    rintro e w1 ⟨q, h1, h2, h3, h4, h5⟩
    exact ⟨q, h1, h2, h3, (hK.drewN k).below h4, h5⟩)
  have HMU : Hid (∀ z' k q w1, IsS z' → SqS z' x x q X X N B (w.drewN k) w1 → Calls Tryz.prog 99 #[q, x, x] w1 fun e w2 => e = .returned (.tuple #[]) ∧ SqT z' q (X * X) N B (w.drewN k) w2) := Lib.hid (fun z' k q w1 hS h => h.mul hS (by rw [hN, hn]) (by omega) hNb hB)
  have HNO : Hid (∀ z' k q w2, SqT z' q (X * X) N B (w.drewN k) w2 → (z' = z ∨ z' = .slice none 0 0) → Calls Tryz.prog 89 #[q] w2 fun e w' => ∃ r, e = .returned r ∧ IsS r ∧ NatR z r (X * X) B w w') := Lib.hid (fun z' k q w2 h hz' => by
    refine (h.norm (by rw [hN, hn]; exact lt_pow_mul X X) hNb).mono ?_
    rintro e w' ⟨r, h1, h2, h3⟩
    rcases hz' with rfl | rfl
    · exact ⟨r, h1, h2, h3.ofDrew⟩
    · exact ⟨r, h1, h2, h3.ofNil.ofDrew⟩)
  clear hz hx hn hK h1 hN ax hB hcx
  go_enter Tryz.func62, Tryz.ntmps62
  go_wp2_with fail
  refine HAX.out.mono ?_
  rintro _ _ ⟨b1, rfl, hb1, k1, rfl⟩
  cases b1 with
  | true =>
    clear hb1
    go_wp2_with fail
    refine (HMN.out k1).mono ?_
    rintro _ w1 ⟨q, rfl, hSq, hLq, kk1, hs⟩
    obtain ⟨kc1, kc2⟩ := kk1
    have HS := Lib.hid hs
    clear hs
    go_wp2_with fail
    refine (HMU.out (.slice none 0 0) k1 q w1 hSn HS.out).mono ?_
    rintro _ w2 ⟨rfl, ht⟩
    have HT := Lib.hid ht
    clear ht kc1 kc2
    go_wp2_with fail
    refine (HNO.out (.slice none 0 0) k1 q w2 HT.out (.inr rfl)).mono ?_
    rintro _ w3 ⟨r, rfl, hSr, hr⟩
    have Q := Lib.hid hr
    clear hr
    go_wp2
    go_ret
    exact ⟨_, rfl, hSr, Q.out⟩
  | false =>
    have HNE := Lib.hid (hb1 rfl)
    clear hb1
    go_wp2_with fail
    refine (HMZ.out k1 HNE.out).mono ?_
    rintro _ w1 ⟨q, rfl, hSq, hLq, kk1, hs⟩
    obtain ⟨kc1, kc2⟩ := kk1
    have HS := Lib.hid hs
    clear hs
    go_wp2_with fail
    refine (HMU.out z k1 q w1 hSz HS.out).mono ?_
    rintro _ w2 ⟨rfl, ht⟩
    have HT := Lib.hid ht
    clear ht kc1 kc2
    go_wp2_with fail
    refine (HNO.out z k1 q w2 HT.out (.inl rfl)).mono ?_
    rintro _ w3 ⟨r, rfl, hSr, hr⟩
    have Q := Lib.hid hr
    clear hr
    go_wp2
    go_ret
    exact ⟨_, rfl, hSr, Q.out⟩
end Go.Proofs.YtoddjkpckpekcaaGreatDoor
