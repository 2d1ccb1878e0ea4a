/-
Natural numbers of the reference: Power, byDigit. No condition.
-/
import Derived.Test.YtedmkbpfmddafaaSpC
namespace Go.Proofs.Ytedmkbpfmddafaa
open Go.RowKit

theorem bthen {a b c : World} (h : Below a.heap.size a b) (k : Below b.heap.size b c) : Below a.heap.size a c := h.trans (k.mono h.size)
theorem nl_pow {b n : Nat} (hb : b < 65536) : nl (b ^ n) ≤ n + 1 :=
  nl_le (Nat.lt_of_le_of_lt (Nat.pow_le_pow_left (Nat.le_of_lt hb) n) (Nat.pow_lt_pow_right (by decide) (by omega)))
set_option maxRecDepth 100000 in
set_option maxHeartbeats 400000 in
theorem spPower (b n : Nat) (w : World) (hb : b < 65536) (hn : n ≤ 100000000) :
    Calls Try.prog 19 #[.int .i64 b, .int .i64 n] w fun e w' => ∃ r, e = .returned r ∧ NPost (b ^ n) w r w' := by
  go_enter Try.func19, Try.ntmps19
  go_wp2_with fail
  refine (spSmall 1 w (by decide)).mono ?_
  rintro _ w1 ⟨r1, rfl, h1, hb1⟩
  have H1 := Lib.hid h1
  clear h1
  go_wp2
  go_loopw [1, 5] (fun i u wr => ∃ m : Nat, m ≤ n ∧ i = .int .i64 m ∧ NatV wr u (b ^ (n - m)) ∧ Below w.heap.size w wr) (fun i _ _ => (intOf i).toNat)
  case atStart => exact ⟨n, Nat.le_refl _, rfl, by rw [Nat.sub_self]; exact H1.out, hb1⟩
  case round =>
    obtain ⟨m, hm, rfl, hu, hbl⟩ := hrel
    have Hu := Lib.hid hu
    clear hu
    by_cases hm0 : 0 < m
    · go_wp2_with fail
      refine (spSmall b wr (by omega)).mono ?_
      rintro _ w2 ⟨r2, rfl, h2, hb2⟩
      have H2 := Lib.hid h2
      clear h2
      go_wp2_with fail
      have n1 := nl_pow (b := b) (n := n - m) hb
      have n2 := nl_le4 (n := b) (by omega)
      refine (spMul _ _ _ _ w2 (Hu.out.below hb2) H2.out (by omega) (by omega)).mono ?_
      rintro _ w3 ⟨r3, rfl, h3, hb3⟩
      have H3 := Lib.hid h3
      clear h3
      go_wp2
      go_roundw
      case rel =>
        refine ⟨m - 1, by omega, by go_num, ?_, bthen (bthen hbl hb2) hb3⟩
        rw [show n - (m - 1) = (n - m) + 1 by omega, Nat.pow_succ]
        exact H3.out
      case measure => simp [intOf]; omega
    · have hm0' : m = 0 := by omega
      subst hm0'
      go_wp2
      go_ret
      exact ⟨_, rfl, Hu.out, hbl⟩

/-- byDigit's relation: the digits from k on are of the quotient. -/
def QdRel (x d B L k r : Nat) (w : World) (v : Value) (wr : World) : Prop :=
  ∃ os : List Nat, Own wr B 3 v (cellsN os) ∧ os.length = L ∧ (∀ d ∈ os, d < 65536) ∧ (∀ j, j < k → os.getD j 0 = 0) ∧ (∃ Q, val os = 65536 ^ k * Q ∧ Q * d + r = x / 65536 ^ k) ∧ Below B w wr
theorem div_pow_step (x k : Nat) : x / 65536 ^ k = x / 65536 ^ (k + 1) * 65536 + dig x k := by
  unfold dig
  rw [Nat.pow_succ, ← Nat.div_div_eq_div_mul]
  omega
theorem qdStore {x d B L k r : Nat} {w wr : World} {v : Value} {os : List Nat} (ho : Own wr B 3 v (cellsN os)) (hL : os.length = L) (hd : ∀ d ∈ os, d < 65536) (hz : ∀ j, j < k + 1 → os.getD j 0 = 0)
    (hv : ∃ Q, val os = 65536 ^ (k + 1) * Q ∧ Q * d + r = x / 65536 ^ (k + 1)) (hb : Below B w wr) (hk : k < L) (hr : r < d) (hd' : 0 < d) :
    QdRel x d B L k ((r * 65536 + dig x k) % d) w v (wr.setCell ⟨sBlk v, sOff v + k, none⟩ (.int .i64 (((r * 65536 + dig x k) / d : Nat) : Int))) := by
  have hs := ho.set (i := k) (by rw [cellsN_length]; omega) (.int .i64 (((r * 65536 + dig x k) / d : Nat) : Int))
  rw [cellsN_set] at hs
  have hl := ho.len
  rw [cellsN_length] at hl
  have hcp := ho.isS.le
  refine ⟨_, hs, by simpa using hL, ?_, fun j hj => ?_, ?_, bset hb (ho.lt (by omega)).1⟩
  · intro z hz'
    rcases List.mem_or_eq_of_mem_set hz' with h | h
    · exact hd z h
    · rw [h]
      have := dig_lt x k
      rw [Nat.div_lt_iff_lt_mul hd']
      have : (r + 1) * 65536 ≤ d * 65536 := Nat.mul_le_mul_right _ hr
      omega
  · rw [getD_set _ _ _ _ (by omega), if_neg (by omega)]; exact hz j (by omega)
  · obtain ⟨Q, h1, h2⟩ := hv
    refine ⟨Q * 65536 + (r * 65536 + dig x k) / d, ?_, ?_⟩
    · have h3 := val_set (a := os) (i := k) (by omega) ((r * 65536 + dig x k) / d)
      rw [hz k (by omega), h1, Nat.pow_succ] at h3
      generalize (r * 65536 + dig x k) / d = q at *
      generalize val (os.set k q) = V at *
      grind
    · rw [div_pow_step x k, ← h2]
      have h3 := Nat.div_add_mod (r * 65536 + dig x k) d
      generalize (r * 65536 + dig x k) / d = q at *
      generalize (r * 65536 + dig x k) % d = z at *
      grind
def BDPost (n d : Nat) (w : World) (q : Value) (w' : World) : Prop := NatV w' q (n / d) ∧ Below w.heap.size w w'
set_option maxRecDepth 100000 in
set_option maxHeartbeats 800000 in
theorem spByDigit (a : Value) (x d : Nat) (w : World) (ha : NatV w a x) (hx : nl x ≤ 1000000000) (hd0 : 0 < d) (hd1 : d < 65536) :
    Calls Try.prog 44 #[a, .int .i64 d] w fun e w' => ∃ q, e = .returned (.tuple #[q, .int .i64 ((x % d : Nat) : Int)]) ∧ BDPost x d w q w' := by
  have hSa := ha.isS
  have hLa := ha.len
  obtain ⟨la, hla⟩ : ∃ la, la = nl x := ⟨_, rfl⟩
  rw [← hla] at hLa hx
  have Hla := Lib.hid hla
  have Ha := Lib.hid ha
  clear hla ha
  go_enter Try.func44, Try.ntmps44
  go_wp2_with (at_make; refine wpList_make_O rfl _ _ _ rfl elemN .i64 .i64 _ _ rfl rfl w.heap.size ?c1 ?c2 ?c3 ?c4 ?c5 ?_)
  case c1 => omega
  case c2 => omega
  case c3 => omega
  case c4 => omega
  case c5 => exact Nat.le_refl _
  rintro v0 w0 - ho0 hb0 -
  have e0 : List.replicate la (Value.int .i64 0) = cellsN (List.replicate la 0) := by simp [cellsN]
  rw [e0] at ho0
  have hSv := ho0.isS
  have hLv : sLen v0 = la := by rw [ho0.len, cellsN_length]; simp
  have M0 : QdRel x d w.heap.size la la 0 w v0 w0 :=
    ⟨_, ho0, by simp, fun d hd => by rw [(List.mem_replicate.1 hd).2]; decide, fun j _ => (by rw [List.getD_eq_getElem?_getD, List.getElem?_replicate]; split <;> rfl), ⟨0, by rw [val_replicate]; simp, by rw [Nat.div_eq_of_lt (by rw [Hla.out]; exact lt_nl x)]; simp⟩, hb0⟩
  clear ho0 e0 hb0
  have HM0 := Lib.hid M0
  clear M0
  go_wp2
  go_loopw [7, 8] (fun r i wr => ∃ k rr : Nat, k ≤ la ∧ rr < d ∧ i = .int .i64 ((k : Int) - 1) ∧ r = .int .i64 rr ∧ QdRel x d w.heap.size la k rr w v0 wr) (fun _ i _ => (intOf i + 1).toNat)
  case atStart => exact ⟨la, 0, Nat.le_refl _, hd0, by go_num, rfl, HM0.out⟩
  case round =>
    obtain ⟨k, rr, hk, hr, rfl, rfl, os, ho, hoL, hod, hoz, hov, hbl⟩ := hrel
    have Ho := Lib.hid ho
    have HoL := Lib.hid hoL
    have Hod := Lib.hid hod
    have Hoz := Lib.hid hoz
    have Hov := Lib.hid hov
    by_cases hk0 : 0 < k
    · obtain ⟨j, rfl⟩ : ∃ j, k = j + 1 := ⟨k - 1, by omega⟩
      have hcap : la ≤ sCap v0 := by rw [← hLv]; exact hSv.le
      have ca := (Ha.out.below hbl).cell j (by rw [← Hla.out]; omega)
      have g1 := dig_lt x j
      obtain ⟨p, hp⟩ : ∃ p, p = dig x j := ⟨_, rfl⟩
      rw [← hp] at ca g1
      have Hp := Lib.hid hp
      have fz := ho.frozen (by omega) (sOff v0 + j)
      have co := ho.rl.cell j (by omega)
      rw [hoz j (by omega)] at co
      clear ho hoL hod hoz hov hp
      rw [show ((j + 1 : Nat) : Int) - 1 = (j : Int) by omega]
      have t1 : decide ((0:Int) ≤ (j : Int)) = true := by rw [decide_eq_true_iff]; omega
      have e1 : (((rr * 65536 + p) / d : Nat) : Int) = ((rr : Int) * 65536 + (p : Int)) / (d : Int) := by simp
      have e2 : (((rr * 65536 + p) % d : Nat) : Int) = ((rr : Int) * 65536 + (p : Int)) % (d : Int) := by simp
      have E1 := Lib.hid e1
      have E2 := Lib.hid e2
      clear e1 e2
      go_wp2
      rw [← E1.out, ← E2.out]
      refine ⟨⟨j, _, by omega, Nat.mod_lt _ hd0, by go_num, rfl, ?_⟩, by simp [intOf]⟩
      rw [Hp.out]
      exact qdStore Ho.out HoL.out Hod.out Hoz.out Hov.out hbl (by omega) hr hd0
    · have hk' : k = 0 := by omega
      subst hk'
      clear ho hoL hod hoz hov
      go_wp2_with fail
      refine (spTrim v0 os _ Ho.out.rl Hod.out (by rw [HoL.out]; omega)).mono ?_
      rintro _ _ ⟨r, rfl, hr', rfl⟩
      have Hr := Lib.hid hr'
      clear hr'
      go_wp2
      go_ret2
      obtain ⟨Q, h1, h2⟩ := Hov.out
      simp at h1 h2
      have h3 := Nat.div_add_mod x d
      have h4 : x / d = Q := by rw [← h2, Nat.mul_comm Q d, Nat.mul_add_div hd0, Nat.div_eq_of_lt hr]; rfl
      have h5 : x % d = rr := by rw [← h2, Nat.mul_comm Q d, Nat.mul_add_mod, Nat.mod_eq_of_lt hr]
      have h6 := Hr.out
      rw [h1, ← h4] at h6
      rw [h5]
      exact ⟨_, rfl, h6, hbl⟩
end Go.Proofs.Ytedmkbpfmddafaa
