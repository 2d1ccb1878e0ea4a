/-
Natural numbers of the reference and words: Of, Words, HasWords. No condition.
-/
import Derived.Test.YtniingblgkghgaaWdA
namespace Go.Proofs.Ytniingblgkghgaa
open Go.RowKit

theorem wv_take_succ {ws : List Nat} {i : Nat} (h : i < ws.length) : wv (ws.take (i + 1)) = wv (ws.take i) + 18446744073709551616 ^ i * ws.getD i 0 := by
  rw [List.take_succ_eq_append_getElem h, wv_snoc]
  simp [List.getD_eq_getElem?_getD, List.getElem?_eq_getElem h, Nat.min_eq_left (Nat.le_of_lt h)]
/-- Of's relation: i words and k digits of the next one, d. -/
def OfRel (ws : List Nat) (B i d k : Nat) (w : World) (v : Value) (wr : World) : Prop :=
  ∃ os : List Nat, Own wr B 3 v (cellsN os) ∧ os.length = 4 * i + k ∧ (∀ d ∈ os, d < 65536) ∧ val os = wv (ws.take i) + 65536 ^ (4 * i) * (d % 65536 ^ k) ∧ Below B w wr
theorem OfRel.step {ws : List Nat} {B i d k : Nat} {w w1 : World} {v1 : Value} {os : List Nat} (hl : os.length = 4 * i + k) (hd : ∀ d ∈ os, d < 65536) (hv : val os = wv (ws.take i) + 65536 ^ (4 * i) * (d % 65536 ^ k))
    (ho : Own w1 B 3 v1 (cellsN os ++ [.int .i64 ((dig d k : Nat) : Int)])) (hb : Below B w w1) : OfRel ws B i d (k + 1) w v1 w1 := by
  rw [cellsN_snoc] at ho
  refine ⟨_, ho, by simp [hl]; omega, ?_, ?_, hb⟩
  · intro z hz
    rcases List.mem_append.1 hz with h | h
    · exact hd z h
    · rw [List.mem_singleton.1 h]; exact dig_lt d k
  · rw [val_snoc, hl, hv, mod_succ, Nat.pow_add]; grind
theorem OfRel.next {ws : List Nat} {B i : Nat} {w wr : World} {v : Value} (hi : i < ws.length) (hd : ws.getD i 0 < 18446744073709551616) (h : OfRel ws B i (ws.getD i 0) 4 w v wr) : OfRel ws B (i + 1) 0 0 w v wr := by
  obtain ⟨os, h1, h2, h3, h4, h5⟩ := h
  refine ⟨os, h1, by omega, h3, ?_, h5⟩
  rw [h4, wv_take_succ hi, wpow, Nat.mod_eq_of_lt (show ws.getD i 0 < 65536 ^ 4 by exact hd)]; simp
theorem and16 {m : Nat} (hm : m < 18446744073709551616) : bits .and .u64 (m : Int) 65535 = ((m % 65536 : Nat) : Int) := by
  rw [show (65535 : Int) = ((65535 : Nat) : Int) from rfl, bits_and_u64_nat _ _ hm (by decide), show (65535 : Nat) = 2 ^ 16 - 1 from rfl, Nat.and_two_pow_sub_one_eq_mod]
set_option maxRecDepth 100000 in
set_option maxHeartbeats 800000 in
theorem spOf (a : Value) (ws : List Nat) (w : World) (ha : RW w a ws) (hl : ws.length ≤ 200000000) :
    Calls Try.prog 39 #[a] w fun e w' => ∃ r, e = .returned r ∧ NPost (wv ws) w r w' := by
  have hSa := ha.isS
  have hLa := ha.len
  obtain ⟨la, hla⟩ : ∃ la, la = ws.length := ⟨_, rfl⟩
  rw [← hla] at hLa hl
  have Hla := Lib.hid hla
  have Ha := Lib.hid ha
  clear hla ha
  go_enter Try.func39, Try.ntmps39
  go_wp2
  go_loopw [3, 10] (fun v i wr => ∃ k : Nat, k ≤ la ∧ i = .int .i64 k ∧ OfRel ws w.heap.size k 0 0 w v wr) (fun _ i _ => la - (intOf i).toNat)
  case atStart => exact ⟨0, Nat.zero_le _, rfl, [], Own.zero _ _ _ _ _, by simp, by simp, by simp [val, wv], (Below.refl _ _).alloc (Nat.le_refl _) _⟩
  case round =>
    obtain ⟨i, hi, rfl, hM⟩ := hrel
    have hbl : Below w.heap.size w wr := by obtain ⟨_, _, _, _, _, h⟩ := hM; exact h
    have hSo : IsS u3 := by obtain ⟨_, h, _, _, _, _⟩ := hM; exact h.isS
    have HM := Lib.hid hM
    clear hM
    by_cases hia : i < la
    · have ca := (Ha.out.below hbl).cell i (by rw [← Hla.out]; exact hia)
      have g1 := getD_ltW Ha.out.lt i
      obtain ⟨d, hd⟩ : ∃ d, d = ws.getD i 0 := ⟨_, rfl⟩
      rw [← hd] at ca g1
      have Hd := Lib.hid hd
      clear hd
      go_wp2
      go_loopw [3, 6] (fun v i' wr => ∃ k : Nat, k ≤ 4 ∧ i' = .int .i64 k ∧ OfRel ws w.heap.size i d k w v wr) (fun _ i' _ => 4 - (intOf i').toNat)
      case atStart =>
        obtain ⟨os, h1, h2, h3, h4, h5⟩ := HM.out
        exact ⟨0, by decide, rfl, os, h1, by omega, h3, by rw [h4]; simp [Nat.mod_one], h5⟩
      case round =>
        clear ca
        obtain ⟨k, hk, rfl, os, ho, hol, hod, hov, hb2⟩ := hrel
        have hbz := hb2.size
        have Hol := Lib.hid hol
        have Hod := Lib.hid hod
        have Hov := Lib.hid hov
        have Hcl := Lib.hid (cellsN_length os)
        have hSo2 := ho.isS
        clear hod hov hol
        by_cases hk4 : k < 4
        · have hp : (2 : Int) ^ (16 * k) = ((65536 ^ k : Nat) : Int) := by rw [pow16]; simp
          have hdm : d / 65536 ^ k ≤ d := Nat.div_le_self _ _
          have hq : (d : Int) / ((65536 ^ k : Nat) : Int) = ((d / 65536 ^ k : Nat) : Int) := by simp
          have han := and16 (m := d / 65536 ^ k) (by omega)
          have hdg : d / 65536 ^ k % 65536 = dig d k := rfl
          have hdl := dig_lt d k
          rw [hdg] at han
          have HT : ∀ (v1 : Value) (w1 : World), Own w1 w.heap.size 3 v1 (cellsN os ++ [.int .i64 ((dig d k : Nat) : Int)]) → Below w.heap.size w w1 → OfRel ws w.heap.size i d (k + 1) w v1 w1 := fun v1 w1 h1 h2 => OfRel.step Hol.out Hod.out Hov.out h1 h2
          have hTT := Lib.hid HT
          obtain ⟨g, hg⟩ : ∃ g, g = dig d k := ⟨_, rfl⟩
          rw [← hg] at han hdl hTT
          obtain ⟨P, hP⟩ : ∃ P, P = 65536 ^ k := ⟨_, rfl⟩
          rw [← hP] at hp hq hdm han
          obtain ⟨q, hq'⟩ : ∃ q, q = d / P := ⟨_, rfl⟩
          rw [← hq'] at hq hdm han
          clear hdg hg hP hq' HT
          have hos : os.length ≤ 1000000000 := by have := Hol.out; omega
          go_wp2_with (at_builtin; refine wpList_append_O rfl _ _ _ _ rfl elemN w.heap.size _ _ rfl (ho.alloc _) _ rfl 1 [.int .i64 (g : Int)] (srcOne Try.underlying34 wr _ _) ?c3 ?c4 ?c5 ?_)
          case c3 => rw [Hcl.out]; unfold maxLen; omega
          case c4 => rw [Hcl.out]; omega
          case c5 => simp; omega
          rintro v1 w1 ho1 hb1 - - -
          have hs := hTT.out v1 w1 ho1 ((hb2.alloc hbz _).trans hb1)
          have Hs := Lib.hid hs
          clear hs ho1
          go_wp2
          go_roundw
          case rel => exact ⟨k + 1, by omega, by go_num, Hs.out⟩
          case measure => simp [intOf]; omega
        · have hk' : k = 4 := by omega
          subst hk'
          have M2 : OfRel ws w.heap.size (i + 1) 0 0 w u3 wr := OfRel.next (by rw [← Hla.out]; exact hia) (getD_ltW Ha.out.lt i) (by rw [← Hd.out]; exact ⟨os, ho, Hol.out, Hod.out, Hov.out, hb2⟩)
          have HM2 := Lib.hid M2
          clear M2
          go_wp2
          go_roundw
          case rel => exact ⟨i + 1, by omega, by go_num, HM2.out⟩
          case measure => simp [intOf]; omega
    · have hil : i = la := by omega
      subst hil
      obtain ⟨os, h1, h2, h3, h4, h5⟩ := HM.out
      have Ho := Lib.hid h1
      have Hl := Lib.hid h2
      have Hd := Lib.hid h3
      have Hv := Lib.hid h4
      clear h1 h2 h3 h4 h5
      go_wp2_with fail
      refine (spTrim _ os wr Ho.out.rl Hd.out (by rw [Hl.out]; omega)).mono ?_
      rintro _ _ ⟨r, rfl, hr, rfl⟩
      have Hr := Lib.hid hr
      clear hr
      go_wp2
      go_ret
      refine ⟨_, rfl, ?_, hbl⟩
      have e : wv ws = val os := by
        rw [Hv.out, List.take_of_length_le (by rw [Hla.out]; exact Nat.le_refl _)]; simp
      rw [e]; exact Hr.out
end Go.Proofs.Ytniingblgkghgaa
