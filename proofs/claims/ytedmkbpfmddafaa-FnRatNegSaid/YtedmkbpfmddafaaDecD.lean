/-
Decimals: the guard 'decimal' of the statements. No condition.
-/
import Derived.Test.YtedmkbpfmddafaaDecC
namespace Go.Proofs.Ytedmkbpfmddafaa
open Go.RowKit

/-- Figures are a decimal. -/
structure Dec (us : List UInt8) (most : Int) : Prop where
  pos : 0 < us.length
  le : (us.length : Int) ≤ most
  dig : ∀ i, i < us.length → 48 ≤ (us.getD i 0).toNat ∧ (us.getD i 0).toNat ≤ 57
  first : us.getD 0 0 ≠ 48
  last : us.getD (us.length - 1) 0 ≠ 48

theorem rb_cell {w : World} {v : Value} {us : List UInt8} (hr : RI .u8 w v (intsOf us)) (i : Nat) (h : i < us.length) : w.cell? ⟨sBlk v, sOff v + i, none⟩ = some (.int .u8 ((us.getD i 0).toNat : Nat)) := by
  rw [hr.cell i (by rw [intsOf_length]; exact h)]
  simp [intsOf, List.getD_eq_getElem?_getD, List.getElem?_eq_getElem h]

def DecPost (us : List UInt8) (most : Int) (w : World) (v : Value) (w' : World) : Prop := ∃ r, v = .bool r ∧ (r = true → Dec us most) ∧ w = w'
set_option maxHeartbeats 400000 in
theorem decimal_any (v : Value) (most : Int) (us : List UInt8) (w : World) (hr : RI .u8 w v (intsOf us)) (hl : us.length ≤ 2147483647) :
    Calls Try.prog 12 #[v, .int .i64 most] w fun e w' => ∃ v, e = .returned v ∧ DecPost us most w v w' := by
  have hS := hr.isS
  have hL := hr.len
  rw [intsOf_length] at hL
  by_cases h1 : us.length = 0
  · have h1' : ((us.length : Int) == 0) = true := by simpa using h1
    go_enter Try.func12, Try.ntmps12
    go_wp2
    go_ret
    exact ⟨_, rfl, false, rfl, by simp, rfl⟩
  have h1' : ((us.length : Int) == 0) = false := by simpa using h1
  by_cases h2 : (most : Int) < us.length
  · go_enter Try.func12, Try.ntmps12
    go_wp2
    go_ret
    exact ⟨_, rfl, false, rfl, by simp, rfl⟩
  have h2' : decide ((most : Int) < us.length) = false := by simpa using h2
  have hc := rb_cell hr
  have Hc := Lib.hid hc
  clear hc
  obtain ⟨n, hn⟩ : ∃ n, n = us.length := ⟨_, rfl⟩
  go_enter Try.func12, Try.ntmps12
  rw [← hn] at hL h1 h1' h2 h2' hl
  have Hn := Lib.hid hn
  clear hn
  go_wp2
  go_loop [18] (fun i => ∃ k : Nat, k ≤ n ∧ i = .int .i64 k ∧ ∀ j, j < k → 48 ≤ (us.getD j 0).toNat ∧ (us.getD j 0).toNat ≤ 57) (fun i => n - (intOf i).toNat)
  case atStart => exact ⟨0, Nat.zero_le _, rfl, by simp⟩
  case round =>
    obtain ⟨k, hk, rfl, hj⟩ := hrel
    have Hj := Lib.hid hj
    clear hj
    by_cases hlt : k < n
    · have c := Hc.out k (by rw [← Hn.out]; exact hlt)
      obtain ⟨d, hd⟩ : ∃ d, d = (us.getD k 0).toNat := ⟨_, rfl⟩
      rw [← hd] at c
      have Hd := Lib.hid hd
      clear hd
      by_cases t1 : d < 48
      · go_wp2
        go_ret
        exact ⟨_, rfl, false, rfl, by simp, rfl⟩
      by_cases t2 : 57 < d
      · go_wp2
        go_ret
        exact ⟨_, rfl, false, rfl, by simp, rfl⟩
      go_wp2
      go_round
      case rel =>
        refine ⟨k + 1, by omega, by go_num, fun j hj => ?_⟩
        by_cases hjk : j = k
        · subst hjk; rw [← Hd.out]; omega
        · exact Hj.out j (by omega)
      case measure => simp [intOf]; omega
    · have hkn : k = n := by omega
      have c0 := Hc.out 0 (by rw [← Hn.out]; omega)
      have c1 := Hc.out (n - 1) (by rw [← Hn.out]; omega)
      obtain ⟨d0, hd0⟩ : ∃ d, d = (us.getD 0 0).toNat := ⟨_, rfl⟩
      obtain ⟨d1, hd1⟩ : ∃ d, d = (us.getD (n - 1) 0).toNat := ⟨_, rfl⟩
      rw [← hd0, Nat.add_zero] at c0
      rw [← hd1] at c1
      have Hd0 := Lib.hid hd0
      have Hd1 := Lib.hid hd1
      clear hd0 hd1
      by_cases t1 : d0 = 48
      · have t1' : ((d0 : Int) != 48) = false := by rw [bne_eq_false_iff_eq]; omega
        go_wp2
        go_ret
        exact ⟨_, rfl, false, rfl, by simp, rfl⟩
      have t1' : ((d0 : Int) != 48) = true := by rw [bne_iff_ne]; omega
      by_cases t2 : d1 = 48
      · have t2' : ((d1 : Int) != 48) = false := by rw [bne_eq_false_iff_eq]; omega
        go_wp2
        go_ret
        exact ⟨_, rfl, false, rfl, by simp, rfl⟩
      have t2' : ((d1 : Int) != 48) = true := by rw [bne_iff_ne]; omega
      go_wp2
      go_ret
      refine ⟨_, rfl, true, rfl, fun _ => ⟨?_, ?_, ?_, ?_, ?_⟩, rfl⟩
      · rw [← Hn.out]; omega
      · rw [← Hn.out]; omega
      · intro i hi; exact Hj.out i (by rw [hkn, Hn.out]; exact hi)
      · intro h; apply t1; rw [Hd0.out, h]; rfl
      · rw [← Hn.out]; intro h; apply t2; rw [Hd1.out, h]; rfl
end Go.Proofs.Ytedmkbpfmddafaa
