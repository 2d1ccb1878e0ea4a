/-
Decimals: appendZeros. No condition.
-/
import Derived.Test.YtedmkbpfmddafaaElems
namespace Go.Proofs.Ytedmkbpfmddafaa
open Go.RowKit
set_option maxHeartbeats 400000 in
theorem appendZeros_any (B : Nat) (v : Value) (n : Nat) (xs : List Value) (w : World) (hown : Own w B 5 v xs) (hB : B ≤ w.heap.size) (hn : xs.length + n ≤ 1000000000000) :
    Calls Try.prog 93 #[v, .int .i64 n] w fun e w' => ∃ v', e = .returned v' ∧ Own w' B 5 v' (xs ++ List.replicate n (.int .u8 48)) ∧ Below B w w' := by
  go_enter Try.func93, Try.ntmps93
  go_wp2
  go_loopw [0, 1] (fun b i wr => ∃ k : Nat, k ≤ n ∧ i = .int .i64 k ∧ Own wr B 5 b (xs ++ List.replicate (n - k) (.int .u8 48)) ∧ Below B w wr) (fun _ i _ => (intOf i).toNat)
  case atStart => exact ⟨n, Nat.le_refl _, rfl, by simpa using hown, Below.refl _ _⟩
  case round =>
    obtain ⟨k, hk, rfl, ho, hb⟩ := hrel
    have e1 : (xs ++ List.replicate (n - k) (Value.int .u8 48)).length = xs.length + (n - k) := by simp
    have H1 := Lib.hid e1; clear e1
    have hbs := hb.size
    by_cases hlt : 0 < k
    · go_wp2_with (at_builtin; refine wpList_append_O rfl _ _ _ _ rfl elemB B _ _ rfl (ho.alloc _) _ rfl 1 [.int .u8 48] (srcOne sliceB wr _ _) ?c3 ?c4 ?c5 ?_)
      case c3 => rw [H1.out]; unfold maxLen; omega
      case c4 => rw [H1.out]; omega
      case c5 => simp; omega
      intro v' w1 ho1 hb1 _ _ _
      go_wp2
      go_roundw
      case rel =>
        refine ⟨k - 1, by omega, by go_num, ?_, (hb.alloc (by omega) _).trans hb1⟩
        have : n - (k - 1) = (n - k) + 1 := by omega
        rw [this, List.replicate_succ', ← List.append_assoc]
        simpa using ho1
      case measure => simp [intOf]; omega
    · have : k = 0 := by omega
      subst this
      go_wp2
      go_ret
      exact ⟨_, rfl, by simpa using ho, hb⟩
theorem appendZeros_int (B : Nat) (v : Value) (n : Int) (xs : List Value) (w : World) (hown : Own w B 5 v xs) (hB : B ≤ w.heap.size) (h0 : 0 ≤ n) (hn : xs.length + n.toNat ≤ 1000000000000) :
    Calls Try.prog 93 #[v, .int .i64 n] w fun e w' => ∃ v', e = .returned v' ∧ Own w' B 5 v' (xs ++ List.replicate n.toNat (.int .u8 48)) ∧ Below B w w' := by
  obtain ⟨k, rfl⟩ := Int.eq_ofNat_of_zero_le h0
  exact appendZeros_any B v k xs w hown hB hn
end Go.Proofs.Ytedmkbpfmddafaa
