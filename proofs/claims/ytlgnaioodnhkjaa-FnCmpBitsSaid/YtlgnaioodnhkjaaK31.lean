/-
Texts of this proof, joined: WhA. No condition.
-/
import Derived.Test.YtlgnaioodnhkjaaK21
/-
The reference's value of a number of 64 bits. No condition.
-/
namespace Go.Proofs.Ytlgnaioodnhkjaa
open Go.RowKit

theorem rQ0 (p m : Nat) (neg : Bool) : rk p 0 = 0 ∧ rQ p m neg 0 0 = 0 ∧ rA p m neg 0 0 = 0 := rQ_fits neg (by rw [bl_zero]; exact Nat.zero_le _)
theorem sbA_eq (p m : Nat) (neg : Bool) (M : Nat) : sbA p m neg M = rA p m neg 0 M := by
  unfold sbA; split
  · rename_i h; subst h; exact (rQ0 _ _ _).2.2.symm
  · rfl
theorem fO_le (M : Nat) : fO M ≤ 2 := by unfold fO; split <;> omega
theorem rw_one {w : World} {n : Nat} (hn : n < 18446744073709551616) : RW (w.alloc (.cells #[.int .u64 (n : Int)] 23)) (.slice (some ⟨w.heap.size, 0, none⟩) 1 1) [n] := by
  have h := row_chain11 (w := w) (a := #[.int .u64 (n : Int)]) (A := 23)
  have hc := (row_at (i := 0) h rfl).1
  refine ⟨⟨⟨fun _ => rfl, Nat.le_refl _⟩, rfl, fun i hi => ?_⟩, fun d hd => ?_⟩
  · rw [ints_length] at hi
    obtain rfl : i = 0 := by simp at hi; omega
    exact hc
  · rw [List.mem_singleton.1 hd]; exact hn
set_option maxRecDepth 100000 in
set_option maxHeartbeats 1600000 in
theorem whole_any (x : Int) (w : World) (hx1 : -9223372036854775808 ≤ x) (hx2 : x ≤ 9223372036854775807) :
    Calls Try.prog 15 #[.int .i64 x] w fun e' w' => ∃ r, e' = .returned r ∧ DyV w' r (decide (x < 0)) x.natAbs 0 ∧ Below w.heap.size w w' := by
  have hab := (Below.refl w.heap.size w).alloc (Nat.le_refl _) (.cells #[.bool false, .slice none 0 0, .int .i64 0] 32)
  obtain ⟨X, hX⟩ : ∃ X, X = w.alloc (.cells #[.bool false, .slice none 0 0, .int .i64 0] 32) := ⟨_, rfl⟩
  have hr2 : X.heap[w.heap.size]? = some (.cells #[.bool false, .slice none 0 0, .int .i64 0] 32 (0, 0)) := by
    rw [hX]; exact row_chain11
  rw [← hX] at hab
  have HR2 := Lib.hid hr2
  have HB := Lib.hid hab
  have hXs := hab.size
  obtain ⟨n, hn⟩ : ∃ n, n = x.natAbs := ⟨_, rfl⟩
  rw [← hn]
  have hnb : n < 18446744073709551616 := by omega
  have HO := Lib.hid (show Calls Try.prog 33 #[.slice (some ⟨X.heap.size, 0, none⟩) 1 1] (X.alloc (.cells #[.int .u64 (n : Int)] 23)) fun e' w' => ∃ r, e' = .returned r ∧ NatV w' r n ∧ Below X.heap.size X w' from by
    refine (spOf (.slice (some ⟨X.heap.size, 0, none⟩) 1 1) [n] _ (rw_one hnb) (by simp)).mono ?_
    rintro _ w' ⟨r, rfl, h1, h2⟩
    rw [wv_one] at h1
    exact ⟨r, rfl, h1, bthen (fbone _) h2⟩)
  clear hr2 hab
  go_enter Try.func15, Try.ntmps15
  go_upto_region 1 with fail
  rw [← hX]
  clear hX
  rcases Int.lt_or_le x 0 with hs | hs
  · have t : decide (x < 0) = true := decide_eq_true hs
    have hw : IntKind.u64.wrap (-IntKind.u64.wrap x) = (n : Int) := by rw [IntKind.wrap_u64, IntKind.wrap_u64]; omega
    clear hs hn
    go_wp2_with fail
    try rw [hw]
    refine HO.out.mono ?_
    rintro _ w3 ⟨d, rfl, hd, hb3⟩
    have hSd := hd.isS
    have hvr := keep_row hb3 HR2.out
    obtain ⟨hv0, hv1, hv2, hf0, hf1, hf2⟩ := row3 hvr
    go_wp2_with fail
    obtain ⟨hx0, hx1, hx2, -, -, -⟩ := row3 (row3_set (x := .bool true) (y := d) (z := .int .i64 0) hvr)
    have hn := natv_dyad (x := .bool true) (y := d) (z := .int .i64 0) IsS.nil hd hvr
    have hbY := bset (i := 2) (u := .int .i64 0) (bset (i := 1) (u := d) (bset (i := 0) (u := .bool true) (HB.out.trans (hb3.mono hXs)) (Nat.le_refl _)) (Nat.le_refl _)) (Nat.le_refl _)
    refine bodyPost_ret (v := .agg #[.bool true, d, .int .i64 0]) ?_ rfl ⟨_, rfl, ⟨_, (by rw [t]), hn⟩, hbY⟩
    simp [results, Try.results15, go_sem, hx0, hx1, hx2]
  · have t : decide (x < 0) = false := decide_eq_false (by omega)
    have hw : x = (n : Int) := by omega
    clear hs hn
    go_wp2_with fail
    try rw [hw]
    refine HO.out.mono ?_
    rintro _ w3 ⟨d, rfl, hd, hb3⟩
    have hSd := hd.isS
    have hvr := keep_row hb3 HR2.out
    obtain ⟨hv0, hv1, hv2, hf0, hf1, hf2⟩ := row3 hvr
    go_wp2_with fail
    obtain ⟨hx0, hx1, hx2, -, -, -⟩ := row3 (row3_set (x := .bool false) (y := d) (z := .int .i64 0) hvr)
    have hn := natv_dyad (x := .bool false) (y := d) (z := .int .i64 0) IsS.nil hd hvr
    have hbY := bset (i := 2) (u := .int .i64 0) (bset (i := 1) (u := d) (bset (i := 0) (u := .bool false) (HB.out.trans (hb3.mono hXs)) (Nat.le_refl _)) (Nat.le_refl _)) (Nat.le_refl _)
    refine bodyPost_ret (v := .agg #[.bool false, d, .int .i64 0]) ?_ rfl ⟨_, rfl, ⟨_, (by rw [t]), hn⟩, hbY⟩
    simp [results, Try.results15, go_sem, hx0, hx1, hx2]
end Go.Proofs.Ytlgnaioodnhkjaa
