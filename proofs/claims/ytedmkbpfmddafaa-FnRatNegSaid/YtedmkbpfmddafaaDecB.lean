/-
Decimals: String. No condition.
-/
import Derived.Test.YtedmkbpfmddafaaDecA
import Derived.Test.YtedmkbpfmddafaaHoist
import Derived.Laws.BytesArg
namespace Go.Proofs.Ytedmkbpfmddafaa
open Go.RowKit

/-- The cells of bytes. -/
def bys (us : List UInt8) : List Value := us.map fun b => Value.int .u8 b.toNat
def intsOf (us : List UInt8) : List Int := us.map fun b => (b.toNat : Int)
theorem bys_eq (us : List UInt8) : bys us = (intsOf us).map (Value.int .u8) := by simp [bys, intsOf]
theorem bys_append (a b : List UInt8) : bys (a ++ b) = bys a ++ bys b := by simp [bys]
theorem bys_replicate (n : Nat) (b : UInt8) : bys (List.replicate n b) = List.replicate n (Value.int .u8 b.toNat) := by simp [bys]
theorem bys_length (us : List UInt8) : (bys us).length = us.length := by simp [bys]
theorem intsOf_length (us : List UInt8) : (intsOf us).length = us.length := by simp [intsOf]
theorem strOfNums_ints (us : List UInt8) : strOfNums (intsOf us) = ⟨us.toArray⟩ := by
  have h : (strOfNums (intsOf us)).data.toList = us := by
    rw [strOfNums_data, intsOf, List.map_map]
    exact (List.map_congr_left (fun b _ => by simp)).trans (List.map_id us)
  cases hs : strOfNums (intsOf us) with
  | mk d => rw [hs] at h; simp only at h; rw [← h]

theorem run_convert_S {P : Program} {w : World} {v : Value} {us : List UInt8} {src dst e : TypeId} (h : RI .u8 w v (intsOf us)) (hs : P.underlying src = some (.slice e)) (he : P.underlying e = some (.int .u8)) (hd : P.underlying dst = some .string) :
    (convert src dst v).run P w = .ok (.string ⟨us.toArray⟩) w := by
  by_cases hc : sCap v = 0
  · obtain ⟨a, rfl⟩ := h.isS.out0 hc
    have hx : us = [] := List.eq_nil_of_length_eq_zero (by rw [← intsOf_length, ← h.len]; rfl)
    subst hx
    cases a with
    | none => exact run_convert_bytes_nil w src e hs he 0 0 dst hd
    | some a =>
      rw [run_convert_bytes_string w src dst e _ 0 0 hs he hd]
      simp [Conv.bytesToString, loadCells, loadCellsFrom]
      rfl
  · have hv := h.isS.out (by omega)
    rw [hv, ← strOfNums_ints]
    exact run_convert_bytes_arg w src e hs he _ _ _ _ _ h.len.symm (fun i hi => h.cell i (by rw [← h.len]; exact hi)) dst hd
set_option maxHeartbeats 400000 in
/-- x.exp <= 0 -/
theorem String_neg (b : Nat) (m : Value) (e : Nat) (us : List UInt8) (w : World) (hm : w.cell? ⟨b, 0, none⟩ = some m) (he : w.cell? ⟨b, 1, none⟩ = some (.int .i64 (-(e : Int))))
    (hr : RI .u8 w m (intsOf us)) (h0 : 0 < us.length) (hl : us.length ≤ 1000000) (hel : e ≤ 1000000) :
    Calls Try.prog 68 #[.pointer (some ⟨b, 0, none⟩)] w fun e' w' => e' = .returned (.string ⟨([48, 46] ++ List.replicate e 48 ++ us).toArray⟩) ∧ Below w.heap.size w w' := by
  have hS := hr.isS
  have hL := hr.len
  rw [intsOf_length] at hL
  have h1 : ((us.length : Int) == 0) = false := by simpa using List.ne_nil_of_length_pos h0
  have h2 : decide (-(e : Int) ≤ 0) = true := by simp
  have hlt := World.block_lt_of_cell? w _ hm
  have Hr := Lib.hid hr
  clear hr
  go_enter Try.func68, Try.ntmps68
  go_wp2
  (refine wp_region_hoist 12 (by kernel_rfl) (by kernel_rfl) ⟨fun _ _ _ h => (by first | cases h.2.1 | (obtain ⟨_, h3, _⟩ := h.2; cases h3)), fun _ _ h => (by first | cases h.1 | (obtain ⟨_, h3, _⟩ := h; cases h3))⟩ ?_; simp only [List.take_succ_cons, List.take_zero, List.drop_succ_cons, List.drop_zero]; (repeat (go_big_quiet_step (fail))); refine wpQuiet_nil ?_; rintro _ ⟨nq, rfl⟩)
  go_wp2_with (at_make; refine wpList_make_O rfl _ _ _ rfl elemB .i64 .i64 _ _ rfl rfl w.heap.size ?c1 ?c2 ?c3 ?c4 ?c5 ?_)
  case c1 => omega
  case c2 => omega
  case c3 => omega
  case c4 => omega
  case c5 => simp
  rintro v1 w1 - ho1 hb1 -
  replace hb1 := undrewN hb1
  have hm1 := (hb1.cell (p := ⟨b, 0, none⟩) hlt).trans hm
  have he1 := (hb1.cell (p := ⟨b, 1, none⟩) hlt).trans he
  go_wp2_with (at_builtin; refine wpList_append_O rfl _ _ _ _ rfl elemB w.heap.size _ _ rfl ho1 _ rfl _ _ (Src.ofString _ Try.underlying9 _) ?c3 ?c4 ?c5 ?_)
  case c3 => simp [maxLen, ByteArray.size]
  case c4 => simp [ByteArray.size]
  case c5 => exact hb1.size
  rintro v2 w2 ho2 hb2 - - -
  have hb12 := Below.trans hb1 hb2
  have hm2 := (hb12.cell (p := ⟨b, 0, none⟩) hlt).trans hm
  have he2 := (hb12.cell (p := ⟨b, 1, none⟩) hlt).trans he
  go_wp2_with fail
  refine (appendZeros_any w.heap.size v2 e _ w2 ho2 hb12.size (by simp [byteCells]; omega)).mono ?_
  rintro e' w3 ⟨v3, rfl, ho3, hb3⟩
  have hb13 := Below.trans hb12 hb3
  have hm3 := (hb13.cell (p := ⟨b, 0, none⟩) hlt).trans hm
  have hr3 : RI .u8 w3 m (intsOf us) := Hr.out.below hb13
  have hl3 := bys_length us
  have H3 := Lib.hid hl3
  clear hl3
  go_wp2_with (at_builtin; refine wpList_append_O rfl _ _ _ _ rfl elemB w.heap.size _ _ rfl ho3 _ rfl _ _ (hr3.src sliceB) ?c3 ?c4 ?c5 ?_)
  case c3 => simp [byteCells, maxLen, intsOf_length]; omega
  case c4 => simp [byteCells, intsOf_length]; omega
  case c5 => exact hb13.size
  rintro v4 w4 ho4 hb4 - - -
  have hb14 := Below.trans hb13 hb4
  have ho5 : Own w4 w.heap.size 5 v4 ((intsOf ([48, 46] ++ List.replicate e 48 ++ us)).map (Value.int .u8)) := by
    have e1 : (intsOf ([48, 46] ++ List.replicate e 48 ++ us)).map (Value.int .u8) = byteCells ⟨#[48, 46]⟩ ++ List.replicate e (Value.int .u8 48) ++ (intsOf us).map (Value.int .u8) := by
      simp [intsOf, byteCells]
    rw [e1]; exact ho4
  have hconv := run_convert_S (dst := 9) ho5.rd sliceB Try.underlying5 Try.underlying9
  clear ho4 ho3 ho2 ho1
  go_wp2
  go_ret
  exact ⟨rfl, hb14⟩

set_option maxHeartbeats 400000 in
/-- 0 < x.exp < len(x.mant) -/
theorem String_mid (b : Nat) (m : Value) (e : Nat) (us : List UInt8) (w : World) (hm : w.cell? ⟨b, 0, none⟩ = some m) (he : w.cell? ⟨b, 1, none⟩ = some (.int .i64 e))
    (hr : RI .u8 w m (intsOf us)) (he0 : 0 < e) (hel : e < us.length) (hl : us.length ≤ 1000000) :
    Calls Try.prog 68 #[.pointer (some ⟨b, 0, none⟩)] w fun e' w' => e' = .returned (.string ⟨(us.take e ++ [46] ++ us.drop e).toArray⟩) ∧ Below w.heap.size w w' := by
  have hS := hr.isS
  have hL := hr.len
  have hC := hS.le
  rw [intsOf_length] at hL
  have h1 : ((us.length : Int) == 0) = false := by simpa using List.ne_nil_of_length_pos (by omega)
  have h2 : decide ((e : Int) ≤ 0) = false := by simp; omega
  have h3 : decide ((e : Int) < us.length) = true := by simp; omega
  have hlt := World.block_lt_of_cell? w _ hm
  have r1 : RI .u8 w (subS m 0 e) (intsOf (us.take e)) := by
    have := hr.sub (l := 0) (n := e) (by omega) (by rw [intsOf_length]; omega)
    simpa [intsOf, List.map_take] using this
  have r2 : RI .u8 w (subS m e us.length) (intsOf (us.drop e)) := by
    have := hr.sub (l := e) (n := us.length) (by omega) (by rw [intsOf_length]; omega)
    rw [List.take_of_length_le (by rw [intsOf_length]; exact Nat.le_refl _), show (intsOf us).drop e = intsOf (us.drop e) by simp [intsOf]] at this
    exact this
  have Hr1 := Lib.hid r1
  have Hr2 := Lib.hid r2
  clear r1 r2 hr
  have hC' : us.length ≤ sCap m := by omega
  clear hC
  go_enter Try.func68, Try.ntmps68
  go_wp2
  (refine wp_region_hoist 11 (by kernel_rfl) (by kernel_rfl) ⟨fun _ _ _ h => (by first | cases h.2.1 | (obtain ⟨_, h3, _⟩ := h.2; cases h3)), fun _ _ h => (by first | cases h.1 | (obtain ⟨_, h3, _⟩ := h; cases h3))⟩ ?_; simp only [List.take_succ_cons, List.take_zero, List.drop_succ_cons, List.drop_zero]; (repeat (go_big_quiet_step (fail))); refine wpQuiet_nil ?_; rintro _ ⟨nq, rfl⟩)
  go_wp2_with (at_make; refine wpList_make_O rfl _ _ _ rfl elemB .i64 .i64 _ _ rfl rfl w.heap.size ?c1 ?c2 ?c3 ?c4 ?c5 ?_)
  case c1 => omega
  case c2 => omega
  case c3 => omega
  case c4 => omega
  case c5 => simp
  rintro v1 w1 - ho1 hb1 -
  replace hb1 := undrewN hb1
  have hm1 := (hb1.cell (p := ⟨b, 0, none⟩) hlt).trans hm
  have he1 := (hb1.cell (p := ⟨b, 1, none⟩) hlt).trans he
  have r1 := Hr1.out.below hb1
  have hl1 : (intsOf (us.take e)).length = e := by rw [intsOf_length]; simp; omega
  have hl2 : (intsOf (us.drop e)).length = us.length - e := by rw [intsOf_length]; simp
  have HL1 := Lib.hid hl1
  have HL2 := Lib.hid hl2
  clear hl1 hl2
  go_wp2
  (refine wp_region_hoist 10 (by kernel_rfl) (by kernel_rfl) ⟨fun _ _ _ h => (by first | cases h.2.1 | (obtain ⟨_, h3, _⟩ := h.2; cases h3)), fun _ _ h => (by first | cases h.1 | (obtain ⟨_, h3, _⟩ := h; cases h3))⟩ ?_; simp only [List.take_succ_cons, List.take_zero, List.drop_succ_cons, List.drop_zero]; (repeat (go_big_quiet_step (fail))); refine wpQuiet_nil ?_; rintro _ ⟨nq, rfl⟩)
  have r1' : RI .u8 (w1.drewN nq) (subS m 0 e) (intsOf (us.take e)) := r1.below ⟨rfl, rfl, rfl, Nat.le_refl _, fun _ _ => rfl⟩
  go_wp2_with (at_builtin; refine wpList_append_O rfl _ _ _ _ rfl elemB w.heap.size _ _ rfl (ho1.drewN _) _ rfl _ _ (r1'.src sliceB) ?c3 ?c4 ?c5 ?_)
  case c3 => rw [HL1.out]; simp [maxLen]; omega
  case c4 => rw [HL1.out]; simp; omega
  case c5 => exact hb1.size
  rintro v2 w2 ho2 hb2 - - -
  have hb12 := Below.trans hb1 (undrewN hb2)
  have hm2 := (hb12.cell (p := ⟨b, 0, none⟩) hlt).trans hm
  have he2 := (hb12.cell (p := ⟨b, 1, none⟩) hlt).trans he
  have hz2 := hb12.size
  have r2 := Hr2.out.below hb12
  clear r1 r1' ho1
  go_wp2_with (at_builtin; refine wpList_append_O rfl _ _ _ _ rfl elemB w.heap.size _ _ rfl (ho2.alloc _) _ rfl 1 [.int .u8 46] (srcOne sliceB w2 _ _) ?c3 ?c4 ?c5 ?_)
  case c3 => simp [HL1.out, maxLen]; omega
  case c4 => simp [HL1.out]; omega
  case c5 => simp; omega
  rintro v3 w3 ho3 hb3 - - -
  have hb13 := (hb12.alloc hz2 _).trans hb3
  have hm3 := (hb13.cell (p := ⟨b, 0, none⟩) hlt).trans hm
  have he3 := (hb13.cell (p := ⟨b, 1, none⟩) hlt).trans he
  have r3 := Hr2.out.below hb13
  clear r2 ho2
  go_wp2
  (refine wp_region_hoist 10 (by kernel_rfl) (by kernel_rfl) ⟨fun _ _ _ h => (by first | cases h.2.1 | (obtain ⟨_, h3, _⟩ := h.2; cases h3)), fun _ _ h => (by first | cases h.1 | (obtain ⟨_, h3, _⟩ := h; cases h3))⟩ ?_; simp only [List.take_succ_cons, List.take_zero, List.drop_succ_cons, List.drop_zero]; (repeat (go_big_quiet_step (fail))); refine wpQuiet_nil ?_; rintro _ ⟨nq, rfl⟩)
  have r3' : RI .u8 (w3.drewN nq) (subS m e us.length) (intsOf (us.drop e)) := r3.below ⟨rfl, rfl, rfl, Nat.le_refl _, fun _ _ => rfl⟩
  go_wp2_with (at_builtin; refine wpList_append_O rfl _ _ _ _ rfl elemB w.heap.size _ _ rfl (ho3.drewN _) _ rfl _ _ (r3'.src sliceB) ?c3 ?c4 ?c5 ?_)
  case c3 => rw [HL2.out]; simp [HL1.out, maxLen]; omega
  case c4 => rw [HL2.out]; simp [HL1.out]; omega
  case c5 => exact hb13.size
  rintro v4 w4 ho4 hb4 - - -
  have hb14 := Below.trans hb13 (undrewN hb4)
  have ho5 : Own w4 w.heap.size 5 v4 ((intsOf (us.take e ++ [46] ++ us.drop e)).map (Value.int .u8)) := by
    simpa [intsOf] using ho4
  have hconv := run_convert_S (dst := 9) ho5.rd sliceB Try.underlying5 Try.underlying9
  clear ho4 ho3 r3 r3'
  go_wp2
  go_ret
  exact ⟨by simp, hb14⟩

set_option maxHeartbeats 400000 in
/-- len(x.mant) <= x.exp -/
theorem String_big (b : Nat) (m : Value) (e : Nat) (us : List UInt8) (w : World) (hm : w.cell? ⟨b, 0, none⟩ = some m) (he : w.cell? ⟨b, 1, none⟩ = some (.int .i64 e))
    (hr : RI .u8 w m (intsOf us)) (h0 : 0 < us.length) (hel : us.length ≤ e) (hl : e ≤ 1000000) :
    Calls Try.prog 68 #[.pointer (some ⟨b, 0, none⟩)] w fun e' w' => e' = .returned (.string ⟨(us ++ List.replicate (e - us.length) 48).toArray⟩) ∧ Below w.heap.size w w' := by
  have hS := hr.isS
  have hL := hr.len
  rw [intsOf_length] at hL
  have h1 : ((us.length : Int) == 0) = false := by simpa using List.ne_nil_of_length_pos (by omega)
  have h2 : decide ((e : Int) ≤ 0) = false := by simp; omega
  have h3 : decide ((e : Int) < us.length) = false := by simp; omega
  have hlt := World.block_lt_of_cell? w _ hm
  have hl3 := intsOf_length us
  have HL := Lib.hid hl3
  have Hr := Lib.hid hr
  clear hl3 hr
  go_enter Try.func68, Try.ntmps68
  go_wp2
  (refine wp_region_hoist 11 (by kernel_rfl) (by kernel_rfl) ⟨fun _ _ _ h => (by first | cases h.2.1 | (obtain ⟨_, h3, _⟩ := h.2; cases h3)), fun _ _ h => (by first | cases h.1 | (obtain ⟨_, h3, _⟩ := h; cases h3))⟩ ?_; simp only [List.take_succ_cons, List.take_zero, List.drop_succ_cons, List.drop_zero]; (repeat (go_big_quiet_step (fail))); refine wpQuiet_nil ?_; rintro _ ⟨nq, rfl⟩)
  go_wp2_with (at_make; refine wpList_make_O rfl _ _ _ rfl elemB .i64 .i64 _ _ rfl rfl w.heap.size ?c1 ?c2 ?c3 ?c4 ?c5 ?_)
  case c1 => omega
  case c2 => omega
  case c3 => omega
  case c4 => omega
  case c5 => simp
  rintro v1 w1 - ho1 hb1 -
  replace hb1 := undrewN hb1
  have hm1 := (hb1.cell (p := ⟨b, 0, none⟩) hlt).trans hm
  have he1 := (hb1.cell (p := ⟨b, 1, none⟩) hlt).trans he
  have r1 := Hr.out.below hb1
  go_wp2_with (at_builtin; refine wpList_append_O rfl _ _ _ _ rfl elemB w.heap.size _ _ rfl ho1 _ rfl _ _ (r1.src sliceB) ?c3 ?c4 ?c5 ?_)
  case c3 => rw [HL.out]; simp [maxLen]; omega
  case c4 => rw [HL.out]; simp; omega
  case c5 => exact hb1.size
  rintro v2 w2 ho2 hb2 - - -
  have hb12 := Below.trans hb1 hb2
  have hm2 := (hb12.cell (p := ⟨b, 0, none⟩) hlt).trans hm
  have he2 := (hb12.cell (p := ⟨b, 1, none⟩) hlt).trans he
  clear r1 ho1
  go_wp2
  (refine wp_region_hoist 11 (by kernel_rfl) (by kernel_rfl) ⟨fun _ _ _ h => (by first | cases h.2.1 | (obtain ⟨_, h3, _⟩ := h.2; cases h3)), fun _ _ h => (by first | cases h.1 | (obtain ⟨_, h3, _⟩ := h; cases h3))⟩ ?_; simp only [List.take_succ_cons, List.take_zero, List.drop_succ_cons, List.drop_zero]; (repeat (go_big_quiet_step (fail))); refine wpQuiet_nil ?_; rintro _ ⟨nq, rfl⟩)
  go_wp2_with fail
  refine (appendZeros_int w.heap.size v2 _ _ (w2.drewN nq) (ho2.drewN _) hb12.size (by omega) (by rw [List.length_map, HL.out]; omega)).mono ?_
  rintro e' w3 ⟨v3, rfl, ho3, hb3⟩
  have hb13 := Below.trans hb12 (undrewN hb3)
  have ho5 : Own w3 w.heap.size 5 v3 ((intsOf (us ++ List.replicate (e - us.length) 48)).map (Value.int .u8)) := by
    have e2 : ((e : Int) - us.length).toNat = e - us.length := by omega
    rw [e2] at ho3
    simpa [intsOf] using ho3
  have hconv := run_convert_S (dst := 9) ho5.rd sliceB Try.underlying5 Try.underlying9
  clear ho3 ho2
  go_wp2
  go_ret
  exact ⟨rfl, hb13⟩
end Go.Proofs.Ytedmkbpfmddafaa
