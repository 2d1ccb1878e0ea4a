/-
Texts of this proof, joined: InO InP FrA InQ InR InS AnF FrB FrC RoB RoC. No condition.
-/
import Derived.Test.YtkhhoamcnocjlaaGreatDoorK03
import Derived.Test.YtkhhoamcnocjlaaGreatDoorK06
import Derived.Test.YtkhhoamcnocjlaaGreatDoorK18
import Derived.Test.YtkhhoamcnocjlaaGreatDoorK30
import Derived.Defers
import Derived.Recover
import Derived.Laws.Pointers
import Derived.Deep.RegionHeld2
/-
The statements on a fraction's magnitude and on a fraction with its sign turned. No condition.
-/
namespace Go.Proofs.YtkhhoamcnocjlaaGreatDoor
open Go.RowKit

theorem isFrac_same (x neg : Bool) (n d : Nat) (h : x = (neg && decide (0 < n))) : isFrac x (wds n) (wds d) neg n d = true := by
  unfold isFrac isNum; rw [h]; simp
end Go.Proofs.YtkhhoamcnocjlaaGreatDoor

/-
The package's fractions: Inv; what calls it and tells of a panic. No condition.
-/
namespace Go.Proofs.YtkhhoamcnocjlaaGreatDoor
open Go.RowKit

/-- The panic's text: division by zero. -/
def divZero : List PanicEntry := [{ v := .iface 9 (.string ⟨#[100, 105, 118, 105, 115, 105, 111, 110, 32, 98, 121, 32, 122, 101, 114, 111]⟩), recovered := false }]
end Go.Proofs.YtkhhoamcnocjlaaGreatDoor

/-
Rat.SetFrac of a new fraction. No condition but the threshold of recursive division.
-/
namespace Go.Proofs.YtkhhoamcnocjlaaGreatDoor
open Go.RowKit

set_option maxRecDepth 100000 in
set_option maxHeartbeats 1600000 in
theorem setFrac_zero (z a b : Nat) (m n : Bool) (N : Nat) (w : World) (hz : w.heap[z]? = some (.cells #[.bool false, .slice none 0 0, .bool false, .slice none 0 0] 98 (0, 0))) (ha : IntP w 0 a m N) (hb : IntP w 0 b n 0) :
    Calls Tryz.prog 47 #[.pointer (some ⟨z, 0, none⟩), .pointer (some ⟨a, 0, none⟩), .pointer (some ⟨b, 0, none⟩)] w fun e w' => e = .panicked divZero ∧ Below z w w' := by
  obtain ⟨va, -, ra, oa⟩ := ha
  obtain ⟨vb, -, rb, ob⟩ := hb
  have hS := ob.isS
  have hL : sLen vb = 0 := ob.len
  obtain ⟨z0, y0⟩ := row_at (i := 0) hz rfl
  obtain ⟨a0, -⟩ := row_at (i := 0) ra rfl
  obtain ⟨b0, -⟩ := row_at (i := 0) rb rfl
  have hne : ¬ z = b := fun hc => by rw [← hc, hz] at rb; injection rb with rb; injection rb with _ rb; exact absurd rb (by decide)
  have HB1 := Lib.hid (fun (k : Nat) => (show ((w.drewN k).setCell ⟨z, 0, none⟩ (.bool (!(m == n)))).cell? ⟨b, 1, none⟩ = some vb from (cell_other (by simpa using hne)).trans (row_at (i := 1) rb rfl).1))
  have HBL := Lib.hid (fun (k : Nat) => (show Below z w ((w.drewN k).setCell ⟨z, 0, none⟩ (.bool (!(m == n)))) from bset (undrewN' (Below.refl z w)) (Nat.le_refl _)))
  have hQo : ∀ w', (Ending.outgrown = Ending.panicked divZero ∧ Below z w w') → False := fun _ h => by cases h.1
  clear hz ra oa rb ob hne
  go_enter Tryz.func47, Tryz.ntmps47
  go_upto_region 1 with fail
  (refine wp_region_noPanic ?_; refine wp_region_hoist 13 (by kernel_rfl) (by kernel_rfl) ⟨fun _ _ _ h => h, fun _ w'' h => hQo w'' h⟩ ?_; simp only [List.take_succ_cons, List.take_zero, List.drop_succ_cons, List.drop_zero]; (repeat (go_big_quiet_step (fail))); refine wpQuiet_nil ?_; rintro _ ⟨nq, rfl⟩)
  go_wp2_with fail
  refine NoPanic.normal ?_
  have c1 := HB1.out nq
  obtain ⟨V, hV⟩ : ∃ V, V = (w.drewN nq).setCell ⟨z, 0, none⟩ (.bool (!(m == n))) := ⟨_, rfl⟩
  have hbl := HBL.out nq
  rw [← hV] at c1 hbl ⊢
  clear hV z0 y0 a0 b0
  go_wp2
  exact ⟨rfl, rfl, hbl⟩
/-- What lies once the sign is written. -/
structure SfW (z B N D : Nat) (sg : Bool) (va vb : Value) (w V : World) : Prop where
  row : V.heap[z]? = some (.cells #[.bool sg, .slice none 0 0, .bool false, .slice none 0 0] 98 (0, 0))
  va : Own V 0 147 va (cellsW (wds N))
  vb : Own V 0 147 vb (cellsW (wds D))
  bl : Below B w V
  tw : DivW V
theorem SfW.drewN {z B N D : Nat} {sg : Bool} {va vb : Value} {w V : World} (h : SfW z B N D sg va vb w V) (k : Nat) : SfW z B N D sg va vb w (V.drewN k) := ⟨h.row, h.va.drewN k, h.vb.drewN k, undrewN' h.bl, h.tw⟩
set_option maxHeartbeats 800000 in
theorem SfW.go {z B N D : Nat} {sg : Bool} {va vb : Value} {w V : World} (h : SfW z B N D sg va vb w V) (hB : B ≤ z) (hD0 : 0 < D) (hN : nw N < 40) (hD : nw D < 40) (dg : 1 < B) :
    Calls Tryz.prog 91 #[.slice none 0 0, va] V fun e w2 => ∃ r1, e = .returned r1 ∧ IsS r1 ∧ w2.heap[z]? = some (.cells #[.bool sg, .slice none 0 0, .bool false, .slice none 0 0] 98 (0, 0)) ∧
      Calls Tryz.prog 91 #[.slice none 0 0, vb] (w2.setCell ⟨z, 1, none⟩ r1) fun e w3 => ∃ r2, e = .returned r2 ∧ IsS r2 ∧ w3.heap[z]? = some (.cells #[.bool sg, r1, .bool false, .slice none 0 0] 98 (0, 0)) ∧
        Calls Tryz.prog 92 #[.pointer (some ⟨z, 0, none⟩)] (w3.setCell ⟨z, 3, none⟩ r2) fun e w4 => e = .returned (.pointer (some ⟨z, 0, none⟩)) ∧ RatP w4 B z (sg && decide (0 < N)) (N / Nat.gcd N D) (D / Nat.gcd N D) ∧ Below B w w4 := by
  have hzl := get_lt h.row
  refine (set_nil va (wds N) V (h.va.rw' (fun d hd => wds_lt hd)) (by rw [wds_length]; omega)).mono ?_
  rintro e w2 ⟨r1, he, o1, b1⟩
  have q1 := keep_row b1 h.row
  have q2 := rowset (i := 1) r1 q1
  have ob := (h.vb.below b1).away q1 (by decide) 1 r1
  have o1' := o1.away q1 (by decide) 1 r1
  refine ⟨r1, he, o1.isS, q1, (set_nil vb (wds D) _ (ob.rw' (fun d hd => wds_lt hd)) (by rw [wds_length]; omega)).mono ?_⟩
  rintro e w3 ⟨r2, he, o2, b2⟩
  have q3 := keep_row b2 q2
  have q4 := rowset (i := 3) r2 q3
  have hz1 := b1.size
  have hz2 := b2.size
  have hz3 : (w2.setCell ⟨z, 1, none⟩ r1).heap.size = w2.heap.size := by simp
  have oA := ((o1'.below b2).away q3 (by decide) 3 r2).mono (show B ≤ V.heap.size by omega)
  have oB := (o2.away q3 (by decide) 3 r2).mono (show B ≤ (w2.setCell ⟨z, 1, none⟩ r1).heap.size by omega)
  have hbl : Below B V (w3.setCell ⟨z, 3, none⟩ r2) := bset ((bset (b1.mono (by omega)) hB).trans (b2.mono (by omega))) hB
  refine ⟨r2, he, o2.isS, q3, (norm_full z B N D sg r1 r2 _ q4 oA oB (fun x y => ?_) hD0 hN hD hB (h.tw.belowB hbl dg) dg).mono ?_⟩
  · have e1 := (o1.lt x).2
    have e2 := (o2.lt y).1
    omega
  · rintro e w4 ⟨he, hn⟩
    exact ⟨he, hn.rat, (h.bl.trans hbl).trans hn.bl⟩
set_option maxRecDepth 100000 in
set_option maxHeartbeats 1600000 in
theorem setFrac_ok (z a b B : Nat) (m n : Bool) (N D : Nat) (w : World) (hz : w.heap[z]? = some (.cells #[.bool false, .slice none 0 0, .bool false, .slice none 0 0] 98 (0, 0))) (ha : IntP w 0 a m N) (hb : IntP w 0 b n D)
    (hB : B ≤ z) (hD0 : 0 < D) (hN : nw N < 40) (hD : nw D < 40) (hT : DivW w) (dg : 1 < B) :
    Calls Tryz.prog 47 #[.pointer (some ⟨z, 0, none⟩), .pointer (some ⟨a, 0, none⟩), .pointer (some ⟨b, 0, none⟩)] w fun e w' => e = .returned (.pointer (some ⟨z, 0, none⟩)) ∧ RatP w' B z ((m != n) && decide (0 < N)) (N / Nat.gcd N D) (D / Nat.gcd N D) ∧ Below B w w' := by
  obtain ⟨va, -, ra, oa⟩ := ha
  obtain ⟨vb, -, rb, ob⟩ := hb
  have hS := ob.isS
  have hSa := oa.isS
  obtain ⟨l, hl⟩ : ∃ l, l = nw D := ⟨_, rfl⟩
  have hL : sLen vb = l := by rw [ob.len, cellsW_length, wds_length, hl]
  have hl0 : 0 < l := by rw [hl]; exact nw_pos hD0
  have t0 : ((l : Int) == 0) = false := by rw [beq_eq_false_iff_ne]; omega
  have t1 : decide (l = 0) = false := decide_eq_false (by omega)
  obtain ⟨z0, y0⟩ := row_at (i := 0) hz rfl
  obtain ⟨a0, -⟩ := row_at (i := 0) ra rfl
  obtain ⟨b0, -⟩ := row_at (i := 0) rb rfl
  have hne : z ≠ b := fun hc => by rw [← hc, hz] at rb; injection rb with rb; injection rb with _ rb; exact absurd rb (by decide)
  have hne2 : z ≠ a := fun hc => by rw [← hc, hz] at ra; injection ra with ra; injection ra with _ ra; exact absurd ra (by decide)
  have HV : Hid (∀ k, SfW z B N D (!(m == n)) va vb w ((w.drewN k).setCell ⟨z, 0, none⟩ (.bool (!(m == n)))) ∧ ((w.drewN k).setCell ⟨z, 0, none⟩ (.bool (!(m == n)))).cell? ⟨b, 1, none⟩ = some vb ∧ ((w.drewN k).setCell ⟨z, 0, none⟩ (.bool (!(m == n)))).cell? ⟨a, 1, none⟩ = some va ∧ ((w.drewN k).setCell ⟨z, 0, none⟩ (.bool (!(m == n)))).cell? ⟨z, 1, none⟩ = some (.slice none 0 0) ∧
      (binOp .eql 100 (.pointer (some ⟨z, 0, none⟩)) (.pointer (some ⟨b, 0, none⟩))).run Tryz.prog ((w.drewN k).setCell ⟨z, 0, none⟩ (.bool (!(m == n)))) = .ok (.bool false) ((w.drewN k).setCell ⟨z, 0, none⟩ (.bool (!(m == n))))) := Lib.hid (fun k => by
    have q0 := rowset (w := w.drewN k) (i := 0) (.bool (!(m == n))) hz
    have hbl : Below B w ((w.drewN k).setCell ⟨z, 0, none⟩ (.bool (!(m == n)))) := bset (undrewN' (Below.refl B w)) hB
    have rb' : ((w.drewN k).setCell ⟨z, 0, none⟩ (.bool (!(m == n)))).heap[b]? = some (.cells #[.bool n, vb] 96 (0, 0)) := by rw [heap_setCell_other _ _ _ _ (by simpa using Ne.symm hne)]; exact rb
    have ra' : ((w.drewN k).setCell ⟨z, 0, none⟩ (.bool (!(m == n)))).heap[a]? = some (.cells #[.bool m, va] 96 (0, 0)) := by rw [heap_setCell_other _ _ _ _ (by simpa using Ne.symm hne2)]; exact ra
    exact ⟨⟨q0, (oa.drewN k).away (w := w.drewN k) hz (by decide) 0 _, (ob.drewN k).away (w := w.drewN k) hz (by decide) 0 _, hbl, hT.belowB hbl dg⟩, (row_at (i := 1) rb' rfl).1, (row_at (i := 1) ra' rfl).1, (row_at (i := 1) q0 rfl).1, eqlI _ hne q0 rb'⟩)
  have HP := Lib.hid (And.intro hB (And.intro hD0 (And.intro hN (And.intro hD dg))))
  have HAL := Lib.hid (fun W => alias_nil vb W hS)
  have hQo : ∀ w', (Ending.outgrown = Ending.returned (.pointer (some ⟨z, 0, none⟩)) ∧ RatP w' B z ((m != n) && decide (0 < N)) (N / Nat.gcd N D) (D / Nat.gcd N D) ∧ Below B w w') → False := fun _ h => by cases h.1
  clear hz ra oa rb ob hne hne2 hB hD0 hN hD hT dg hl hl0
  go_enter Tryz.func47, Tryz.ntmps47
  go_upto_region 1 with fail
  (refine wp_region_hoist 13 (by kernel_rfl) (by kernel_rfl) ⟨fun _ _ _ h => (by first | exact (hQp _ _ _ h).elim | cases h.2.1 | (obtain ⟨_, h3, _⟩ := h.2; cases h3)), fun _ _ h => (by first | exact (hQo _ _ h).elim | cases h.1 | (obtain ⟨_, h3, _⟩ := h; cases h3))⟩ ?_; simp only [List.take_succ_cons, List.take_zero, List.drop_succ_cons, List.drop_zero]; (repeat (go_big_quiet_step (fail))); refine wpQuiet_nil ?_; rintro _ ⟨nq, rfl⟩)
  go_upto_region 2 with fail
  obtain ⟨hsf, c1, c2, c3, heq⟩ := HV.out nq
  obtain ⟨V, hV⟩ : ∃ V, V = (w.drewN nq).setCell ⟨z, 0, none⟩ (.bool (!(m == n))) := ⟨_, rfl⟩
  rw [← hV] at hsf c1 c2 c3 heq ⊢
  have HSF := Lib.hid hsf
  clear hV z0 y0 a0 b0 hsf HV
  go_wp2_with fail
  refine (HAL.out _).mono ?_
  rintro _ _ ⟨rfl, n2, rfl⟩
  go_upto_region 7 with fail
  (refine wp_region_hoist 10 (by kernel_rfl) (by kernel_rfl) ⟨fun _ _ _ h => (by first | exact (hQp _ _ _ h).elim | cases h.2.1 | (obtain ⟨_, h3, _⟩ := h.2; cases h3)), fun _ _ h => (by first | exact (hQo _ _ h).elim | cases h.1 | (obtain ⟨_, h3, _⟩ := h; cases h3))⟩ ?_; simp only [List.take_succ_cons, List.take_zero, List.drop_succ_cons, List.drop_zero]; (repeat (go_big_quiet_step (fail))); refine wpQuiet_nil ?_; rintro _ ⟨nq, rfl⟩)
  go_wp2_with fail
  refine ((HSF.out.drewN _).go HP.out.1 HP.out.2.1 HP.out.2.2.1 HP.out.2.2.2.1 HP.out.2.2.2.2).mono ?_
  rintro _ w2 ⟨r1, rfl, hS1, hr2, hc2⟩
  obtain ⟨i1, j1⟩ := row_at (i := 1) hr2 rfl
  obtain ⟨i3, -⟩ := row_at (i := 3) (rowset (i := 1) r1 hr2) rfl
  have HC2 := Lib.hid hc2
  clear c1 c2 c3 hc2 hr2
  go_wp2_with fail
  refine HC2.out.mono ?_
  rintro _ w3 ⟨r2, rfl, hS2, hr3, hc3⟩
  obtain ⟨i3', j3⟩ := row_at (i := 3) hr3 rfl
  have HC3 := Lib.hid hc3
  clear hc3 hr3 i1 j1 i3
  go_wp2_with fail
  refine HC3.out.mono ?_
  rintro _ w4 ⟨rfl, hrt, hbl⟩
  have HQ := Lib.hid (And.intro hrt hbl)
  clear hrt hbl
  go_wp2
  go_ret
  exact ⟨rfl, HQ.out⟩
end Go.Proofs.YtkhhoamcnocjlaaGreatDoor

/-
What calls Inv and tells of a panic: RatInv's closures, guarded, answered. No condition.
-/
namespace Go.Proofs.YtkhhoamcnocjlaaGreatDoor
open Go.RowKit

/-- A box of a closure. -/
theorem rowF {w : World} {k T : Nat} {a : Value} (h : w.heap[k]? = some (.cells #[a] T (0, 0))) : w.cell? ⟨k, 0, none⟩ = some a ∧ w.frozen? ⟨k, 0, none⟩ = false :=
  ⟨by rw [cell_of_row w k 0 _ _ _ h]; rfl, frozen_of_row w k 0 _ _ h⟩
end Go.Proofs.YtkhhoamcnocjlaaGreatDoor

/-
guarded, answered. No condition.
-/
namespace Go.Proofs.YtkhhoamcnocjlaaGreatDoor
open Go.RowKit

/-- Words are as they were where a box of one Bool is written. -/
theorem RW.awayB {w : World} {g T : Nat} {v : Value} {ds : List Nat} {a : Bool} {u : Value} (hv : RW w v ds) (h : w.heap[g]? = some (.cells #[.bool a] T (0, 0))) : RW (w.setCell ⟨g, 0, none⟩ u) v ds := by
  refine ⟨⟨hv.ri.isS, hv.ri.len, fun i hi => ?_⟩, hv.lt⟩
  have hcell := hv.ri.cell i hi
  have hne : sBlk v ≠ g := by
    intro he
    rw [he, cell_of_row w g _ _ _ _ h] at hcell
    rcases Nat.lt_or_ge (sOff v + i) 1 with h3 | h3
    · rw [show sOff v + i = 0 by omega] at hcell; simp at hcell
    · rw [Array.getElem?_eq_none (by simpa using h3)] at hcell; cases hcell
  exact (World.cell?_of_block (heap_setCell_other _ _ _ _ (by simpa using hne))).trans hcell
theorem catch_panicking (p : Addr) (x : Bool) (u : TypeId) (pv : Value) (older : List PanicEntry) (w : World) (hc : w.cell? p = some (.bool x)) (hz : w.frozen? p = false) :
    CallsD Tryz.prog 126 #[.pointer (some p)] (.panicking ({ v := .iface u pv, recovered := false } :: older)) w fun e u' w' =>
      e = .returned (.tuple #[]) ∧ u' = .panicking ({ v := .iface u pv, recovered := true } :: older) ∧ w' = w.setCell p (.bool true) := by
  refine callsD_of_wpS Tryz.func126 rfl fun c₀ cs hu => ?_
  apply wpS_region
  simp [wpOpsS, go_sem, recoverD, hu, Tryz.ntmps126, hc, hz, bodyPostS, results, Tryz.results126]
theorem catch_idle (p : Addr) (x : Bool) (w : World) (hc : w.cell? p = some (.bool x)) (hz : w.frozen? p = false) :
    CallsD Tryz.prog 126 #[.pointer (some p)] .returning w fun e u' w' => e = .returned (.tuple #[]) ∧ u' = .returning ∧ w' = w.setCell p (.bool false) := by
  refine callsD_of_wpS Tryz.func126 rfl fun c₀ cs hu => ?_
  apply wpS_region
  simp [wpOpsS, go_sem, recoverD, hu, Tryz.ntmps126, hc, hz]
  cases c₀
  simp_all [bodyPostS, results, Tryz.results126]
end Go.Proofs.YtkhhoamcnocjlaaGreatDoor

/-
answered, RatInv, Upside. No condition.
-/
namespace Go.Proofs.YtkhhoamcnocjlaaGreatDoor
open Go.RowKit

theorem rows3 (w : World) (o1 o2 o3 : Obj) : ((w.alloc o1).alloc o2).alloc o3 = ((w.alloc o1).alloc o2).alloc o3 ∧ True := ⟨rfl, trivial⟩
theorem heap_new0 (w : World) {cs : Array Value} {T : TypeId} {W : World} (hb : Below (w.alloc (.cells cs T)).heap.size (w.alloc (.cells cs T)) W) {k : Nat} (hk : k = w.heap.size) : W.heap[k]? = some (.cells cs T (0, 0)) := by subst hk; exact box_row hb
theorem bone {W : World} (o : Obj) : Below W.heap.size W (W.alloc o) := (Below.refl _ _).alloc (Nat.le_refl _) _
theorem RW.awayR {w : World} {g T : Nat} {v : Value} {ds : List Nat} {a : Bool} {b c : Value} {x y z : Value} (hv : RW w v ds) (hb : IsS b) (hc : IsS c) (h : w.heap[g]? = some (.cells #[.bool a, b, c] T (0, 0))) : RW (((w.setCell ⟨g, 0, none⟩ x).setCell ⟨g, 1, none⟩ y).setCell ⟨g, 2, none⟩ z) v ds := rw_row3 hv hb hc h
end Go.Proofs.YtkhhoamcnocjlaaGreatDoor

/-
answered over whatever closure, by what the closure does. No condition.
-/
namespace Go.Proofs.YtkhhoamcnocjlaaGreatDoor
open Go.RowKit

/-- The closure panics, for a division by zero. -/
def ClZF (k k9 : Nat) (w : World) : Prop := ∀ w', Below w.heap.size w w' → Calls Tryz.prog 46 #[.pointer (some ⟨k, 0, none⟩), .pointer (some ⟨k9, 0, none⟩)] w' fun e w2 => e = .panicked divZero ∧ Below w'.heap.size w' w2
/-- The closure tells a fraction. -/
def ClOF (k k9 : Nat) (neg : Bool) (N D : Nat) (w : World) : Prop := ∀ w', Below w.heap.size w w' → Calls Tryz.prog 46 #[.pointer (some ⟨k, 0, none⟩), .pointer (some ⟨k9, 0, none⟩)] w' fun e w2 => ∃ g, e = .returned (.pointer (some ⟨g, 0, none⟩)) ∧ RatP w2 w'.heap.size g neg N D ∧ Below w'.heap.size w' w2
theorem ClZF.below {k k9 : Nat} {w w1 : World} (h : ClZF k k9 w) (hb : Below w.heap.size w w1) : ClZF k k9 w1 := fun w' h' => h w' (bthen hb h')
theorem ClOF.below {k k9 N D : Nat} {neg : Bool} {w w1 : World} (h : ClOF k k9 neg N D w) (hb : Below w.heap.size w w1) : ClOF k k9 neg N D w1 := fun w' h' => h w' (bthen hb h')
set_option maxRecDepth 100000 in
set_option maxHeartbeats 800000 in
theorem ansGF_zero (k k9 k1 k4 : Nat) (w : World) (hk1 : w.heap[k1]? = some (.cells #[.func (.func 46) #[] #[.pointer (some ⟨k, 0, none⟩), .pointer (some ⟨k9, 0, none⟩)]] 102 (0, 0))) (hc : ClZF k k9 w) :
    Calls Tryz.prog 89 #[.pointer (some ⟨k1, 0, none⟩), .pointer (some ⟨k4, 0, none⟩)] w fun e w' => e = .panicked divZero ∧ Below w.heap.size w w' := by
  obtain ⟨c1, -⟩ := rowF hk1
  have HC := Lib.hid (hc w (Below.refl _ _))
  clear hk1 hc
  go_enter Tryz.func89, Tryz.ntmps89
  go_wp2_with fail
  refine HC.out.mono ?_
  rintro _ w1 ⟨rfl, hb1⟩
  go_wp2
  exact ⟨rfl, rfl, hb1⟩
set_option maxRecDepth 100000 in
set_option maxHeartbeats 800000 in
theorem ansGF_ok (k k9 k1 k4 B N D : Nat) (neg : Bool) (w : World) (hk1 : w.heap[k1]? = some (.cells #[.func (.func 46) #[] #[.pointer (some ⟨k, 0, none⟩), .pointer (some ⟨k9, 0, none⟩)]] 102 (0, 0)))
    (hk4 : w.heap[k4]? = some (.cells #[.bool false, .slice none 0 0, .slice none 0 0] 51 (0, 0))) (hB : B ≤ k4) (hc : ClOF k k9 neg N D w) (hD : 0 < D) (hn : nw N ≤ 100000000) (hd : nw D ≤ 100000000) :
    Calls Tryz.prog 89 #[.pointer (some ⟨k1, 0, none⟩), .pointer (some ⟨k4, 0, none⟩)] w fun e w' => e = .returned (.tuple #[]) ∧ ∃ r1 r2, w'.heap[k4]? = some (.cells #[.bool (neg && decide (0 < N)), r1, r2] 51 (0, 0)) ∧ IsS r1 ∧ IsS r2 ∧ RW w' r1 (wds N) ∧ RW w' r2 (wds D) ∧ Below B w w' ∧ Only k4 w w' := by
  obtain ⟨c1, -⟩ := rowF hk1
  have hk4lt : k4 < w.heap.size := (heap_alloc_lt (o := .cells #[] 0) hk4).2
  have HK4 := Lib.hid hk4
  have HC := Lib.hid (hc w (Below.refl _ _))
  have HH := Lib.hid (And.intro hD (And.intro hn hd))
  clear hk1 hk4 hc hD hn hd
  go_enter Tryz.func89, Tryz.ntmps89
  go_wp2_with fail
  refine HC.out.mono ?_
  rintro _ w1 ⟨g, rfl, hR, hb1⟩
  have HR := Lib.hid hR
  have HB1 := Lib.hid hb1
  clear hR hb1
  go_wp2_with fail
  refine (frac_any g w.heap.size _ _ _ w1 HR.out HH.out.1 HH.out.2.1 HH.out.2.2).mono ?_
  rintro _ w2 ⟨r1, r2, rfl, hr1, hr2, hb2⟩
  have hSr1 := hr1.isS
  have hSr2 := hr2.isS
  have hbb := bthen HB1.out hb2
  have hrw := keep_row hbb HK4.out
  obtain ⟨k0, k1', k2, f0, f1, f2⟩ := row3 hrw
  obtain ⟨x, hx⟩ : ∃ x, x = (neg && decide (0 < N)) := ⟨_, rfl⟩
  rw [← hx]
  have q3 := row3_set (x := .bool x) (y := r1) (z := r2) hrw
  have a1 := rw_row3 (x := .bool x) (y := r1) (z := r2) hr1 IsS.nil IsS.nil hrw
  have a2 := rw_row3 (x := .bool x) (y := r1) (z := r2) hr2 IsS.nil IsS.nil hrw
  have on : Only k4 w (((w2.setCell ⟨k4, 0, none⟩ (.bool x)).setCell ⟨k4, 1, none⟩ r1).setCell ⟨k4, 2, none⟩ r2) := fun j hj hne => by
    rw [heap_setCell_other _ _ _ _ (by simpa using hne), heap_setCell_other _ _ _ _ (by simpa using hne), heap_setCell_other _ _ _ _ (by simpa using hne)]
    exact hbb.block j hj
  have ON := Lib.hid on
  have Q3 := Lib.hid q3
  have A1 := Lib.hid a1
  have A2 := Lib.hid a2
  have HX := Lib.hid hx
  have HBB := Lib.hid (bset (i := 2) (u := r2) (bset (i := 1) (u := r1) (bset (i := 0) (u := .bool x) (hbb.mono (show B ≤ w.heap.size by omega)) hB) hB) hB)
  clear hr1 hr2 hb2 hbb hrw q3 a1 a2 on hx
  go_wp2
  go_end0
  refine ⟨rfl, r1, r2, ?_, hSr1, hSr2, A1.out, A2.out, HBB.out, ON.out⟩
  rw [← HX.out]; exact Q3.out
set_option maxRecDepth 100000 in
set_option maxHeartbeats 800000 in
theorem guardGF_zero (k k9 k1 k4 : Nat) (w : World) (hk1 : w.heap[k1]? = some (.cells #[.func (.func 46) #[] #[.pointer (some ⟨k, 0, none⟩), .pointer (some ⟨k9, 0, none⟩)]] 102 (0, 0))) (hc : ClZF k k9 w) :
    Calls Tryz.prog 88 #[.func (.func 89) #[] #[.pointer (some ⟨k1, 0, none⟩), .pointer (some ⟨k4, 0, none⟩)]] w fun e w' => e = .returned (.bool true) ∧ Below w.heap.size w w' := by
  have hmf : ∀ (fn : Fn) (first cap : Array Value) (w : World), (Instr.makeFunc fn first cap).run Tryz.prog w = .ok (.func fn first cap) w := fun _ _ _ _ => rfl
  have hab := (Below.refl w.heap.size w).alloc (Nat.le_refl _) (.cells #[.bool false] 4)
  have HA := Lib.hid (box_row (Below.refl _ (w.alloc (.cells #[.bool false] 4))))
  have HK1 := Lib.hid (keep_row hab hk1)
  have HC := Lib.hid (hc.below hab)
  clear hk1 hc
  go_enter_defers Tryz.func88, Tryz.ntmps88
  go_wp2_with fail
  refine (ansGF_zero k k9 k1 k4 _ HK1.out HC.out).mono ?_
  rintro _ w1 ⟨rfl, hb1⟩
  obtain ⟨c0, f0⟩ := rowF (keep_row hb1 HA.out)
  have bb := bthen hab hb1
  go_wp2
  refine leaves_cons (f := 126) (args := #[.pointer (some ⟨w.heap.size, 0, none⟩)]) (by simp) (by simp [go_sem]) ?_
  refine (catch_panicking ⟨w.heap.size, 0, none⟩ false _ _ [] _ c0 f0).mono ?_
  rintro e u' w'' ⟨rfl, rfl, rfl⟩
  simp [Leaves, settle, results, Tryz.results88, go_sem, c0]
  exact bset bb (Nat.le_refl _)
set_option maxRecDepth 100000 in
set_option maxHeartbeats 800000 in
theorem guardGF_ok (k k9 k1 k4 B N D : Nat) (neg : Bool) (w : World) (hk1 : w.heap[k1]? = some (.cells #[.func (.func 46) #[] #[.pointer (some ⟨k, 0, none⟩), .pointer (some ⟨k9, 0, none⟩)]] 102 (0, 0)))
    (hk4 : w.heap[k4]? = some (.cells #[.bool false, .slice none 0 0, .slice none 0 0] 51 (0, 0))) (hB : B ≤ k4) (hc : ClOF k k9 neg N D w) (hD : 0 < D) (hn : nw N ≤ 100000000) (hd : nw D ≤ 100000000) :
    Calls Tryz.prog 88 #[.func (.func 89) #[] #[.pointer (some ⟨k1, 0, none⟩), .pointer (some ⟨k4, 0, none⟩)]] w fun e w' => e = .returned (.bool false) ∧ ∃ r1 r2, w'.heap[k4]? = some (.cells #[.bool (neg && decide (0 < N)), r1, r2] 51 (0, 0)) ∧ IsS r1 ∧ IsS r2 ∧ RW w' r1 (wds N) ∧ RW w' r2 (wds D) ∧ Below B w w' ∧ Only k4 w w' := by
  have hmf : ∀ (fn : Fn) (first cap : Array Value) (w : World), (Instr.makeFunc fn first cap).run Tryz.prog w = .ok (.func fn first cap) w := fun _ _ _ _ => rfl
  have hk4lt : k4 < w.heap.size := (heap_alloc_lt (o := .cells #[] 0) hk4).2
  have hab := (Below.refl w.heap.size w).alloc (Nat.le_refl _) (.cells #[.bool false] 4)
  have HA := Lib.hid (box_row (Below.refl _ (w.alloc (.cells #[.bool false] 4))))
  have HK1 := Lib.hid (keep_row hab hk1)
  have HK4 := Lib.hid (keep_row hab hk4)
  have HC := Lib.hid (hc.below hab)
  have hsz : k4 < w.heap.size := hk4lt
  clear hk1 hk4 hc
  obtain ⟨W, hW⟩ : ∃ W, W = w.alloc (.cells #[.bool false] 4) := ⟨_, rfl⟩
  rw [← hW] at hab HA HK1 HK4 HC
  have HG := Lib.hid (ansGF_ok k k9 k1 k4 B N D neg W HK1.out HK4.out hB HC.out hD hn hd)
  obtain ⟨x, hx⟩ : ∃ x, x = (neg && decide (0 < N)) := ⟨_, rfl⟩
  rw [← hx] at HG ⊢
  clear hD hn hd hx
  go_enter_defers Tryz.func88, Tryz.ntmps88
  go_wp2_with fail
  rw [← hW]
  clear hW
  refine HG.out.mono ?_
  rintro _ w1 ⟨rfl, r1, r2, hr, hS1, hS2, hr1, hr2, hb1, hon⟩
  have hWs := hab.size
  have hglt : w.heap.size < W.heap.size := (heap_alloc_lt (o := .cells #[] 0) HA.out).2
  have hrg := (hon _ hglt (by omega)).trans HA.out
  obtain ⟨c0, f0⟩ := rowF hrg
  have hrg1 := rowset (i := 0) (.bool false) hrg
  obtain ⟨c1, f1⟩ := rowF hrg1
  have hrg2 := rowset (i := 0) (.bool false) hrg1
  obtain ⟨c2, f2⟩ := rowF hrg2
  have fin : ∃ r1 r2, ((w1.setCell ⟨w.heap.size, 0, none⟩ (.bool false)).setCell ⟨w.heap.size, 0, none⟩ (.bool false)).heap[k4]? = some (.cells #[.bool x, r1, r2] 51 (0, 0)) ∧ IsS r1 ∧ IsS r2 ∧ RW ((w1.setCell ⟨w.heap.size, 0, none⟩ (.bool false)).setCell ⟨w.heap.size, 0, none⟩ (.bool false)) r1 (wds N) ∧ RW ((w1.setCell ⟨w.heap.size, 0, none⟩ (.bool false)).setCell ⟨w.heap.size, 0, none⟩ (.bool false)) r2 (wds D) ∧ Below B w ((w1.setCell ⟨w.heap.size, 0, none⟩ (.bool false)).setCell ⟨w.heap.size, 0, none⟩ (.bool false)) ∧ Only k4 w ((w1.setCell ⟨w.heap.size, 0, none⟩ (.bool false)).setCell ⟨w.heap.size, 0, none⟩ (.bool false)) := by
    refine ⟨r1, r2, rowoth _ (rowoth _ hr (by omega)) (by omega), hS1, hS2, (hr1.awayB hrg).awayB hrg1, (hr2.awayB hrg).awayB hrg1, bset (bset ((hab.mono (show B ≤ w.heap.size by omega)).trans hb1) (by omega)) (by omega), fun j hj hne => ?_⟩
    rw [heap_setCell_other _ _ _ _ (by simp only; omega), heap_setCell_other _ _ _ _ (by simp only; omega)]
    exact (hon j (by omega) hne).trans (hab.block j hj)
  have Fin := Lib.hid fin
  clear fin hr hr1 hr2 hb1 hon hrg hrg1 hrg2
  go_wp2
  refine leaves_cons (f := 126) (args := #[.pointer (some ⟨w.heap.size, 0, none⟩)]) (by simp) (by simp [go_sem]) ?_
  refine (catch_idle ⟨w.heap.size, 0, none⟩ false _ c1 f1).mono ?_
  rintro e u' w'' ⟨rfl, rfl, rfl⟩
  simp [Leaves, settle, results, Tryz.results88, go_sem, c2]
  exact Fin.out
/-- The memory that answered has made when it calls. -/
def AnsWGF (k k9 : Nat) (w W : World) : Prop :=
  W = ((w.alloc (.cells #[.func (.func 46) #[] #[.pointer (some ⟨k, 0, none⟩), .pointer (some ⟨k9, 0, none⟩)]] 102)).alloc (.cells #[.bool false, .slice none 0 0, .slice none 0 0] 51)).alloc (.cells #[.bool false, .slice none 0 0, .slice none 0 0] 51)
theorem AnsWGF.facts {k k9 : Nat} {w W : World} (h : AnsWGF k k9 w W) : Below w.heap.size w W ∧ W.heap.size = w.heap.size + 3 ∧
    W.heap[w.heap.size]? = some (.cells #[.func (.func 46) #[] #[.pointer (some ⟨k, 0, none⟩), .pointer (some ⟨k9, 0, none⟩)]] 102 (0, 0)) ∧
    W.heap[w.heap.size + 1]? = some (.cells #[.bool false, .slice none 0 0, .slice none 0 0] 51 (0, 0)) ∧
    W.heap[w.heap.size + 2]? = some (.cells #[.bool false, .slice none 0 0, .slice none 0 0] 51 (0, 0)) := by
  unfold AnsWGF at h
  subst h
  refine ⟨bthen (bthen (bone _) (bone _)) (bone _), by simp, heap_new0 w (bthen (bone _) (bone _)) rfl, heap_new0 _ (bone _) (by simp), heap_new0 _ (Below.refl _ _) (by simp)⟩
set_option maxRecDepth 100000 in
set_option maxHeartbeats 800000 in
theorem answerGF_zero (k k9 : Nat) (w : World) (hc : ClZF k k9 w) :
    Calls Tryz.prog 45 #[.func (.func 46) #[] #[.pointer (some ⟨k, 0, none⟩), .pointer (some ⟨k9, 0, none⟩)]] w fun e w' => e = .returned (.tuple #[.agg #[.bool false, .slice none 0 0, .slice none 0 0], .int .i64 2]) ∧ Below w.heap.size w w' := by
  have hmf : ∀ (fn : Fn) (first cap : Array Value) (w : World), (Instr.makeFunc fn first cap).run Tryz.prog w = .ok (.func fn first cap) w := fun _ _ _ _ => rfl
  obtain ⟨W, hW⟩ : ∃ W, AnsWGF k k9 w W := ⟨_, rfl⟩
  obtain ⟨hab, hsz, hr0, hr1, hr2⟩ := hW.facts
  have HG := Lib.hid (guardGF_zero k k9 w.heap.size (w.heap.size + 2) W hr0 (hc.below hab))
  have HR1 := Lib.hid hr1
  have HS := Lib.hid hsz
  clear hr0 hr1 hr2 hsz hc
  unfold AnsWGF at hW
  go_enter Tryz.func45, Tryz.ntmps45
  go_wp2_with fail
  rw [← hW]
  clear hW
  refine HG.out.mono ?_
  rintro _ w1 ⟨rfl, hb1⟩
  have hrow := keep_row hb1 HR1.out
  obtain ⟨c0, c1, c2, f0, f1, f2⟩ := row3 hrow
  obtain ⟨e0, e1, e2, -, -, -⟩ := row3 (row3_set (x := .bool false) (y := .slice none 0 0) (z := .slice none 0 0) hrow)
  have bb := bset3 (a := .bool false) (b := .slice none 0 0) (c := .slice none 0 0) (bthen hab hb1) (show w.heap.size ≤ w.heap.size + 1 by omega)
  clear hrow
  go_wp2
  refine bodyPost_ret (v := .tuple #[.agg #[.bool false, .slice none 0 0, .slice none 0 0], .int .i64 2]) ?_ rfl ⟨rfl, bb⟩
  simp [results, Tryz.results45, go_sem, e0, e1, e2]
set_option maxRecDepth 100000 in
set_option maxHeartbeats 800000 in
theorem answerGF_ok (k k9 N D : Nat) (neg : Bool) (w : World) (hc : ClOF k k9 neg N D w) (hD : 0 < D) (hn : nw N ≤ 100000000) (hd : nw D ≤ 100000000) :
    Calls Tryz.prog 45 #[.func (.func 46) #[] #[.pointer (some ⟨k, 0, none⟩), .pointer (some ⟨k9, 0, none⟩)]] w fun e w' => ∃ r1 r2, e = .returned (.tuple #[.agg #[.bool (neg && decide (0 < N)), r1, r2], .int .i64 0]) ∧ RW w' r1 (wds N) ∧ RW w' r2 (wds D) ∧ Below w.heap.size w w' := by
  have hmf : ∀ (fn : Fn) (first cap : Array Value) (w : World), (Instr.makeFunc fn first cap).run Tryz.prog w = .ok (.func fn first cap) w := fun _ _ _ _ => rfl
  obtain ⟨W, hW⟩ : ∃ W, AnsWGF k k9 w W := ⟨_, rfl⟩
  obtain ⟨hab, hsz, hr0, hr1, hr2⟩ := hW.facts
  have HG := Lib.hid (guardGF_ok k k9 w.heap.size (w.heap.size + 2) w.heap.size N D neg W hr0 hr2 (by omega) (hc.below hab) hD hn hd)
  have HR1 := Lib.hid hr1
  have HS := Lib.hid hsz
  obtain ⟨x, hx⟩ : ∃ x, x = (neg && decide (0 < N)) := ⟨_, rfl⟩
  rw [← hx] at HG ⊢
  clear hr0 hr1 hr2 hsz hc hx
  unfold AnsWGF at hW
  go_enter Tryz.func45, Tryz.ntmps45
  go_wp2_with fail
  rw [← hW]
  clear hW
  refine HG.out.mono ?_
  rintro _ w1 ⟨rfl, r1, r2, hr4, hS1, hS2, hq1, hq2, hb1, hon⟩
  have hrow := (hon (w.heap.size + 1) (by have := HS.out; omega) (by omega)).trans HR1.out
  obtain ⟨c0, c1, c2, f0, f1, f2⟩ := row3 hrow
  obtain ⟨d0, d1, d2, -, -, -⟩ := row3 hr4
  obtain ⟨e0, e1, e2, -, -, -⟩ := row3 (row3_set (x := .bool x) (y := r1) (z := r2) hrow)
  have bb := bset3 (a := .bool x) (b := r1) (c := r2) (hab.trans hb1) (show w.heap.size ≤ w.heap.size + 1 by omega)
  have A1 := Lib.hid (rw_row3 (x := .bool x) (y := r1) (z := r2) hq1 IsS.nil IsS.nil hrow)
  have A2 := Lib.hid (rw_row3 (x := .bool x) (y := r1) (z := r2) hq2 IsS.nil IsS.nil hrow)
  clear hrow hr4 hq1 hq2 hon
  go_wp2
  refine bodyPost_ret (v := .tuple #[.agg #[.bool x, r1, r2], .int .i64 0]) ?_ rfl ⟨r1, r2, rfl, A1.out, A2.out, bb⟩
  simp [results, Tryz.results45, go_sem, e0, e1, e2]
end Go.Proofs.YtkhhoamcnocjlaaGreatDoor

/-
The closure of impl.Frac. No condition but the threshold of recursive division.
-/
namespace Go.Proofs.YtkhhoamcnocjlaaGreatDoor
open Go.RowKit

theorem ks4F {W X : World} {k g T U : Nat} {a b d e : Value} (h1 : W.heap[k]? = some (.cells #[a, b] T (0, 0))) (h2 : W.heap[g]? = some (.cells #[d, e] U (0, 0))) (h : Below W.heap.size W X) :
    Below W.heap.size W X ∧ X.cell? ⟨k, 0, none⟩ = some a ∧ X.cell? ⟨k, 1, none⟩ = some b ∧ X.cell? ⟨g, 0, none⟩ = some d ∧ X.cell? ⟨g, 1, none⟩ = some e :=
  ⟨h, (row_at (i := 0) (keep_row h h1) rfl).1, (row_at (i := 1) (keep_row h h1) rfl).1, (row_at (i := 0) (keep_row h h2) rfl).1, (row_at (i := 1) (keep_row h h2) rfl).1⟩
set_option maxRecDepth 100000 in
set_option maxHeartbeats 3200000 in
theorem fracC_ok (k k9 : Nat) (b1 b2 : Bool) (v1 v2 : Value) (ns1 ns2 : List Nat) (w : World) (hk : w.heap[k]? = some (.cells #[.bool b1, v1] 47 (0, 0))) (hk9 : w.heap[k9]? = some (.cells #[.bool b2, v2] 47 (0, 0)))
    (hv1 : RW w v1 ns1) (hv2 : RW w v2 ns2)
    (l1 : ns1.length ≤ 30) (l3 : ns2.length ≤ 30) (p3 : 0 < wv ns2) (hT : DivW w) :
    ClOF k k9 (decide (rI (b1 != b2) (wv ns1) < 0)) ((rI (b1 != b2) (wv ns1)).natAbs / Nat.gcd (rI (b1 != b2) (wv ns1)).natAbs (wv ns2)) (wv ns2 / Nat.gcd (rI (b1 != b2) (wv ns1)).natAbs (wv ns2)) w := by
  intro X hwX0
  have hS1 := hv1.isS
  have hS2 := hv2.isS
  obtain ⟨V, hV⟩ : ∃ V : Int, V = rI (b1 != b2) (wv ns1) := ⟨_, rfl⟩
  obtain ⟨D, hD⟩ : ∃ D : Nat, D = wv ns2 := ⟨_, rfl⟩
  have hr1 := keep_row hwX0 hk
  have hr2 := keep_row hwX0 hk9
  have hTX := hT.below hwX0
  have dg : 1 < X.heap.size := World.block_lt_of_cell? X _ hTX
  have k1 := nw_le (wv_lt hv1.lt)
  have k3 := nw_le (wv_lt hv2.lt)
  have V1 := Lib.hid (hv1.below hwX0)
  have V2 := Lib.hid (hv2.below hwX0)
  have HR1 := Lib.hid hr1
  have HR2 := Lib.hid hr2
  have hcc := Below.refl X.heap.size X
  have HF1 : Hid (∀ w', Below X.heap.size X w' → Calls Tryz.prog 48 #[.agg #[.bool b1, v1]] w' fun e w3 => ∃ g, e = .returned (.pointer (some ⟨g, 0, none⟩)) ∧ IntP w3 0 g (b1 && decide (0 < wv ns1)) (wv ns1) ∧ Below w'.heap.size w' w3) := Lib.hid (fun w' h => by
    refine (of_any b1 v1 ns1 w' (V1.out.below h) (by omega)).mono ?_
    rintro e w3 ⟨g, h1, h2, h3⟩
    exact ⟨g, h1, h2.mono (Nat.zero_le _), h3⟩)
  have HF2 : Hid (∀ w', Below X.heap.size X w' → Calls Tryz.prog 48 #[.agg #[.bool b2, v2]] w' fun e w3 => ∃ g, e = .returned (.pointer (some ⟨g, 0, none⟩)) ∧ IntP w3 0 g (b2 && decide (0 < wv ns2)) (wv ns2) ∧ Below w'.heap.size w' w3) := Lib.hid (fun w' h => by
    refine (of_any b2 v2 ns2 w' (V2.out.below h) (by omega)).mono ?_
    rintro e w3 ⟨g, h1, h2, h3⟩
    exact ⟨g, h1, h2.mono (Nat.zero_le _), h3⟩)
  have HC : Hid (∀ g g1 g2 w', w'.heap[g]? = some (.cells #[.bool false, .slice none 0 0, .bool false, .slice none 0 0] 98 (0, 0)) → X.heap.size ≤ g → IntP w' 0 g1 (b1 && decide (0 < wv ns1)) (wv ns1) → IntP w' 0 g2 (b2 && decide (0 < wv ns2)) (wv ns2) → Below X.heap.size X w' →
      Calls Tryz.prog 47 #[.pointer (some ⟨g, 0, none⟩), .pointer (some ⟨g1, 0, none⟩), .pointer (some ⟨g2, 0, none⟩)] w' fun e w4 => e = .returned (.pointer (some ⟨g, 0, none⟩)) ∧ RatP w4 X.heap.size g (decide (V < 0)) (V.natAbs / Nat.gcd V.natAbs D) (D / Nat.gcd V.natAbs D) ∧ Below X.heap.size X w4) := Lib.hid (fun g g1 g2 w' hg hg0 h1 h2 h3 => by
    have a1 : wv ns1 = V.natAbs := by rw [hV, rI_abs]
    have e0 : ((b1 && decide (0 < wv ns1)) != (b2 && decide (0 < wv ns2)) && decide (0 < wv ns1)) = decide (V < 0) := by
      rw [hV, rI_neg]
      rcases Nat.eq_zero_or_pos (wv ns1) with h | h
      · rw [h]; simp
      · rw [decide_eq_true h, decide_eq_true p3]; simp
    refine (setFrac_ok g g1 g2 X.heap.size _ _ (wv ns1) (wv ns2) w' hg h1 h2 hg0 p3 (by omega) (by omega) (hTX.below h3) dg).mono ?_
    rintro e w4 ⟨h4, h5, h6⟩
    rw [e0, a1, ← hD] at h5
    exact ⟨h4, h5, h3.trans h6⟩)
  rw [← hV, ← hD]
  clear hv1 hv2 hr1 hr2 hk hk9 hT hTX dg k1 k3 l1 l3 p3 hV hD hwX0
  obtain ⟨N1, hN1⟩ : ∃ N1, N1 = V.natAbs / Nat.gcd V.natAbs D := ⟨_, rfl⟩
  obtain ⟨N2, hN2⟩ : ∃ N2, N2 = D / Nat.gcd V.natAbs D := ⟨_, rfl⟩
  obtain ⟨sg, hsg⟩ : ∃ sg, sg = decide (V < 0) := ⟨_, rfl⟩
  rw [← hN1, ← hN2, ← hsg] at HC ⊢
  clear hN1 hN2 hsg
  go_enter Tryz.func46, Tryz.ntmps46
  go_upto_region 1 with fail
  first
    | (go_region_held3 (fun w' => Below X.heap.size X w' ∧ w'.cell? ⟨k, 0, none⟩ = some (.bool b1) ∧ w'.cell? ⟨k, 1, none⟩ = some v1 ∧ w'.cell? ⟨k9, 0, none⟩ = some (.bool b2) ∧ w'.cell? ⟨k9, 1, none⟩ = some v2)
        ((refine ks4F HR1.out HR2.out ?_; (repeat (with_reducible first | assumption | refine Below.drew ?_ | refine ballc ?_ _))))
        (first
          | (go_at_call 47; first
              | (with_reducible refine (HC.out _ _ _ _ hrU2 (Nat.le_refl _) G1.out G2.out hb4).mono ?_)
              | (with_reducible refine (HC.out _ _ _ _ hrV2 hz3 G1.out G2.out hb4).mono ?_)
              | (with_reducible refine (HC.out _ _ _ _ (heap_alloc_new w4 _) hz4 (G1.out.below (fbone _)) (G2.out.below (fbone _)) (ballc hb4 _)).mono ?_)
             rintro _ w5 ⟨rfl, hrat, hb5⟩)
          | (go_at_call 48; (with_reducible refine (HF2.out _ (by repeat (with_reducible first | assumption | refine Below.drew ?_ | refine ballc ?_ _))).mono ?_); rintro _ w4 ⟨g2, rfl, hG2, hb34⟩; have G1 := Lib.hid (show IntP w4 0 g1 (b1 && decide (0 < wv ns1)) (wv ns1) from by first | exact hF1.below hb34 | exact (hF1.below (fbone _)).below hb34); have G2 := Lib.hid hG2; clear hF1 hG2; have hb4 : Below X.heap.size X w4 := bthen (by repeat (with_reducible first | assumption | refine Below.drew ?_ | refine ballc ?_ _)) hb34; have hz4 := hb4.size;
              (first | (have hrU2 := keep_row hb34 hrU) | (have hrV2 := box_row hb34) | skip))
          | (go_at_call 48; (with_reducible refine (HF1.out _ (by repeat (with_reducible first | assumption | refine Below.drew ?_ | refine ballc ?_ _))).mono ?_); rintro _ w3 ⟨g1, rfl, hF1, hb3'⟩; have hb3 : Below X.heap.size X w3 := bthen (by repeat (with_reducible first | assumption | refine Below.drew ?_ | refine ballc ?_ _)) hb3'; have hz3 := hb3.size;
              (first | (have hrU := box_rowD hb3') | skip))))
    | fail
  all_goals
    go_wp2
    go_ret
    exact ⟨_, rfl, hrat, hb5⟩
set_option maxRecDepth 100000 in
set_option maxHeartbeats 3200000 in
theorem fracC_zero (k k9 : Nat) (b1 b2 : Bool) (v1 v2 : Value) (ns1 ns2 : List Nat) (w : World) (hk : w.heap[k]? = some (.cells #[.bool b1, v1] 47 (0, 0))) (hk9 : w.heap[k9]? = some (.cells #[.bool b2, v2] 47 (0, 0)))
    (hv1 : RW w v1 ns1) (hv2 : RW w v2 ns2)
    (l1 : ns1.length ≤ 30) (l3 : ns2.length ≤ 30) (p3 : wv ns2 = 0) : ClZF k k9 w := by
  intro X hwX0
  have hS1 := hv1.isS
  have hS2 := hv2.isS
  have hr1 := keep_row hwX0 hk
  have hr2 := keep_row hwX0 hk9
  have V1 := Lib.hid (hv1.below hwX0)
  have V2 := Lib.hid (hv2.below hwX0)
  have HR1 := Lib.hid hr1
  have HR2 := Lib.hid hr2
  have hcc := Below.refl X.heap.size X
  have HF1 : Hid (∀ w', Below X.heap.size X w' → Calls Tryz.prog 48 #[.agg #[.bool b1, v1]] w' fun e w3 => ∃ g, e = .returned (.pointer (some ⟨g, 0, none⟩)) ∧ IntP w3 0 g (b1 && decide (0 < wv ns1)) (wv ns1) ∧ Below w'.heap.size w' w3) := Lib.hid (fun w' h => by
    refine (of_any b1 v1 ns1 w' (V1.out.below h) (by omega)).mono ?_
    rintro e w3 ⟨g, h1, h2, h3⟩
    exact ⟨g, h1, h2.mono (Nat.zero_le _), h3⟩)
  have HF2 : Hid (∀ w', Below X.heap.size X w' → Calls Tryz.prog 48 #[.agg #[.bool b2, v2]] w' fun e w3 => ∃ g, e = .returned (.pointer (some ⟨g, 0, none⟩)) ∧ IntP w3 0 g (b2 && decide (0 < 0)) 0 ∧ Below w'.heap.size w' w3) := Lib.hid (fun w' h => by
    refine (of_any b2 v2 ns2 w' (V2.out.below h) (by omega)).mono ?_
    rintro e w3 ⟨g, h1, h2, h3⟩
    rw [p3] at h2
    exact ⟨g, h1, h2.mono (Nat.zero_le _), h3⟩)
  have HC : Hid (∀ g g1 g2 w', w'.heap[g]? = some (.cells #[.bool false, .slice none 0 0, .bool false, .slice none 0 0] 98 (0, 0)) → X.heap.size ≤ g → IntP w' 0 g1 (b1 && decide (0 < wv ns1)) (wv ns1) → IntP w' 0 g2 (b2 && decide (0 < 0)) 0 → Below X.heap.size X w' →
      Calls Tryz.prog 47 #[.pointer (some ⟨g, 0, none⟩), .pointer (some ⟨g1, 0, none⟩), .pointer (some ⟨g2, 0, none⟩)] w' fun e w4 => e = .panicked divZero ∧ Below X.heap.size X w4) := Lib.hid (fun g g1 g2 w' hg hg0 h1 h2 h3 => by
    refine (setFrac_zero g g1 g2 _ _ (wv ns1) w' hg h1 h2).mono ?_
    rintro e w4 ⟨h4, h5⟩
    exact ⟨h4, h3.trans (h5.mono hg0)⟩)
  clear hv1 hv2 hr1 hr2 hk hk9 l1 l3 hwX0 p3
  go_enter Tryz.func46, Tryz.ntmps46
  go_upto_region 1 with fail
  first
    | (go_region_held2 (fun w' => Below X.heap.size X w' ∧ w'.cell? ⟨k, 0, none⟩ = some (.bool b1) ∧ w'.cell? ⟨k, 1, none⟩ = some v1 ∧ w'.cell? ⟨k9, 0, none⟩ = some (.bool b2) ∧ w'.cell? ⟨k9, 1, none⟩ = some v2)
        ((first | exact absurd h5 (by intro h; cases h) | (refine ks4F HR1.out HR2.out ?_; (repeat (with_reducible first | assumption | refine Below.drew ?_ | refine ballc ?_ _)))))
        (first
          | (go_at_call 47; first
              | (with_reducible refine (HC.out _ _ _ _ hrU2 (Nat.le_refl _) G1.out G2.out hb4).mono ?_)
              | (with_reducible refine (HC.out _ _ _ _ hrV2 hz3 G1.out G2.out hb4).mono ?_)
              | (with_reducible refine (HC.out _ _ _ _ (heap_alloc_new w4 _) hz4 (G1.out.below (fbone _)) (G2.out.below (fbone _)) (ballc hb4 _)).mono ?_)
             rintro e5 w5 ⟨h5, hb5⟩
             rcases e5 with v5 | c5 | _
             rotate_left
             (cases h5; exact ⟨rfl, rfl, hb5⟩)
             (cases h5))
          | (go_at_call 48; (with_reducible refine (HF2.out _ (by repeat (with_reducible first | assumption | refine Below.drew ?_ | refine ballc ?_ _))).mono ?_); rintro _ w4 ⟨g2, rfl, hG2, hb34⟩; have G1 := Lib.hid (show IntP w4 0 g1 (b1 && decide (0 < wv ns1)) (wv ns1) from by first | exact hF1.below hb34 | exact (hF1.below (fbone _)).below hb34); have G2 := Lib.hid hG2; clear hF1 hG2; have hb4 : Below X.heap.size X w4 := bthen (by repeat (with_reducible first | assumption | refine Below.drew ?_ | refine ballc ?_ _)) hb34; have hz4 := hb4.size;
              (first | (have hrU2 := keep_row hb34 hrU) | (have hrV2 := box_row hb34) | skip))
          | (go_at_call 48; (with_reducible refine (HF1.out _ (by repeat (with_reducible first | assumption | refine Below.drew ?_ | refine ballc ?_ _))).mono ?_); rintro _ w3 ⟨g1, rfl, hF1, hb3'⟩; have hb3 : Below X.heap.size X w3 := bthen (by repeat (with_reducible first | assumption | refine Below.drew ?_ | refine ballc ?_ _)) hb3'; have hz3 := hb3.size;
              (first | (have hrU := box_rowD hb3') | skip))))
    | fail
  all_goals exact absurd h5 (by intro h; cases h)
end Go.Proofs.YtkhhoamcnocjlaaGreatDoor

/-
impl.Frac. No condition but the thresholds.
-/
namespace Go.Proofs.YtkhhoamcnocjlaaGreatDoor
open Go.RowKit

/-- The memory that Frac has made when it calls. -/
def FraW (b1 b2 : Bool) (v1 v2 : Value) (w W : World) : Prop :=
  W = ((w.alloc (.cells #[.bool b1, v1] 47)).alloc (.cells #[.bool b2, v2] 47)).alloc (.cells #[.bool false, .slice none 0 0, .slice none 0 0] 51)
theorem FraW.facts {b1 b2 : Bool} {v1 v2 : Value} {w W : World} (h : FraW b1 b2 v1 v2 w W) : Below w.heap.size w W ∧ W.heap.size = w.heap.size + 3 ∧
    W.heap[w.heap.size]? = some (.cells #[.bool b1, v1] 47 (0, 0)) ∧ W.heap[w.heap.size + 1]? = some (.cells #[.bool b2, v2] 47 (0, 0)) ∧ W.heap[w.heap.size + 1 + 1]? = some (.cells #[.bool false, .slice none 0 0, .slice none 0 0] 51 (0, 0)) := by
  unfold FraW at h
  subst h
  exact ⟨bthen (bthen (bone _) (bone _)) (bone _), by simp, heap_new0 w (bthen (bone _) (bone _)) rfl, heap_new0 _ (bone _) (by simp), heap_new0 _ (Below.refl _ _) (by simp)⟩
set_option maxRecDepth 100000 in
set_option maxHeartbeats 800000 in
theorem impFrac_zero (b1 b2 : Bool) (v1 v2 : Value) (ns1 ns2 : List Nat) (w : World) (hv1 : RW w v1 ns1) (hv2 : RW w v2 ns2)
    (l1 : ns1.length ≤ 30) (l3 : ns2.length ≤ 30) (p3 : wv ns2 = 0) :
    Calls Tryz.prog 20 #[.agg #[.bool b1, v1], .agg #[.bool b2, v2]] w fun e w' => e = .returned (.tuple #[.agg #[.bool false, .slice none 0 0, .slice none 0 0], .int .i64 2]) ∧ Below w.heap.size w w' := by
  have hmf : ∀ (fn : Fn) (first cap : Array Value) (w : World), (Instr.makeFunc fn first cap).run Tryz.prog w = .ok (.func fn first cap) w := fun _ _ _ _ => rfl
  have hS1 := hv1.isS
  have hS3 := hv2.isS
  obtain ⟨W, hW⟩ : ∃ W, FraW b1 b2 v1 v2 w W := ⟨_, rfl⟩
  obtain ⟨hab, hsz, hr0, hr1, hr2⟩ := hW.facts
  have HA := Lib.hid (answerGF_zero w.heap.size (w.heap.size + 1) W (fracC_zero w.heap.size (w.heap.size + 1) b1 b2 v1 v2 ns1 ns2 W hr0 hr1 (hv1.below hab) (hv2.below hab) l1 l3 p3))
  have HR2 := Lib.hid hr2
  clear hv1 hv2 hr0 hr1 hr2 hsz l1 l3 p3
  unfold FraW at hW
  go_enter Tryz.func20, Tryz.ntmps20
  go_wp2_with fail
  rw [← hW]
  clear hW
  refine HA.out.mono ?_
  rintro _ w1 ⟨rfl, hb1⟩
  have hrow := keep_row hb1 HR2.out
  obtain ⟨c0, c1, c2, f0, f1, f2⟩ := row3 hrow
  obtain ⟨e0, e1, e2, -, -, -⟩ := row3 (row3_set (x := .bool false) (y := .slice none 0 0) (z := .slice none 0 0) hrow)
  have bb := bset3 (a := .bool false) (b := .slice none 0 0) (c := .slice none 0 0) (bthen hab hb1) (show w.heap.size ≤ w.heap.size + 1 + 1 by omega)
  clear hrow
  go_wp2
  refine bodyPost_ret (v := .tuple #[.agg #[.bool false, .slice none 0 0, .slice none 0 0], .int .i64 2]) ?_ rfl ⟨rfl, bb⟩
  simp [results, Tryz.results20, go_sem, e0, e1, e2]
set_option maxRecDepth 100000 in
set_option maxHeartbeats 800000 in
theorem impFrac_ok (b1 b2 : Bool) (v1 v2 : Value) (ns1 ns2 : List Nat) (w : World) (hv1 : RW w v1 ns1) (hv2 : RW w v2 ns2)
    (l1 : ns1.length ≤ 30) (l3 : ns2.length ≤ 30) (p3 : 0 < wv ns2) (hT : DivW w) :
    Calls Tryz.prog 20 #[.agg #[.bool b1, v1], .agg #[.bool b2, v2]] w fun e w' => ∃ v, e = .returned (.tuple #[v, .int .i64 0]) ∧ FracV w' v (rI (b1 != b2) (wv ns1)) (wv ns2) ∧ Below w.heap.size w w' := by
  have hmf : ∀ (fn : Fn) (first cap : Array Value) (w : World), (Instr.makeFunc fn first cap).run Tryz.prog w = .ok (.func fn first cap) w := fun _ _ _ _ => rfl
  have hS1 := hv1.isS
  have hS3 := hv2.isS
  obtain ⟨V, hV⟩ : ∃ V : Int, V = rI (b1 != b2) (wv ns1) := ⟨_, rfl⟩
  obtain ⟨D, hD⟩ : ∃ D : Nat, D = wv ns2 := ⟨_, rfl⟩
  have hD0 : 0 < D := by rw [hD]; exact p3
  have z1 := nw_le (wv_lt hv1.lt)
  have z3 := nw_le (wv_lt hv2.lt)
  have NV : nw V.natAbs ≤ 100 := by rw [hV, rI_abs]; omega
  have ND : nw D ≤ 100 := by rw [hD]; omega
  obtain ⟨W, hW⟩ : ∃ W, FraW b1 b2 v1 v2 w W := ⟨_, rfl⟩
  obtain ⟨hab, hsz, hr0, hr1, hr2⟩ := hW.facts
  have hcl := fracC_ok w.heap.size (w.heap.size + 1) b1 b2 v1 v2 ns1 ns2 W hr0 hr1 (hv1.below hab) (hv2.below hab) l1 l3 p3 (hT.below hab)
  rw [← hV, ← hD] at hcl
  have HA := Lib.hid (answerGF_ok w.heap.size (w.heap.size + 1) (V.natAbs / Nat.gcd V.natAbs D) (D / Nat.gcd V.natAbs D) (decide (V < 0)) W hcl (gcd_div_pos hD0) (Nat.le_trans (nw_mono (Nat.div_le_self _ _)) (by omega)) (Nat.le_trans (nw_mono (Nat.div_le_self _ _)) (by omega)))
  rw [neg_div V hD0] at HA
  have HR2 := Lib.hid hr2
  rw [← hV, ← hD]
  obtain ⟨x, hx⟩ : ∃ x, x = decide (V < 0) := ⟨_, rfl⟩
  rw [← hx] at HA
  have HX := Lib.hid hx
  clear hv1 hv2 hr0 hr1 hr2 hsz l1 l3 p3 hT hcl hV hD hD0 z1 z3 NV ND hx
  unfold FraW at hW
  go_enter Tryz.func20, Tryz.ntmps20
  go_wp2_with fail
  rw [← hW]
  clear hW
  refine HA.out.mono ?_
  rintro _ w1 ⟨r1, r2, rfl, hq1, hq2, hb1⟩
  have hSr1 := hq1.isS
  have hSr2 := hq2.isS
  have hrow := keep_row hb1 HR2.out
  obtain ⟨c0, c1, c2, f0, f1, f2⟩ := row3 hrow
  obtain ⟨e0, e1, e2, -, -, -⟩ := row3 (row3_set (x := .bool x) (y := r1) (z := r2) hrow)
  have bb := bset3 (a := .bool x) (b := r1) (c := r2) (bthen hab hb1) (show w.heap.size ≤ w.heap.size + 1 + 1 by omega)
  have A1 := Lib.hid (rw_row3 (x := .bool x) (y := r1) (z := r2) hq1 IsS.nil IsS.nil hrow)
  have A2 := Lib.hid (rw_row3 (x := .bool x) (y := r1) (z := r2) hq2 IsS.nil IsS.nil hrow)
  clear hrow hq1 hq2
  go_wp2
  refine bodyPost_ret (v := .tuple #[.agg #[.bool x, r1, r2], .int .i64 0]) ?_ rfl ⟨_, rfl, ⟨r1, r2, by rw [HX.out], A1.out, A2.out⟩, bb⟩
  simp [results, Tryz.results20, go_sem, e0, e1, e2]
end Go.Proofs.YtkhhoamcnocjlaaGreatDoor

/-
A statement's argument that is a Real: what it reads as. No condition.
-/
namespace Go.Proofs.YtkhhoamcnocjlaaGreatDoor
open Go.ChangeShapes Go.WideShapes Go.ChangeAt Go.RowKit

section
variable {H : Type} {enc : TypeId × Value → H} {P : Program} {w : World} {base : Nat} {spare : Nat → Bool} {held : Bool}
theorem trod_struct6 {t : TypeId} {f0 f1 f2 f3 f4 f5 : Field} {fuel : Nat} {cs : List Value} {x : DataW H × List MemPlace} (ht : P.underlying t = some (.struct #[f0, f1, f2, f3, f4, f5])) (h : DataW.trod enc P w base spare held fuel t cs = some x) :
    ∃ y0 y1 y2 y3 y4 y5 n, cs.length = P.cellsOf t ∧ DataW.trod enc P w base spare held n f0.type ((cs.drop f0.offset).take (P.cellsOf f0.type)) = some y0 ∧
      DataW.trod enc P w base spare held n f1.type ((cs.drop f1.offset).take (P.cellsOf f1.type)) = some y1 ∧ DataW.trod enc P w base spare held n f2.type ((cs.drop f2.offset).take (P.cellsOf f2.type)) = some y2 ∧
      DataW.trod enc P w base spare held n f3.type ((cs.drop f3.offset).take (P.cellsOf f3.type)) = some y3 ∧ DataW.trod enc P w base spare held n f4.type ((cs.drop f4.offset).take (P.cellsOf f4.type)) = some y4 ∧
      DataW.trod enc P w base spare held n f5.type ((cs.drop f5.offset).take (P.cellsOf f5.type)) = some y5 := by
  obtain ⟨xs, n, _, rfl, hl, hlen, hf⟩ := DataW.trod_struct ht h
  match xs, hlen with
  | [y0, y1, y2, y3, y4, y5], _ => exact ⟨y0, y1, y2, y3, y4, y5, n, hl, by simpa using hf 0 f0 rfl, by simpa using hf 1 f1 rfl, by simpa using hf 2 f2 rfl, by simpa using hf 3 f3 rfl, by simpa using hf 4 f4 rfl, by simpa using hf 5 f5 rfl⟩
end
section
variable {H : Type} {enc : TypeId × Value → H} {W : World} {base : Nat} {held : Bool}
theorem open_i64 {c : Value} {fuel : Nat} {x : DataW H × List MemPlace} (h : DataW.trod enc Tryz.prog W base (fun _ => true) held fuel 3 [c] = some x) : ∃ n : Int, c = .int .i64 n ∧ -9223372036854775808 ≤ n ∧ n ≤ 9223372036854775807 := by
  obtain ⟨n, hc, _, hw⟩ := DataW.trod_int Tryz.underlying3 h
  exact ⟨n, by simpa using hc, by simpa [Lit.wf, IntKind.min, IntKind.max, IntKind.signed, IntKind.bits] using hw⟩
theorem open_u64 {c : Value} {fuel : Nat} {x : DataW H × List MemPlace} (h : DataW.trod enc Tryz.prog W base (fun _ => true) held fuel 23 [c] = some x) : ∃ n : Nat, c = .int .u64 n ∧ n ≤ 18446744073709551615 := by
  obtain ⟨n, hc, _, hw⟩ := DataW.trod_int Tryz.underlying23 h
  have hb : 0 ≤ n ∧ n ≤ 18446744073709551615 := by simpa [Lit.wf, IntKind.min, IntKind.max, IntKind.signed, IntKind.bits] using hw
  obtain ⟨k, rfl⟩ := Int.eq_ofNat_of_zero_le hb.1
  exact ⟨k, by simpa using hc, by omega⟩
set_option maxRecDepth 100000 in
theorem open_real {v : Value} {r : Reach} {b0 : Nat} {d : DataW H} {p : List MemPlace} (hval : Value.okWide Tryz.prog W r b0 26 v) (h : DataW.Trod enc Tryz.prog W base (fun _ => true) held 26 v d p) :
    ∃ (q : Nat) (m f : Int) (n : Bool) (x : Value) (e : Int) (ws : List Nat), v = .agg #[.int .u64 q, .int .i64 m, .int .i64 f, .bool n, x, .int .i64 e] ∧ RW W x ws ∧
      (q ≤ 18446744073709551615 ∧ (-9223372036854775808 ≤ m ∧ m ≤ 9223372036854775807) ∧ (-9223372036854775808 ≤ f ∧ f ≤ 9223372036854775807) ∧ (-9223372036854775808 ≤ e ∧ e ≤ 9223372036854775807)) := by
  obtain ⟨cs, rfl, hsz⟩ := okWide_struct Tryz.underlying26 hval
  have hc : Tryz.prog.cellsOf 26 = 6 := by kernel_rfl
  rw [hc] at hsz
  obtain ⟨fuel, hf⟩ := h
  obtain ⟨y0, y1, y2, y3, y4, y5, n, hl, h0, h1, h2, h3, h4, h5⟩ := trod_struct6 Tryz.underlying26 hf
  match cs, hsz with
  | ⟨[c0, c1, c2, c3, c4, c5]⟩, _ =>
    have hcu : Tryz.prog.cellsOf 23 = 1 := by kernel_rfl
    have hci : Tryz.prog.cellsOf 3 = 1 := by kernel_rfl
    have hcb : Tryz.prog.cellsOf 4 = 1 := by kernel_rfl
    have hcs : Tryz.prog.cellsOf 24 = 1 := by kernel_rfl
    obtain ⟨q, rfl, hq⟩ := open_u64 (c := c0) (by simpa [hcu, Value.cells] using h0)
    obtain ⟨m, rfl, hm⟩ := open_i64 (c := c1) (by simpa [hci, Value.cells] using h1)
    obtain ⟨f, rfl, hf'⟩ := open_i64 (c := c2) (by simpa [hci, Value.cells] using h2)
    obtain ⟨b, hb, _⟩ := DataW.trod_bool Tryz.underlying4 h3
    have e3 : c3 = .bool b := by simpa [hcb, Value.cells] using hb
    subst e3
    obtain ⟨ws, hw⟩ := open_words (v := c4) (by simpa [hcs, Value.cells] using h4)
    obtain ⟨e, rfl, he⟩ := open_i64 (c := c5) (by simpa [hci, Value.cells] using h5)
    exact ⟨q, m, f, b, c4, e, ws, rfl, hw, hq, hm, hf', he⟩
end
end Go.Proofs.YtkhhoamcnocjlaaGreatDoor

/-
A statement's argument that is a Number: what it reads as. No condition.
-/
namespace Go.Proofs.YtkhhoamcnocjlaaGreatDoor
open Go.ChangeShapes Go.WideShapes Go.ChangeAt Go.RowKit

section
variable {H : Type} {enc : TypeId × Value → H} {P : Program} {w : World} {base : Nat} {spare : Nat → Bool} {held : Bool}
theorem trod_struct2 {t : TypeId} {f0 f1 : Field} {fuel : Nat} {cs : List Value} {x : DataW H × List MemPlace} (ht : P.underlying t = some (.struct #[f0, f1])) (h : DataW.trod enc P w base spare held fuel t cs = some x) :
    ∃ y0 y1 n, cs.length = P.cellsOf t ∧ DataW.trod enc P w base spare held n f0.type ((cs.drop f0.offset).take (P.cellsOf f0.type)) = some y0 ∧
      DataW.trod enc P w base spare held n f1.type ((cs.drop f1.offset).take (P.cellsOf f1.type)) = some y1 := by
  obtain ⟨xs, n, _, rfl, hl, hlen, hf⟩ := DataW.trod_struct ht h
  match xs, hlen with
  | [y0, y1], _ => exact ⟨y0, y1, n, hl, by simpa using hf 0 f0 rfl, by simpa using hf 1 f1 rfl⟩
end
section
variable {H : Type} {enc : TypeId × Value → H} {W : World} {base : Nat} {held : Bool}
set_option maxRecDepth 100000 in
theorem open_num {v : Value} {r : Reach} {b0 : Nat} {d : DataW H} {p : List MemPlace} (hval : Value.okWide Tryz.prog W r b0 47 v) (h : DataW.Trod enc Tryz.prog W base (fun _ => true) held 47 v d p) :
    ∃ (n : Bool) (x : Value) (ws : List Nat), v = .agg #[.bool n, x] ∧ RW W x ws := by
  obtain ⟨cs, rfl, hsz⟩ := okWide_struct Tryz.underlying47 hval
  have hc : Tryz.prog.cellsOf 47 = 2 := by kernel_rfl
  rw [hc] at hsz
  obtain ⟨fuel, hf⟩ := h
  obtain ⟨y0, y1, n, hl, h0, h1⟩ := trod_struct2 Tryz.underlying47 hf
  match cs, hsz with
  | ⟨[c0, c1]⟩, _ =>
    have hcb : Tryz.prog.cellsOf 4 = 1 := by kernel_rfl
    have hcs : Tryz.prog.cellsOf 24 = 1 := by kernel_rfl
    obtain ⟨b, hb, _⟩ := DataW.trod_bool Tryz.underlying4 h0
    have e0 : c0 = .bool b := by simpa [hcb, Value.cells] using hb
    subst e0
    obtain ⟨ws, hw⟩ := open_words (v := c1) (by simpa [hcs, Value.cells] using h1)
    exact ⟨b, c1, ws, rfl, hw⟩
end
end Go.Proofs.YtkhhoamcnocjlaaGreatDoor
