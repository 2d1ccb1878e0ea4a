/-
answered, RatInv, Upside. No condition.
-/
import Derived.Test.YtedmkbpfmddafaaInR
namespace Go.Proofs.Ytedmkbpfmddafaa
open Go.RowKit

theorem rows3 (w : World) (o1 o2 o3 : Obj) : ((w.alloc o1).alloc o2).alloc o3 = ((w.alloc o1).alloc o2).alloc o3 ∧ True := ⟨rfl, trivial⟩
theorem heap_new0 (w : World) {cs : Array Value} {T : TypeId} {W : World} (hb : Below (w.alloc (.cells cs T)).heap.size (w.alloc (.cells cs T)) W) {k : Nat} (hk : k = w.heap.size) : W.heap[k]? = some (.cells cs T (0, 0)) := by subst hk; exact box_row hb
theorem bone {W : World} (o : Obj) : Below W.heap.size W (W.alloc o) := (Below.refl _ _).alloc (Nat.le_refl _) _
theorem RW.awayR {w : World} {g T : Nat} {v : Value} {ds : List Nat} {a : Bool} {b c : Value} {x y z : Value} (hv : RW w v ds) (hb : IsS b) (hc : IsS c) (h : w.heap[g]? = some (.cells #[.bool a, b, c] T (0, 0))) : RW (((w.setCell ⟨g, 0, none⟩ x).setCell ⟨g, 1, none⟩ y).setCell ⟨g, 2, none⟩ z) v ds := rw_row3 hv hb hc h
/-- The memory that answered has made when it calls. -/
def AnsW (k : Nat) (w W : World) : Prop :=
  W = ((w.alloc (.cells #[.func (.func 64) #[] #[.pointer (some ⟨k, 0, none⟩)]] 95)).alloc (.cells #[.bool false, .slice none 0 0, .slice none 0 0] 55)).alloc (.cells #[.bool false, .slice none 0 0, .slice none 0 0] 55)
theorem AnsW.facts {k : Nat} {w W : World} (h : AnsW k w W) : Below w.heap.size w W ∧ W.heap.size = w.heap.size + 3 ∧
    W.heap[w.heap.size]? = some (.cells #[.func (.func 64) #[] #[.pointer (some ⟨k, 0, none⟩)]] 95 (0, 0)) ∧
    W.heap[w.heap.size + 1]? = some (.cells #[.bool false, .slice none 0 0, .slice none 0 0] 55 (0, 0)) ∧
    W.heap[w.heap.size + 2]? = some (.cells #[.bool false, .slice none 0 0, .slice none 0 0] 55 (0, 0)) := by
  unfold AnsW at h
  subst h
  refine ⟨bthen (bthen (bone _) (bone _)) (bone _), by simp, heap_new0 w (bthen (bone _) (bone _)) rfl, heap_new0 _ (bone _) (by simp), heap_new0 _ (Below.refl _ _) (by simp)⟩
set_option maxRecDepth 100000 in
set_option maxHeartbeats 800000 in
theorem answered_zero (k : Nat) (b : Bool) (v1 v2 : Value) (ns ds : List Nat) (w : World) (hk : w.heap[k]? = some (.cells #[.bool b, v1, v2] 55 (0, 0)))
    (h1 : RW w v1 ns) (h2 : RW w v2 ds) (hl1 : ns.length ≤ 100000) (hl2 : ds.length ≤ 100000) (h0 : wv ns = 0) :
    Calls Try.prog 63 #[.func (.func 64) #[] #[.pointer (some ⟨k, 0, none⟩)]] w fun e w' => e = .returned (.tuple #[.agg #[.bool false, .slice none 0 0, .slice none 0 0], .int .i64 2]) ∧ Below w.heap.size w w' := by
  have hmf : ∀ (fn : Fn) (first cap : Array Value) (w : World), (Instr.makeFunc fn first cap).run Try.prog w = .ok (.func fn first cap) w := fun _ _ _ _ => rfl
  obtain ⟨W, hW⟩ : ∃ W, AnsW k w W := ⟨_, rfl⟩
  obtain ⟨hab, hsz, hr0, hr1, hr2⟩ := hW.facts
  have HK := Lib.hid (keep_row hab hk)
  have H1 := Lib.hid (h1.below hab)
  have H2 := Lib.hid (h2.below hab)
  have HR0 := Lib.hid hr0
  have HR1 := Lib.hid hr1
  have HS := Lib.hid hsz
  clear hk h1 h2 hr0 hr1 hr2 hsz
  unfold AnsW at hW
  go_enter Try.func63, Try.ntmps63
  go_wp2_with fail
  rw [← hW]
  clear hW
  refine (guarded_zero k w.heap.size (w.heap.size + 2) b v1 v2 ns ds W HK.out HR0.out H1.out H2.out hl1 hl2 h0).mono ?_
  rintro _ w1 ⟨rfl, hb1⟩
  have hrow := keep_row hb1 HR1.out
  obtain ⟨c0, c1, c2, f0, f1, f2⟩ := row3 hrow
  obtain ⟨e0, e1, e2, -, -, -⟩ := row3 (row3_set (x := .bool false) (y := .slice none 0 0) (z := .slice none 0 0) hrow)
  have bb := bset3 (a := .bool false) (b := .slice none 0 0) (c := .slice none 0 0) (bthen hab hb1) (show w.heap.size ≤ w.heap.size + 1 by omega)
  clear hrow
  go_wp2
  refine bodyPost_ret (v := .tuple #[.agg #[.bool false, .slice none 0 0, .slice none 0 0], .int .i64 2]) ?_ rfl ⟨rfl, bb⟩
  simp [results, Try.results63, go_sem, e0, e1, e2]
set_option maxRecDepth 100000 in
set_option maxHeartbeats 800000 in
theorem answered_ok (k : Nat) (b : Bool) (v1 v2 : Value) (ns ds : List Nat) (w : World) (hk : w.heap[k]? = some (.cells #[.bool b, v1, v2] 55 (0, 0)))
    (h1 : RW w v1 ns) (h2 : RW w v2 ds) (hl1 : ns.length ≤ 100000) (hl2 : ds.length ≤ 100000) (h0 : 0 < wv ns) (hd0 : 0 < wv ds) :
    Calls Try.prog 63 #[.func (.func 64) #[] #[.pointer (some ⟨k, 0, none⟩)]] w fun e w' => ∃ r1 r2, e = .returned (.tuple #[.agg #[.bool (b && decide (0 < wv ds)), r1, r2], .int .i64 0]) ∧ RW w' r1 (wds (wv ds)) ∧ RW w' r2 (wds (wv ns)) ∧ Below w.heap.size w w' := by
  have hmf : ∀ (fn : Fn) (first cap : Array Value) (w : World), (Instr.makeFunc fn first cap).run Try.prog w = .ok (.func fn first cap) w := fun _ _ _ _ => rfl
  obtain ⟨W, hW⟩ : ∃ W, AnsW k w W := ⟨_, rfl⟩
  obtain ⟨hab, hsz, hr0, hr1, hr2⟩ := hW.facts
  have HK := Lib.hid (keep_row hab hk)
  have H1 := Lib.hid (h1.below hab)
  have H2 := Lib.hid (h2.below hab)
  have HR0 := Lib.hid hr0
  have HR1 := Lib.hid hr1
  have HR2 := Lib.hid hr2
  have HS := Lib.hid hsz
  obtain ⟨x, hx⟩ : ∃ x, x = (b && decide (0 < wv ds)) := ⟨_, rfl⟩
  rw [← hx]
  have HX := Lib.hid hx
  clear hk h1 h2 hr0 hr1 hr2 hsz hx
  unfold AnsW at hW
  go_enter Try.func63, Try.ntmps63
  go_wp2_with fail
  rw [← hW]
  clear hW
  refine (guarded_ok k w.heap.size (w.heap.size + 2) w.heap.size b v1 v2 ns ds W HK.out HR0.out HR2.out (by omega) H1.out H2.out hl1 hl2 h0 hd0).mono ?_
  rintro _ w1 ⟨rfl, r1, r2, hr4, hS1, hS2, hq1, hq2, hb1, hon⟩
  rw [← HX.out] at hr4
  have hrow := (hon (w.heap.size + 1) (by have := HS.out; omega) (by omega)).trans HR1.out
  obtain ⟨c0, c1, c2, f0, f1, f2⟩ := row3 hrow
  obtain ⟨d0, d1, d2, -, -, -⟩ := row3 hr4
  obtain ⟨e0, e1, e2, -, -, -⟩ := row3 (row3_set (x := .bool x) (y := r1) (z := r2) hrow)
  have bb := bset3 (a := .bool x) (b := r1) (c := r2) (hab.trans hb1) (show w.heap.size ≤ w.heap.size + 1 by omega)
  have A1 := Lib.hid (rw_row3 (x := .bool x) (y := r1) (z := r2) hq1 IsS.nil IsS.nil hrow)
  have A2 := Lib.hid (rw_row3 (x := .bool x) (y := r1) (z := r2) hq2 IsS.nil IsS.nil hrow)
  clear hrow hr4 hq1 hq2 hon
  go_wp2
  refine bodyPost_ret (v := .tuple #[.agg #[.bool x, r1, r2], .int .i64 0]) ?_ rfl ⟨r1, r2, rfl, A1.out, A2.out, bb⟩
  simp [results, Try.results63, go_sem, e0, e1, e2]
end Go.Proofs.Ytedmkbpfmddafaa
