/-
The package's integers by their cells: SetBits, Sign, Bits, Set, Neg. No condition.
-/
import Derived.Test.YtniingblgkghgaaInC
import Derived.Test.YtniingblgkghgaaWdF
import Derived.Test.YtniingblgkghgaaHoistP
import Derived.Lib.Builder
import Derived.Outline
namespace Go.Proofs.Ytniingblgkghgaa
open Go.RowKit

/-- A cell that holds a value and is not frozen. -/
def CellF (w : World) (b i : Nat) (v : Value) : Prop := w.cell? ⟨b, i, none⟩ = some v ∧ w.frozen? ⟨b, i, none⟩ = false
theorem RI.drewN {k : IntKind} {w : World} {v : Value} {xs : List Int} (h : RI k w v xs) (n : Nat) : RI k (w.drewN n) v xs := ⟨h.isS, h.len, h.cell⟩
theorem RW.drewN {w : World} {v : Value} {ds : List Nat} (h : RW w v ds) (n : Nat) : RW (w.drewN n) v ds := ⟨h.ri.drewN n, h.lt⟩
def sgnI (neg : Bool) (l : Nat) : Int := if l = 0 then 0 else if neg then -1 else 1
set_option maxRecDepth 100000 in
theorem intSetBits (b o : Nat) (x0 x1 v : Value) (ws : List Nat) (w : World) (h0 : CellF w b o x0) (h1 : CellF w b (o + 1) x1) (hv : RW w v ws) (hl : ws.length ≤ 1000000000) :
    Calls Try.prog 93 #[.pointer (some ⟨b, o, none⟩), v] w fun e w' => e = .returned (.pointer (some ⟨b, o, none⟩)) ∧ w' = (w.setCell ⟨b, o + 1, none⟩ (subS v 0 (nw (wv ws)))).setCell ⟨b, o, none⟩ (.bool false) := by
  have hS := hv.isS
  have hL := hv.len
  obtain ⟨c0, f0⟩ := h0
  obtain ⟨c1, f1⟩ := h1
  have hnw := nw_le (wv_lt hv.lt)
  have hcap := hS.le
  have hS2 : IsS (subS v 0 (nw (wv ws))) := subS_isS hS (Nat.zero_le _) (by omega)
  go_enter Try.func93, Try.ntmps93
  go_wp2_with fail
  refine (norm_any v ws w hv hl).mono ?_
  rintro _ _ ⟨rfl, rfl⟩
  go_wp2
  go_ret
  exact ⟨rfl, rfl⟩
theorem run_neq_ptr_other {P : Program} (w : World) {tp te : TypeId} {j : TypeInfo} {a b : Addr} {ca cb : Array Value} {ta tb : TypeId} (hp : P.underlying tp = some (.pointer te)) (hte : P.info? te = some j) (hsz : j.size ≠ 0)
    (hne : a ≠ b) (ha : w.heap[a.block]? = some (.cells ca ta (0, 0))) (hb : w.heap[b.block]? = some (.cells cb tb (0, 0))) :
    (binOp .neq tp (.pointer (some a)) (.pointer (some b))).run P w = .ok (.bool true) w := by
  have h : ∀ d : Nat, (Op.equalIn (d + 1) tp (.pointer (some a)) (.pointer (some b))).run P w = .ok false w := fun d => by
    simp [Op.equalIn, run_underlying hp, sizeOf, typeInfo, hte, hsz, run_sameAddr_other w hne ha hb]
  simp only [binOp]
  simp [Op.equal, Op.maxDepth, h 9999]
theorem info_size {P : Program} {t n : Nat} (h : (P.info? t).map (·.size) = some n) : ∃ j, P.info? t = some j ∧ j.size = n := by
  cases hi : P.info? t with
  | none => rw [hi] at h; cases h
  | some i => rw [hi] at h; exact ⟨i, rfl, by simpa using h⟩
theorem sizeI : (Try.prog.info? 134).map (·.size) = some 2 := by kernel_rfl
theorem neqI (w : World) {b o c q : Nat} {cb cc : Array Value} {tb tc : TypeId} (hne : b ≠ c) (hb : w.heap[b]? = some (.cells cb tb (0, 0))) (hc : w.heap[c]? = some (.cells cc tc (0, 0))) :
    (binOp .neq 105 (.pointer (some ⟨b, o, none⟩)) (.pointer (some ⟨c, q, none⟩))).run Try.prog w = .ok (.bool true) w := by
  obtain ⟨j, hj, hz⟩ := info_size sizeI
  exact run_neq_ptr_other w Try.underlying105 hj (by omega) (by simp [hne]) hb hc
theorem neqI_same (w : World) (a : Addr) : (binOp .neq 105 (.pointer (some a)) (.pointer (some a))).run Try.prog w = .ok (.bool false) w := by
  obtain ⟨j, hj, hz⟩ := info_size sizeI
  exact Lib.run_neq_ptr_same w a Try.underlying105 hj
theorem row_at {w : World} {b i : Nat} {cs : Array Value} {T : TypeId} {v : Value} (h : w.heap[b]? = some (.cells cs T (0, 0))) (hv : cs[i]? = some v) : CellF w b i v :=
  ⟨by rw [cell_of_row w b i _ _ _ h]; exact hv, frozen_of_row w b i _ _ h⟩
set_option maxRecDepth 100000 in
theorem intSet (b o c q : Nat) (x0 v : Value) (neg : Bool) (cb cc : Array Value) (tb tc : TypeId) (ws : List Nat) (w : World) (hne : b ≠ c) (rb : w.heap[b]? = some (.cells cb tb (0, 0))) (rc : w.heap[c]? = some (.cells cc tc (0, 0)))
    (h0 : cb[o]? = some x0) (h1 : cb[o + 1]? = some (.slice none 0 0)) (hn : cc[q]? = some (.bool neg)) (hx : cc[q + 1]? = some v) (hv : RW w v ws) (hl : ws.length ≤ 1000000000) :
    Calls Try.prog 111 #[.pointer (some ⟨b, o, none⟩), .pointer (some ⟨c, q, none⟩)] w fun e w' => e = .returned (.pointer (some ⟨b, o, none⟩)) ∧ ∃ r w1, w' = (w1.setCell ⟨b, o + 1, none⟩ r).setCell ⟨b, o, none⟩ (.bool neg) ∧ Own w1 w.heap.size 132 r (cellsW ws) ∧ Below w.heap.size w w1 := by
  have hS := hv.isS
  obtain ⟨c0, f0⟩ := row_at rb h0
  obtain ⟨c1, f1⟩ := row_at rb h1
  obtain ⟨d0, -⟩ := row_at rc hn
  obtain ⟨d1, -⟩ := row_at rc hx
  have hcmp := neqI w (o := o) (q := q) hne rb rc
  have Hv := Lib.hid hv
  have RB := Lib.hid rb
  have RC := Lib.hid rc
  clear hv rb rc h0 h1 hn hx
  go_enter Try.func111, Try.ntmps111
  go_wp2
  (refine wp_region_hoist 9 (by kernel_rfl) (by kernel_rfl) ⟨fun _ _ _ h => (by first | cases h.2.1 | (obtain ⟨_, h3, _⟩ := h.2; cases h3)), fun _ _ h => (by first | cases h.1 | (obtain ⟨_, h3, _⟩ := h; cases h3))⟩ ?_; simp only [List.take_succ_cons, List.take_zero, List.drop_succ_cons, List.drop_zero]; (repeat (go_big_quiet_step (fail))); refine wpQuiet_nil ?_; rintro _ ⟨nq, rfl⟩)
  go_wp2_with fail
  refine (set_nil v ws _ (Hv.out.drewN _) hl).mono ?_
  rintro _ w1 ⟨r, rfl, ho, hb⟩
  have hSr := ho.isS
  have rb1 := keep_row hb RB.out
  have rc1 := keep_row hb RC.out
  have hb2 := undrewN hb
  have k0 := hb2.cell (p := ⟨b, o, none⟩) (World.block_lt_of_cell? w _ c0)
  have k1 := hb2.cell (p := ⟨b, o + 1, none⟩) (World.block_lt_of_cell? w _ c1)
  have k2 := hb2.cell (p := ⟨c, q, none⟩) (World.block_lt_of_cell? w _ d0)
  rw [c0] at k0
  rw [c1] at k1
  rw [d0] at k2
  have f0 := frozen_of_row w1 b o _ _ rb1
  have f1 := frozen_of_row w1 b (o + 1) _ _ rb1
  have hne' : ¬ b = c := hne
  have hne'' : ¬ c = b := fun h => hne h.symm
  have HO := Lib.hid ho
  clear rb1 rc1 hb ho
  go_wp2
  go_ret
  exact ⟨rfl, _, _, rfl, HO.out, hb2⟩
set_option maxRecDepth 100000 in
theorem intSet_same (a : Addr) (w : World) :
    Calls Try.prog 111 #[.pointer (some a), .pointer (some a)] w fun e w' => e = .returned (.pointer (some a)) ∧ w = w' := by
  have hcmp := neqI_same w a
  go_enter Try.func111, Try.ntmps111
  go_wp2
  go_ret
  exact ⟨rfl, rfl⟩
set_option maxRecDepth 100000 in
theorem intNeg_same (b o : Nat) (neg : Bool) (v : Value) (w : World) (h0 : CellF w b o (.bool neg)) (h1 : CellF w b (o + 1) v) (hS : IsS v) :
    Calls Try.prog 94 #[.pointer (some ⟨b, o, none⟩), .pointer (some ⟨b, o, none⟩)] w fun e w' => e = .returned (.pointer (some ⟨b, o, none⟩)) ∧ ∃ n, w' = (w.drewN n).setCell ⟨b, o, none⟩ (.bool (decide (0 < sLen v) && !neg)) := by
  obtain ⟨c0, f0⟩ := h0
  obtain ⟨c1, f1⟩ := h1
  obtain ⟨l, hl⟩ : ∃ l, sLen v = l := ⟨_, rfl⟩
  rw [hl]
  have hd : decide (0 < l) = true ∨ decide (0 < l) = false := by cases decide (0 < l) <;> simp
  rcases hd with t1 | t1
  all_goals
    rw [t1]
    go_enter Try.func94, Try.ntmps94
    go_wp2_with fail
    refine (intSet_same _ w).mono ?_
    rintro _ _ ⟨rfl, rfl⟩
    go_wp2
    go_ret
    exact ⟨rfl, 0, rfl⟩
end Go.Proofs.Ytniingblgkghgaa
