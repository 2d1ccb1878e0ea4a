/-
Texts of this proof, joined: RoB. No condition.
-/
import Derived.Test.YtgbmlaffilccnaaGreatDoorK02
/-
A statement's argument that is a Real: what it reads as. No condition.
-/
namespace Go.Proofs.YtgbmlaffilccnaaGreatDoor
open Go.ChangeShapes Go.WideShapes Go.ChangeAt Go.RowKit

section
variable {H : Type} {enc : TypeId × Value → H} {P : Program} {w : World} {base : Nat} {spare : Nat → Bool} {held : Bool}
theorem trod_struct6 {t : TypeId} {f0 f1 f2 f3 f4 f5 : Field} {fuel : Nat} {cs : List Value} {x : DataW H × List MemPlace} (ht : P.underlying t = some (.struct #[f0, f1, f2, f3, f4, f5])) (h : DataW.trod enc P w base spare held fuel t cs = some x) :
    ∃ y0 y1 y2 y3 y4 y5 n, cs.length = P.cellsOf t ∧ DataW.trod enc P w base spare held n f0.type ((cs.drop f0.offset).take (P.cellsOf f0.type)) = some y0 ∧
      DataW.trod enc P w base spare held n f1.type ((cs.drop f1.offset).take (P.cellsOf f1.type)) = some y1 ∧ DataW.trod enc P w base spare held n f2.type ((cs.drop f2.offset).take (P.cellsOf f2.type)) = some y2 ∧
      DataW.trod enc P w base spare held n f3.type ((cs.drop f3.offset).take (P.cellsOf f3.type)) = some y3 ∧ DataW.trod enc P w base spare held n f4.type ((cs.drop f4.offset).take (P.cellsOf f4.type)) = some y4 ∧
      DataW.trod enc P w base spare held n f5.type ((cs.drop f5.offset).take (P.cellsOf f5.type)) = some y5 := by
  obtain ⟨xs, n, _, rfl, hl, hlen, hf⟩ := DataW.trod_struct ht h
  match xs, hlen with
  | [y0, y1, y2, y3, y4, y5], _ => exact ⟨y0, y1, y2, y3, y4, y5, n, hl, by simpa using hf 0 f0 rfl, by simpa using hf 1 f1 rfl, by simpa using hf 2 f2 rfl, by simpa using hf 3 f3 rfl, by simpa using hf 4 f4 rfl, by simpa using hf 5 f5 rfl⟩
end
section
variable {H : Type} {enc : TypeId × Value → H} {W : World} {base : Nat} {held : Bool}
theorem open_i64 {c : Value} {fuel : Nat} {x : DataW H × List MemPlace} (h : DataW.trod enc Tryz.prog W base (fun _ => true) held fuel 3 [c] = some x) : ∃ n : Int, c = .int .i64 n ∧ -9223372036854775808 ≤ n ∧ n ≤ 9223372036854775807 := by
  obtain ⟨n, hc, _, hw⟩ := DataW.trod_int Tryz.underlying3 h
  exact ⟨n, by simpa using hc, by simpa [Lit.wf, IntKind.min, IntKind.max, IntKind.signed, IntKind.bits] using hw⟩
theorem open_u64 {c : Value} {fuel : Nat} {x : DataW H × List MemPlace} (h : DataW.trod enc Tryz.prog W base (fun _ => true) held fuel 23 [c] = some x) : ∃ n : Nat, c = .int .u64 n ∧ n ≤ 18446744073709551615 := by
  obtain ⟨n, hc, _, hw⟩ := DataW.trod_int Tryz.underlying23 h
  have hb : 0 ≤ n ∧ n ≤ 18446744073709551615 := by simpa [Lit.wf, IntKind.min, IntKind.max, IntKind.signed, IntKind.bits] using hw
  obtain ⟨k, rfl⟩ := Int.eq_ofNat_of_zero_le hb.1
  exact ⟨k, by simpa using hc, by omega⟩
set_option maxRecDepth 100000 in
theorem open_real {v : Value} {r : Reach} {b0 : Nat} {d : DataW H} {p : List MemPlace} (hval : Value.okWide Tryz.prog W r b0 26 v) (h : DataW.Trod enc Tryz.prog W base (fun _ => true) held 26 v d p) :
    ∃ (q : Nat) (m f : Int) (n : Bool) (x : Value) (e : Int) (ws : List Nat), v = .agg #[.int .u64 q, .int .i64 m, .int .i64 f, .bool n, x, .int .i64 e] ∧ RW W x ws ∧
      (q ≤ 18446744073709551615 ∧ (-9223372036854775808 ≤ m ∧ m ≤ 9223372036854775807) ∧ (-9223372036854775808 ≤ f ∧ f ≤ 9223372036854775807) ∧ (-9223372036854775808 ≤ e ∧ e ≤ 9223372036854775807)) := by
  obtain ⟨cs, rfl, hsz⟩ := okWide_struct Tryz.underlying26 hval
  have hc : Tryz.prog.cellsOf 26 = 6 := by kernel_rfl
  rw [hc] at hsz
  obtain ⟨fuel, hf⟩ := h
  obtain ⟨y0, y1, y2, y3, y4, y5, n, hl, h0, h1, h2, h3, h4, h5⟩ := trod_struct6 Tryz.underlying26 hf
  match cs, hsz with
  | ⟨[c0, c1, c2, c3, c4, c5]⟩, _ =>
    have hcu : Tryz.prog.cellsOf 23 = 1 := by kernel_rfl
    have hci : Tryz.prog.cellsOf 3 = 1 := by kernel_rfl
    have hcb : Tryz.prog.cellsOf 4 = 1 := by kernel_rfl
    have hcs : Tryz.prog.cellsOf 24 = 1 := by kernel_rfl
    obtain ⟨q, rfl, hq⟩ := open_u64 (c := c0) (by simpa [hcu, Value.cells] using h0)
    obtain ⟨m, rfl, hm⟩ := open_i64 (c := c1) (by simpa [hci, Value.cells] using h1)
    obtain ⟨f, rfl, hf'⟩ := open_i64 (c := c2) (by simpa [hci, Value.cells] using h2)
    obtain ⟨b, hb, _⟩ := DataW.trod_bool Tryz.underlying4 h3
    have e3 : c3 = .bool b := by simpa [hcb, Value.cells] using hb
    subst e3
    obtain ⟨ws, hw⟩ := open_words (v := c4) (by simpa [hcs, Value.cells] using h4)
    obtain ⟨e, rfl, he⟩ := open_i64 (c := c5) (by simpa [hci, Value.cells] using h5)
    exact ⟨q, m, f, b, c4, e, ws, rfl, hw, hq, hm, hf', he⟩
end
end Go.Proofs.YtgbmlaffilccnaaGreatDoor
