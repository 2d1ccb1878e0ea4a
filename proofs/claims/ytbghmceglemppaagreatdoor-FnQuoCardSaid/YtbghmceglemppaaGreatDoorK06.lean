/-
Texts of this proof, joined: FlB. No condition.
-/
import Derived.Test.YtbghmceglemppaaGreatDoorK05
/-
Floats: a Float at a block; setBits64, SetInt64 of a receiver without a precision. No condition.
-/
namespace Go.Proofs.YtbghmceglemppaaGreatDoor
open Go.RowKit

/-- The cells of a Float. -/
def fcells (p m : Nat) (a : Int) (f : Nat) (neg : Bool) (v : Value) (e : Int) : Array Value := #[.int .u32 p, .int .u8 m, .int .i8 a, .int .u8 f, .bool neg, v, .int .i32 e]
/-- A Float at a block. -/
def FltR (w : World) (b p m : Nat) (a : Int) (f : Nat) (neg : Bool) (v : Value) (e : Int) : Prop := w.heap[b]? = some (.cells (fcells p m a f neg v e) 157 (0, 0))
theorem FltR.cells {w : World} {b p m f : Nat} {a e : Int} {neg : Bool} {v : Value} (h : FltR w b p m a f neg v e) :
    w.cell? ⟨b, 0, none⟩ = some (.int .u32 p) ∧ w.cell? ⟨b, 1, none⟩ = some (.int .u8 m) ∧ w.cell? ⟨b, 2, none⟩ = some (.int .i8 a) ∧ w.cell? ⟨b, 3, none⟩ = some (.int .u8 f) ∧ w.cell? ⟨b, 4, none⟩ = some (.bool neg) ∧ w.cell? ⟨b, 5, none⟩ = some v ∧ w.cell? ⟨b, 6, none⟩ = some (.int .i32 e) :=
  ⟨(row_at (i := 0) h rfl).1, (row_at (i := 1) h rfl).1, (row_at (i := 2) h rfl).1, (row_at (i := 3) h rfl).1, (row_at (i := 4) h rfl).1, (row_at (i := 5) h rfl).1, (row_at (i := 6) h rfl).1⟩
theorem FltR.free {w : World} {b p m f : Nat} {a e : Int} {neg : Bool} {v : Value} (h : FltR w b p m a f neg v e) :
    w.frozen? ⟨b, 0, none⟩ = false ∧ w.frozen? ⟨b, 1, none⟩ = false ∧ w.frozen? ⟨b, 2, none⟩ = false ∧ w.frozen? ⟨b, 3, none⟩ = false ∧ w.frozen? ⟨b, 4, none⟩ = false ∧ w.frozen? ⟨b, 5, none⟩ = false ∧ w.frozen? ⟨b, 6, none⟩ = false :=
  ⟨frozen_of_row w b 0 _ _ h, frozen_of_row w b 1 _ _ h, frozen_of_row w b 2 _ _ h, frozen_of_row w b 3 _ _ h, frozen_of_row w b 4 _ _ h, frozen_of_row w b 5 _ _ h, frozen_of_row w b 6 _ _ h⟩
theorem FltR.lt {w : World} {b p m f : Nat} {a e : Int} {neg : Bool} {v : Value} (h : FltR w b p m a f neg v e) : b < w.heap.size := (heap_alloc_lt (o := .cells #[] 0) h).2
theorem FltR.below {w w' : World} {b p m f : Nat} {a e : Int} {neg : Bool} {v : Value} (h : FltR w b p m a f neg v e) (hb : Below w.heap.size w w') : FltR w' b p m a f neg v e := keep_row hb h
theorem FltR.drewN {w : World} {b p m f : Nat} {a e : Int} {neg : Bool} {v : Value} (h : FltR w b p m a f neg v e) (n : Nat) : FltR (w.drewN n) b p m a f neg v e := h
theorem FltR.s0 {w : World} {b p m f : Nat} {a e : Int} {neg : Bool} {v : Value} (h : FltR w b p m a f neg v e) (x : Nat) : FltR (w.setCell ⟨b, 0, none⟩ (.int .u32 x)) b x m a f neg v e := rowset (i := 0) (.int .u32 x) h
theorem FltR.s1 {w : World} {b p m f : Nat} {a e : Int} {neg : Bool} {v : Value} (h : FltR w b p m a f neg v e) (x : Nat) : FltR (w.setCell ⟨b, 1, none⟩ (.int .u8 x)) b p x a f neg v e := rowset (i := 1) (.int .u8 x) h
theorem FltR.s2 {w : World} {b p m f : Nat} {a e : Int} {neg : Bool} {v : Value} (h : FltR w b p m a f neg v e) (x : Int) : FltR (w.setCell ⟨b, 2, none⟩ (.int .i8 x)) b p m x f neg v e := rowset (i := 2) (.int .i8 x) h
theorem FltR.s3 {w : World} {b p m f : Nat} {a e : Int} {neg : Bool} {v : Value} (h : FltR w b p m a f neg v e) (x : Nat) : FltR (w.setCell ⟨b, 3, none⟩ (.int .u8 x)) b p m a x neg v e := rowset (i := 3) (.int .u8 x) h
theorem FltR.s4 {w : World} {b p m f : Nat} {a e : Int} {neg : Bool} {v : Value} (h : FltR w b p m a f neg v e) (x : Bool) : FltR (w.setCell ⟨b, 4, none⟩ (.bool x)) b p m a f x v e := rowset (i := 4) (.bool x) h
theorem FltR.s5 {w : World} {b p m f : Nat} {a e : Int} {neg : Bool} {v : Value} (h : FltR w b p m a f neg v e) (x : Value) : FltR (w.setCell ⟨b, 5, none⟩ x) b p m a f neg x e := rowset (i := 5) x h
theorem FltR.s6 {w : World} {b p m f : Nat} {a e : Int} {neg : Bool} {v : Value} (h : FltR w b p m a f neg v e) (x : Int) : FltR (w.setCell ⟨b, 6, none⟩ (.int .i32 x)) b p m a f neg v x := rowset (i := 6) (.int .i32 x) h
/-- What is owned elsewhere is as it was where a Float's cell is written. -/
theorem FltR.own {w : World} {b p m f B : Nat} {a e : Int} {neg : Bool} {v u : Value} {xs : List Value} (h : FltR w b p m a f neg v e) (ho : Own w B 181 u xs) (i : Nat) (x : Value) : Own (w.setCell ⟨b, i, none⟩ x) B 181 u xs :=
  ho.away h (by decide) i x
end Go.Proofs.YtbghmceglemppaaGreatDoor
