/-
Texts of this proof, joined: FlP. No condition.
-/
import Derived.Test.YtdepidpgbgfjlaaGreatDoorK30
namespace Go.Proofs.YtdepidpgbgfjlaaGreatDoor
open Go.RowKit

def RealOk (P E p m f : Nat) (ws : List Nat) (e : Int) : Prop :=
  0 < p ∧ p ≤ P ∧ m ≤ 5 ∧ (f = 0 ∨ f = 2 ∨ (f = 1 ∧ 0 < wv ws ∧ bl (wv ws) ≤ p ∧ ws.length ≤ 1000000 ∧ -(E : Int) ≤ e ∧ e ≤ E))
theorem float_any (P E p m f : Nat) (neg : Bool) (v : Value) (e : Int) (ws : List Nat) (w : World) (hv : RW w v ws) (ho : RealOk P E p m f ws e) (hP : P ≤ 64000000) (hE : E ≤ 1050000000) :
    Calls Tryz.prog 80 #[.agg #[.int .u64 p, .int .i64 m, .int .i64 f, .bool neg, v, .int .i64 e]] w fun e' w' => ∃ g, e' = .returned (.pointer (some ⟨g, 0, none⟩)) ∧ FloatAt w' w.heap.size g p m f neg (wv ws) e ∧ Below w.heap.size w w' := by
  obtain ⟨h1, h2, h3, rfl | rfl | ⟨rfl, h4, h5, h6, h7, h8⟩⟩ := ho
  · exact float_zero p m neg v e (wv ws) w hv.isS h1 (by omega) (by omega)
  · exact float_inf p m neg v e (wv ws) w hv.isS h1 (by omega) (by omega)
  · exact float_one p m neg v e ws w hv h6 h4 h5 (by omega) (by omega) (by omega) (by omega)
set_option maxRecDepth 100000 in
theorem zzFits1_any (p m f e : Int) (neg : Bool) (v : Value) (ws : List Nat) (w : World) (hv : RW w v ws) :
    Calls Tryz.prog 22 #[.agg #[.int .u64 p, .int .i64 m, .int .i64 f, .bool neg, v, .int .i64 e]] w fun e' w' => e' = .returned (.bool (decide (ws.length ≤ 2147483647))) ∧ Below w.heap.size w w' := by
  have hSv := hv.isS
  have hLv := hv.len
  have hab := (Below.refl w.heap.size w).alloc (Nat.le_refl _) (.cells #[.int .u64 p, .int .i64 m, .int .i64 f, .bool neg, v, .int .i64 e] 39)
  clear hv
  by_cases h : ws.length ≤ 2147483647
  · have hd : decide (ws.length ≤ 2147483647) = true := decide_eq_true h
    rw [hd]
    go_enter Tryz.func22, Tryz.ntmps22
    go_wp2
    go_ret
    exact ⟨rfl, hab⟩
  · have hd : decide (ws.length ≤ 2147483647) = false := decide_eq_false h
    rw [hd]
    go_enter Tryz.func22, Tryz.ntmps22
    go_wp2
    go_ret
    exact ⟨rfl, hab⟩
end Go.Proofs.YtdepidpgbgfjlaaGreatDoor
