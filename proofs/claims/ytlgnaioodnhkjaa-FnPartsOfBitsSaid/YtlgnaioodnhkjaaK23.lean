/-
Texts of this proof, joined: FdD. No condition.
-/
import Derived.Test.YtlgnaioodnhkjaaK07
import Derived.Test.YtlgnaioodnhkjaaK22
/-
Floats: Float64, Float32 of a value. No condition.
-/
namespace Go.Proofs.Ytlgnaioodnhkjaa
open Go.RowKit

set_option maxRecDepth 100000 in
theorem msb32_any (v : Value) (ws : List Nat) (w : World) (hv : RW w v ws) (h0 : 0 < ws.length) (hl : ws.length ≤ 1000000) :
    Calls Try.prog 98 #[v] w fun e' w' => e' = .returned (.int .u32 ((ws.getD (ws.length - 1) 0 / 4294967296 : Nat) : Int)) ∧ w = w' := by
  have hS := hv.isS
  have hL := hv.len
  have hc := hv.cell (ws.length - 1) (by omega)
  have hdl : ws.getD (ws.length - 1) 0 < 18446744073709551616 := getD_ltW hv.lt _
  obtain ⟨d, hd⟩ : ∃ d, d = ws.getD (ws.length - 1) 0 := ⟨_, rfl⟩
  rw [← hd] at hc hdl ⊢
  obtain ⟨k, hk⟩ : ∃ k, ws.length = k + 1 := ⟨ws.length - 1, by omega⟩
  rw [hk] at hL hl
  rw [hk, Nat.add_sub_cancel] at hc
  have e1 : ((k + 1 : Nat) : Int) - 1 = (k : Int) := by omega
  have e2 : (d : Int) / 4294967296 = ((d / 4294967296 : Nat) : Int) := by omega
  obtain ⟨q, hq⟩ : ∃ q, q = d / 4294967296 := ⟨_, rfl⟩
  have hqb : q < 4294967296 := by omega
  rw [← hq] at e2 ⊢
  clear hv hd h0 hk hq
  go_enter Try.func98, Try.ntmps98
  go_wp2
  go_ret
  exact ⟨rfl, rfl⟩
/-- A copy of a float, rounded to p0 bits, and its top words. -/
theorem set_msb64 (b B c Bx p0 p m : Nat) (a : Int) (neg : Bool) (M : Nat) (X : Int) (Q : Nat) (u : Int) (w : World) (h : FltR w b p0 0 0 0 false (.slice none 0 0) 0) (hB : B ≤ b) (hx : FVal w Bx c p m a 1 neg M X) (hbc : b ≠ c)
    (hp0 : 0 < p0) (hp0' : p0 ≤ 64) (hp : 0 < p) (hp' : p ≤ 64000000) (hX : -900000000 ≤ X ∧ X + bl M ≤ 900000000) (hd : deq (rQ p0 0 neg 0 M) (X + rk p0 M) Q u) (hQ : bl Q ≤ 64) :
    Calls Try.prog 83 #[.pointer (some ⟨b, 0, none⟩), .pointer (some ⟨c, 0, none⟩)] w fun e' w' => e' = .returned (.pointer (some ⟨b, 0, none⟩)) ∧ ∃ v', IsS v' ∧ FltR w' b p0 0 (rA p0 0 neg 0 M) 1 neg v' (u + bl Q) ∧
      (Calls Try.prog 85 #[v'] w' fun e'' w'' => e'' = .returned (.int .u64 ((Q * 2 ^ (64 - bl Q) : Nat) : Int)) ∧ w' = w'') ∧ Below B w w' := by
  have hP : pOf p0 p = p0 := by unfold pOf; rw [if_neg (by omega)]
  have hs := setF_val b B c Bx p0 0 0 p m 1 0 0 a false neg M X w h hB hx hbc (by decide) hp hp' (by omega) (by decide) (fun _ => hX)
  rw [hP] at hs
  refine hs.mono ?_
  rintro _ w' ⟨rfl, ⟨v', e', hR, hF⟩, hb⟩
  obtain ⟨hM', ws, ho, hg, hdq⟩ := hF rfl
  obtain ⟨k1, k2⟩ := top_word hg (hdq.trans hd) hQ
  have hv := ho.rw' hg.2.2.1
  have hm := msb64_any v' ws w' hv hg.1 hg.2.1
  rw [wv_top hg.2.2.1 hg.1, k2] at hm
  have hA : stA 1 p0 0 neg M = rA p0 0 neg 0 M := if_pos rfl
  rw [hA, k1] at hR
  exact ⟨rfl, v', hv.isS, hR, hm, hb⟩
theorem set_msb32 (b B c Bx p0 p m : Nat) (a : Int) (neg : Bool) (M : Nat) (X : Int) (Q : Nat) (u : Int) (w : World) (h : FltR w b p0 0 0 0 false (.slice none 0 0) 0) (hB : B ≤ b) (hx : FVal w Bx c p m a 1 neg M X) (hbc : b ≠ c)
    (hp0 : 0 < p0) (hp0' : p0 ≤ 64) (hp : 0 < p) (hp' : p ≤ 64000000) (hX : -900000000 ≤ X ∧ X + bl M ≤ 900000000) (hd : deq (rQ p0 0 neg 0 M) (X + rk p0 M) Q u) (hQ : bl Q ≤ 32) :
    Calls Try.prog 83 #[.pointer (some ⟨b, 0, none⟩), .pointer (some ⟨c, 0, none⟩)] w fun e' w' => e' = .returned (.pointer (some ⟨b, 0, none⟩)) ∧ ∃ v', IsS v' ∧ FltR w' b p0 0 (rA p0 0 neg 0 M) 1 neg v' (u + bl Q) ∧
      (Calls Try.prog 98 #[v'] w' fun e'' w'' => e'' = .returned (.int .u32 ((Q * 2 ^ (32 - bl Q) : Nat) : Int)) ∧ w' = w'') ∧ Below B w w' := by
  have hP : pOf p0 p = p0 := by unfold pOf; rw [if_neg (by omega)]
  have hs := setF_val b B c Bx p0 0 0 p m 1 0 0 a false neg M X w h hB hx hbc (by decide) hp hp' (by omega) (by decide) (fun _ => hX)
  rw [hP] at hs
  refine hs.mono ?_
  rintro _ w' ⟨rfl, ⟨v', e', hR, hF⟩, hb⟩
  obtain ⟨hM', ws, ho, hg, hdq⟩ := hF rfl
  obtain ⟨k1, k2⟩ := top_word hg (hdq.trans hd) (by omega)
  have hv := ho.rw' hg.2.2.1
  have hm := msb32_any v' ws w' hv hg.1 hg.2.1
  have e1 : Q * 2 ^ (64 - bl Q) / 4294967296 = Q * 2 ^ (32 - bl Q) := by
    rw [show 64 - bl Q = (32 - bl Q) + 32 by omega, Nat.pow_add, ← Nat.mul_assoc]
    exact Nat.mul_div_cancel _ (by decide)
  rw [wv_top hg.2.2.1 hg.1, k2, e1] at hm
  have hA : stA 1 p0 0 neg M = rA p0 0 neg 0 M := if_pos rfl
  rw [hA, k1] at hR
  exact ⟨rfl, v', hv.isS, hR, hm, hb⟩
set_option maxRecDepth 100000 in
theorem mInfP (w : World) : Calls Try.prog 84 #[.int .i64 1] w fun e w' => e = .returned (.float .f64 9218868437227405312) ∧ w = w' := by
  go_enter Try.func84, Try.ntmps84
  have hc : ∀ w : World, (callFunc 41 #[.int .u64 9218868437227405312]).run Try.prog w = .ok (.value (.float .f64 9218868437227405312)) w := fun w => f64from 9218868437227405312 w
  go_wp2_with (simp only [hc])
  go_ret
  exact ⟨rfl, rfl⟩
set_option maxRecDepth 100000 in
theorem mInfN (w : World) : Calls Try.prog 84 #[.int .i64 (-1)] w fun e w' => e = .returned (.float .f64 18442240474082181120) ∧ w = w' := by
  go_enter Try.func84, Try.ntmps84
  have hc : ∀ w : World, (callFunc 41 #[.int .u64 18442240474082181120]).run Try.prog w = .ok (.value (.float .f64 18442240474082181120)) w := fun w => f64from 18442240474082181120 w
  go_wp2_with (simp only [hc])
  go_ret
  exact ⟨rfl, rfl⟩
@[go_sem] theorem f32bits (b : Nat) (w : World) : (callFunc 57 #[.float .f32 b]).run Try.prog w = .ok (.value (.int .u32 (b : Int))) w := by
  rw [run_callFunc_extern Try.func57 (by kernel_rfl) (by kernel_rfl) (by kernel_rfl) (e := Extern.MathFloatBits.float32bits) (by kernel_rfl)]
  rfl
@[go_sem] theorem f32from (b : Nat) (w : World) : (callFunc 99 #[.int .u32 (b : Int)]).run Try.prog w = .ok (.value (.float .f32 b)) w := by
  rw [run_callFunc_extern Try.func99 (by kernel_rfl) (by kernel_rfl) (by kernel_rfl) (e := Extern.MathFloatBits.float32frombits) (by kernel_rfl)]
  rfl
end Go.Proofs.Ytlgnaioodnhkjaa
