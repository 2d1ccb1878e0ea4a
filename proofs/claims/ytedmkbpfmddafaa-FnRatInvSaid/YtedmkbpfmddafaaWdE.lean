/-
Fractions of the statements: IsNumber, IsFraction. No condition.
-/
import Derived.Test.YtedmkbpfmddafaaWdD
namespace Go.Proofs.Ytedmkbpfmddafaa
open Go.RowKit

theorem IsS.form {v : Value} (h : IsS v) : ∃ a n c, v = .slice a n c := by
  cases v <;> first | exact ⟨_, _, _, rfl⟩ | exact h.elim
@[go_sem] theorem match_S {v : Value} (h : IsS v) : Value.cells.match_1 (motive := fun _ => Array Value) v (fun cs => cs) (fun v => #[v]) = #[v] := by
  obtain ⟨a1, n1, c1, rfl⟩ := h.form
  rfl
theorem nl_wv {ws : List Nat} (h : ∀ d ∈ ws, d < 18446744073709551616) : nl (wv ws) ≤ 4 * ws.length := nl_le (by rw [← wpow]; exact wv_lt h)
def isNum (b : Bool) (ws : List Nat) (neg : Bool) (n : Nat) : Bool := (b == (neg && decide (0 < n))) && decide (ws = wds n)
theorem len_pos_iff (n : Nat) : decide (0 < nl n) = decide (0 < n) := by
  rcases Nat.eq_zero_or_pos n with h | h
  · subst h; rfl
  · rw [decide_eq_true h, decide_eq_true (nl_pos h)]
set_option maxRecDepth 100000 in
set_option maxHeartbeats 400000 in
theorem isNumber_any (b neg : Bool) (v a : Value) (ws : List Nat) (n : Nat) (w : World) (hv : RW w v ws) (ha : NatV w a n) (hl : ws.length ≤ 1000000000) (hx : nl n ≤ 1000000000) :
    Calls Try.prog 59 #[.agg #[.bool b, v], .bool neg, a] w fun e w' => e = .returned (.bool (isNum b ws neg n)) ∧ Below w.heap.size w w' := by
  have hSv := hv.isS
  have hSa := ha.isS
  have hLa := ha.len
  have Hv := Lib.hid hv
  have Ha := Lib.hid ha
  clear hv ha
  obtain ⟨la, hla⟩ : ∃ la, la = nl n := ⟨_, rfl⟩
  rw [← hla] at hLa hx
  have hlp := len_pos_iff n
  rw [← hla] at hlp
  have Hla := Lib.hid hla
  have Hlp := Lib.hid hlp
  clear hla hlp
  have hab := (Below.refl w.heap.size w).alloc (Nat.le_refl _) (.cells #[.bool b, v] 53)
  have hasz := hab.size
  have hcall : ∀ w', w' = w.alloc (.cells #[.bool b, v] 53) → Calls Try.prog 27 #[v, a] w' fun e w'' => e = .returned (.bool (decide (ws = wds n))) ∧ Below w.heap.size w w'' := fun w' hw => by
    subst hw
    refine (spHasWords v a ws n _ (Hv.out.below hab) (Ha.out.below hab) hl (by rw [← Hla.out]; exact hx)).mono ?_
    rintro _ w2 ⟨rfl, hb2⟩
    exact ⟨rfl, hab.trans (hb2.mono hasz)⟩
  have Hc := Lib.hid hcall
  clear hcall
  have fin : isNum b ws neg n = ((b == (neg && decide (0 < la))) && decide (ws = wds n)) := by rw [Hlp.out]; rfl
  have Fin := Lib.hid fin
  clear fin
  obtain ⟨hw, hhw⟩ : ∃ hw, hw = decide (ws = wds n) := ⟨_, rfl⟩
  rw [← hhw] at Fin Hc
  clear hhw
  have hcb : decide (0 < la) = true ∨ decide (0 < la) = false := by cases decide (0 < la) <;> simp
  rw [Fin.out]
  cases b <;> cases neg <;> rcases hcb with t1 | t1 <;> rw [t1]
  all_goals
    go_enter Try.func59, Try.ntmps59
    go_wp2_with fail
    first
      | (go_ret
         exact ⟨rfl, hab⟩)
      | (refine (Hc.out _ rfl).mono ?_
         rintro _ w1 ⟨rfl, hb1⟩
         go_wp2
         go_ret
         exact ⟨by simp, hb1⟩)

def isFrac (b : Bool) (ns ds : List Nat) (neg : Bool) (n d : Nat) : Bool := isNum b ns neg n && decide (ds = wds d)
set_option maxRecDepth 100000 in
set_option maxHeartbeats 800000 in
theorem isFraction_any (b neg : Bool) (v1 v2 a1 a2 : Value) (ns ds : List Nat) (n d : Nat) (w : World) (h1 : RW w v1 ns) (h2 : RW w v2 ds) (h3 : NatV w a1 n) (h4 : NatV w a2 d) (hl1 : ns.length ≤ 1000000000) (hl2 : ds.length ≤ 1000000000) (hn : nl n ≤ 1000000000) (hd : nl d ≤ 1000000000) :
    Calls Try.prog 34 #[.agg #[.bool b, v1, v2], .agg #[.bool neg, a1, a2]] w fun e w' => e = .returned (.bool (isFrac b ns ds neg n d)) ∧ Below w.heap.size w w' := by
  have hS1 := h1.isS
  have hS2 := h2.isS
  have hS3 := h3.isS
  have hS4 := h4.isS
  have H1 := Lib.hid h1
  have H2 := Lib.hid h2
  have H3 := Lib.hid h3
  have H4 := Lib.hid h4
  clear h1 h2 h3 h4
  have hab := ((Below.refl w.heap.size w).alloc (Nat.le_refl _) (.cells #[.bool b, v1, v2] 55))
  have hac := hab.alloc hab.size (.cells #[.bool neg, a1, a2] 58)
  have hsz := hac.size
  obtain ⟨W, hW⟩ : ∃ W, W = (w.alloc (.cells #[.bool b, v1, v2] 55)).alloc (.cells #[.bool neg, a1, a2] 58) := ⟨_, rfl⟩
  rw [← hW] at hac hsz
  have hcW : W.cell? ⟨w.heap.size, 2, none⟩ = some v2 := by
    rw [hW]; exact box_cell (w := w) (cs := #[.bool b, v1, v2]) ((Below.refl _ _).alloc (Nat.le_refl _) _) rfl
  have hcW2 : W.cell? ⟨w.heap.size + 1, 2, none⟩ = some a2 := by
    rw [hW]
    simp
  have hWs : W.heap.size = w.heap.size + 2 := by rw [hW]; simp
  have HW := Lib.hid hW
  clear hW
  have hcall : ∀ w', w' = (w.alloc (.cells #[.bool b, v1, v2] 55)).alloc (.cells #[.bool neg, a1, a2] 58) → Calls Try.prog 59 #[.agg #[.bool b, v1], .bool neg, a1] w' fun e w'' => e = .returned (.bool (isNum b ns neg n)) ∧ Below W.heap.size W w'' := fun w' hw => by
    rw [hw, ← HW.out]
    exact isNumber_any b neg v1 a1 ns n W (H1.out.below hac) (H3.out.below hac) hl1 hn
  have Hc := Lib.hid hcall
  clear hcall
  obtain ⟨c, hc⟩ : ∃ c, c = isNum b ns neg n := ⟨_, rfl⟩
  have hfin : isFrac b ns ds neg n d = (c && decide (ds = wds d)) := by rw [hc]; rfl
  rw [← hc] at Hc
  rw [hfin]
  clear hc hfin
  go_enter Try.func34, Try.ntmps34
  go_wp2_with fail
  refine (Hc.out _ rfl).mono ?_
  rintro _ w1 ⟨rfl, hb1⟩
  have hbb := hac.trans (hb1.mono hsz)
  have c1 := (hb1.cell (p := ⟨w.heap.size, 2, none⟩) (by simp only; omega)).trans hcW
  have c2 := (hb1.cell (p := ⟨w.heap.size + 1, 2, none⟩) (by simp only; omega)).trans hcW2
  have hl2' := hl2
  cases c with
  | false =>
    go_wp2
    go_ret
    exact ⟨rfl, hbb⟩
  | true =>
    go_wp2_with fail
    refine (spHasWords v2 a2 ds d w1 (H2.out.below hbb) (H4.out.below hbb) hl2 hd).mono ?_
    rintro _ w2 ⟨rfl, hb2⟩
    go_wp2
    go_ret
    exact ⟨by simp, bthen hbb hb2⟩
end Go.Proofs.Ytedmkbpfmddafaa
