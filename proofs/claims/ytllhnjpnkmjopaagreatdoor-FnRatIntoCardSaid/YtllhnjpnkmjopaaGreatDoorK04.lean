/-
Texts of this proof, joined: WdD WdE FlA DvA InA InB InC. No condition.
-/
import Derived.Test.YtllhnjpnkmjopaaGreatDoorK03
import Derived.Laws.CopyOwn
import Derived.Outline

namespace Go.Proofs.YtllhnjpnkmjopaaGreatDoor
open Go.RowKit

theorem ret_boolE {a b : Bool} (h : a = b) : Ending.returned (.bool a) = Ending.returned (.bool b) := by rw [h]
set_option maxRecDepth 100000 in
set_option maxHeartbeats 800000 in
theorem spHasWords (v a : Value) (ws : List Nat) (x : Nat) (w : World) (hv : RW w v ws) (ha : NatV w a x) (_hl : ws.length ≤ 1000000000) (hx : nl x ≤ 1000000000) :
    Calls Tryz.prog 42 #[v, a] w fun e w' => e = .returned (.bool (decide (ws = wds x))) ∧ Below w.heap.size w w' := by
  have hSv := hv.isS
  have hLv := hv.len
  have hSa := ha.isS
  obtain ⟨lv, hlv⟩ : ∃ lv, lv = ws.length := ⟨_, rfl⟩
  rw [← hlv] at hLv _hl
  have Hlv := Lib.hid hlv
  have Hv := Lib.hid hv
  have Ha := Lib.hid ha
  clear hv ha hlv
  go_enter Tryz.func42, Tryz.ntmps42
  go_wp2_with fail
  refine (spWords a x w Ha.out hx).mono ?_
  rintro _ w1 ⟨r, rfl, hr, hb1⟩
  have hSr := hr.isS
  have hLr := hr.len
  rw [wds_length] at hLr
  have hnb : nw x ≤ nl x := by unfold nw; omega
  obtain ⟨lr, hlr⟩ : ∃ lr, lr = nw x := ⟨_, rfl⟩
  rw [← hlr] at hLr hnb
  have Hlr := Lib.hid hlr
  have Hr := Lib.hid hr
  clear hr hlr
  by_cases hne : lv = lr
  · have t1 : ((lv : Int) == lr) = true := by rw [beq_iff_eq]; omega
    have t1' : ((lv : Int) != lr) = false := by simp; omega
    have hlv2 : lv ≤ lr := by omega
    have Hne := Lib.hid hne
    clear hne
    go_wp2
    go_loopw [16] (fun i wr => ∃ k : Nat, k ≤ lr ∧ i = .int .i64 k ∧ (∀ j, j < k → ws.getD j 0 = wdg x j) ∧ Below w.heap.size w wr ∧ Below w1.heap.size w1 wr) (fun i _ => lr - (intOf i).toNat)
    case atStart => exact ⟨0, Nat.zero_le _, rfl, fun j hj => by omega, hb1, Below.refl _ _⟩
    case round =>
      obtain ⟨k, hk, rfl, he, hbl, hbl1⟩ := hrel
      have He := Lib.hid he
      clear he
      by_cases hkr : k < lr
      · have hkv : k < lv := by have := Hne.out; omega
        have cv := (Hv.out.below hbl).cell k (by rw [← Hlv.out]; exact hkv)
        have cr := (Hr.out.below hbl1).cell k (by rw [wds_length, ← Hlr.out]; exact hkr)
        rw [wds_getD] at cr
        obtain ⟨p, hp⟩ : ∃ p, p = ws.getD k 0 := ⟨_, rfl⟩
        obtain ⟨q, hq⟩ : ∃ q, q = wdg x k := ⟨_, rfl⟩
        rw [← hp] at cv
        rw [← hq] at cr
        have Hp := Lib.hid hp
        have Hq := Lib.hid hq
        clear hp hq
        by_cases hpq : p = q
        · have t2 : ((p : Int) == q) = true := by rw [beq_iff_eq]; omega
          have Hpq := Lib.hid hpq
          clear hpq
          go_wp2
          go_quiet (fail)
          go_wp2
          refine ⟨⟨k + 1, by omega, by go_num, ?_, undrewN' hbl, undrewN' hbl1⟩, by simp [intOf]; omega⟩
          intro j hj
          rcases (by omega : j < k ∨ j = k) with h | h
          · exact He.out j h
          · rw [h, ← Hp.out, ← Hq.out]; exact Hpq.out
        · have t2 : ((p : Int) == q) = false := by rw [beq_eq_false_iff_ne]; omega
          go_wp2
          go_quiet (fail)
          go_wp2
          go_ret
          refine ⟨ret_boolE ?_, undrewN' hbl⟩
          symm
          rw [decide_eq_false_iff_not]
          intro h
          apply hpq
          rw [Hp.out, Hq.out, h, wds_getD]
      · have hkl : k = lr := by omega
        have Hkl := Lib.hid hkl
        clear hkl
        go_wp2
        go_ret
        refine ⟨ret_boolE ?_, hbl⟩
        symm
        rw [decide_eq_true_iff]
        refine list_ext_getD (by rw [wds_length, ← Hlv.out, ← Hlr.out]; exact Hne.out) fun i => ?_
        rw [wds_getD]
        by_cases hi : i < lr
        · exact He.out i (by rw [Hkl.out]; exact hi)
        · rw [wdg_ge (by rw [← Hlr.out]; omega), List.getD_eq_getElem?_getD, List.getElem?_eq_none (by rw [← Hlv.out]; have := Hne.out; omega)]; rfl
  · have t1 : ((lv : Int) == lr) = false := by rw [beq_eq_false_iff_ne]; omega
    go_wp2
    go_ret
    refine ⟨ret_boolE ?_, hb1⟩
    symm
    rw [decide_eq_false_iff_not]
    intro h
    apply hne
    rw [Hlv.out, Hlr.out, h, wds_length]

set_option maxRecDepth 100000 in
theorem long_any (v : Value) (ws : List Nat) (n : Nat) (w : World) (hv : RW w v ws) :
    Calls Tryz.prog 66 #[v, .int .i64 n] w fun e w' => e = .returned (.bool (decide (n < ws.length))) ∧ w = w' := by
  have hSv := hv.isS
  have hLv := hv.len
  go_enter Tryz.func66, Tryz.ntmps66
  go_wp2
  go_ret
  exact ⟨rfl, rfl⟩
theorem box_cell {w w1 : World} {cs : Array Value} {T : TypeId} (hb : Below (w.alloc (.cells cs T)).heap.size (w.alloc (.cells cs T)) w1) {i : Nat} {v : Value} (h : cs[i]? = some v) : w1.cell? ⟨w.heap.size, i, none⟩ = some v := by
  have h1 : (w.alloc (.cells cs T)).heap[w.heap.size]? = some (.cells cs T) := heap_alloc_new w _
  have h2 := (heap_alloc_lt (o := .cells #[] 0) h1).2
  refine (hb.cell (p := ⟨w.heap.size, i, none⟩) h2).trans ?_
  rw [cell_of_row _ _ i _ _ _ h1]
  exact h
set_option maxRecDepth 100000 in
theorem zzFits2_any (b : Bool) (v : Value) (ws : List Nat) (w : World) (hv : RW w v ws) :
    Calls Tryz.prog 35 #[.agg #[.bool b, v]] w fun e w' => e = .returned (.bool (decide (ws.length ≤ 2147483647))) ∧ Below w.heap.size w w' := by
  have hSv := hv.isS
  have hLv := hv.len
  by_cases h : ws.length ≤ 2147483647
  · have t1 : decide ((2147483647 : Int) < ws.length) = false := by rw [decide_eq_false_iff_not]; omega
    have Hh := Lib.hid h
    clear h
    go_enter Tryz.func35, Tryz.ntmps35
    go_wp2
    go_ret
    exact ⟨ret_boolE (by symm; rw [decide_eq_true_iff]; exact Hh.out), (Below.refl _ _).alloc (Nat.le_refl _) _⟩
  · have t1 : decide ((2147483647 : Int) < ws.length) = true := by rw [decide_eq_true_iff]; omega
    have Hh := Lib.hid h
    clear h
    go_enter Tryz.func35, Tryz.ntmps35
    go_wp2
    go_ret
    exact ⟨ret_boolE (by symm; rw [decide_eq_false_iff_not]; exact Hh.out), (Below.refl _ _).alloc (Nat.le_refl _) _⟩
set_option maxRecDepth 100000 in
theorem zzFits3_any (b : Bool) (v d : Value) (ns ds : List Nat) (w : World) (hv : RW w v ns) (hd : RW w d ds) :
    Calls Tryz.prog 8 #[.agg #[.bool b, v, d]] w fun e w' => e = .returned (.bool (decide (ns.length ≤ 2147483647) && decide (ds.length ≤ 2147483647))) ∧ Below w.heap.size w w' := by
  have hSv := hv.isS
  have hSd := hd.isS
  have hLd := hd.len
  have Hv := Lib.hid hv
  have Hd := Lib.hid hd
  clear hv hd
  go_enter Tryz.func8, Tryz.ntmps8
  go_wp2_with fail
  refine (zzFits2_any b v ns _ (Hv.out.below ((Below.refl _ _).alloc (Nat.le_refl _) _))).mono ?_
  rintro _ w1 ⟨rfl, hb1⟩
  have hc := box_cell (i := 2) (v := d) hb1 rfl
  have hbb := ((Below.refl w.heap.size w).alloc (Nat.le_refl _) (.cells #[.bool b, v, d] 26)).trans (hb1.mono (by have := ((Below.refl w.heap.size w).alloc (Nat.le_refl _) (.cells #[.bool b, v, d] 26)).size; omega))
  by_cases h1 : ns.length ≤ 2147483647
  · have u1 : decide (ns.length ≤ 2147483647) = true := decide_eq_true h1
    rw [u1]
    have U1 := Lib.hid u1
    clear u1 h1
    by_cases h : ds.length ≤ 2147483647
    · have t1 : decide ((2147483647 : Int) < ds.length) = false := by rw [decide_eq_false_iff_not]; omega
      have Hh := Lib.hid h
      clear h
      go_wp2
      go_ret
      exact ⟨ret_boolE (by symm; rw [U1.out, Bool.true_and, decide_eq_true_iff]; exact Hh.out), hbb⟩
    · have t1 : decide ((2147483647 : Int) < ds.length) = true := by rw [decide_eq_true_iff]; omega
      have Hh := Lib.hid h
      clear h
      go_wp2
      go_ret
      exact ⟨ret_boolE (by symm; rw [U1.out, Bool.true_and, decide_eq_false_iff_not]; exact Hh.out), hbb⟩
  · have u1 : decide (ns.length ≤ 2147483647) = false := decide_eq_false h1
    rw [u1]
    have U1 := Lib.hid u1
    clear u1 h1
    go_wp2
    go_ret
    exact ⟨ret_boolE (by rw [U1.out]; rfl), hbb⟩
theorem IsS.form {v : Value} (h : IsS v) : ∃ a n c, v = .slice a n c := by
  cases v <;> first | exact ⟨_, _, _, rfl⟩ | exact h.elim
@[go_sem] theorem match_S {v : Value} (h : IsS v) : Value.cells.match_1 (motive := fun _ => Array Value) v (fun cs => cs) (fun v => #[v]) = #[v] := by
  obtain ⟨a1, n1, c1, rfl⟩ := h.form
  rfl
theorem nl_wv {ws : List Nat} (h : ∀ d ∈ ws, d < 18446744073709551616) : nl (wv ws) ≤ 4 * ws.length := nl_le (by rw [← wpow]; exact wv_lt h)
def isNum (b : Bool) (ws : List Nat) (neg : Bool) (n : Nat) : Bool := (b == (neg && decide (0 < n))) && decide (ws = wds n)
theorem len_pos_iff (n : Nat) : decide (0 < nl n) = decide (0 < n) := by
  rcases Nat.eq_zero_or_pos n with h | h
  · subst h; rfl
  · rw [decide_eq_true h, decide_eq_true (nl_pos h)]
set_option maxRecDepth 100000 in
set_option maxHeartbeats 400000 in
theorem isNumber_any (b neg : Bool) (v a : Value) (ws : List Nat) (n : Nat) (w : World) (hv : RW w v ws) (ha : NatV w a n) (hl : ws.length ≤ 1000000000) (hx : nl n ≤ 1000000000) :
    Calls Tryz.prog 41 #[.agg #[.bool b, v], .bool neg, a] w fun e w' => e = .returned (.bool (isNum b ws neg n)) ∧ Below w.heap.size w w' := by
  have hSv := hv.isS
  have hSa := ha.isS
  have hLa := ha.len
  have Hv := Lib.hid hv
  have Ha := Lib.hid ha
  clear hv ha
  obtain ⟨la, hla⟩ : ∃ la, la = nl n := ⟨_, rfl⟩
  rw [← hla] at hLa hx
  have hlp := len_pos_iff n
  rw [← hla] at hlp
  have Hla := Lib.hid hla
  have Hlp := Lib.hid hlp
  clear hla hlp
  have hab := (Below.refl w.heap.size w).alloc (Nat.le_refl _) (.cells #[.bool b, v] 24)
  have hasz := hab.size
  have hcall : ∀ w', w' = w.alloc (.cells #[.bool b, v] 24) → Calls Tryz.prog 42 #[v, a] w' fun e w'' => e = .returned (.bool (decide (ws = wds n))) ∧ Below w.heap.size w w'' := fun w' hw => by
    subst hw
    refine (spHasWords v a ws n _ (Hv.out.below hab) (Ha.out.below hab) hl (by rw [← Hla.out]; exact hx)).mono ?_
    rintro _ w2 ⟨rfl, hb2⟩
    exact ⟨rfl, hab.trans (hb2.mono hasz)⟩
  have Hc := Lib.hid hcall
  clear hcall
  have fin : isNum b ws neg n = ((b == (neg && decide (0 < la))) && decide (ws = wds n)) := by rw [Hlp.out]; rfl
  have Fin := Lib.hid fin
  clear fin
  obtain ⟨hw, hhw⟩ : ∃ hw, hw = decide (ws = wds n) := ⟨_, rfl⟩
  rw [← hhw] at Fin Hc
  clear hhw
  have hcb : decide (0 < la) = true ∨ decide (0 < la) = false := by cases decide (0 < la) <;> simp
  rw [Fin.out]
  cases b <;> cases neg <;> rcases hcb with t1 | t1 <;> rw [t1]
  all_goals
    go_enter Tryz.func41, Tryz.ntmps41
    go_wp2_with fail
    first
      | (go_ret
         exact ⟨rfl, hab⟩)
      | (refine (Hc.out _ rfl).mono ?_
         rintro _ w1 ⟨rfl, hb1⟩
         go_wp2
         go_ret
         exact ⟨by simp, hb1⟩)

def isFrac (b : Bool) (ns ds : List Nat) (neg : Bool) (n d : Nat) : Bool := isNum b ns neg n && decide (ds = wds d)
set_option maxRecDepth 100000 in
set_option maxHeartbeats 800000 in
theorem isFraction_any (b neg : Bool) (v1 v2 a1 a2 : Value) (ns ds : List Nat) (n d : Nat) (w : World) (h1 : RW w v1 ns) (h2 : RW w v2 ds) (h3 : NatV w a1 n) (h4 : NatV w a2 d) (hl1 : ns.length ≤ 1000000000) (hl2 : ds.length ≤ 1000000000) (hn : nl n ≤ 1000000000) (hd : nl d ≤ 1000000000) :
    Calls Tryz.prog 15 #[.agg #[.bool b, v1, v2], .agg #[.bool neg, a1, a2]] w fun e w' => e = .returned (.bool (isFrac b ns ds neg n d)) ∧ Below w.heap.size w w' := by
  have hS1 := h1.isS
  have hS2 := h2.isS
  have hS3 := h3.isS
  have hS4 := h4.isS
  have H1 := Lib.hid h1
  have H2 := Lib.hid h2
  have H3 := Lib.hid h3
  have H4 := Lib.hid h4
  clear h1 h2 h3 h4
  have hab := ((Below.refl w.heap.size w).alloc (Nat.le_refl _) (.cells #[.bool b, v1, v2] 26))
  have hac := hab.alloc hab.size (.cells #[.bool neg, a1, a2] 31)
  have hsz := hac.size
  obtain ⟨W, hW⟩ : ∃ W, W = (w.alloc (.cells #[.bool b, v1, v2] 26)).alloc (.cells #[.bool neg, a1, a2] 31) := ⟨_, rfl⟩
  rw [← hW] at hac hsz
  have hcW : W.cell? ⟨w.heap.size, 2, none⟩ = some v2 := by
    rw [hW]; exact box_cell (w := w) (cs := #[.bool b, v1, v2]) ((Below.refl _ _).alloc (Nat.le_refl _) _) rfl
  have hcW2 : W.cell? ⟨w.heap.size + 1, 2, none⟩ = some a2 := by
    rw [hW]
    simp
  have hWs : W.heap.size = w.heap.size + 2 := by rw [hW]; simp
  have HW := Lib.hid hW
  clear hW
  have hcall : ∀ w', w' = (w.alloc (.cells #[.bool b, v1, v2] 26)).alloc (.cells #[.bool neg, a1, a2] 31) → Calls Tryz.prog 41 #[.agg #[.bool b, v1], .bool neg, a1] w' fun e w'' => e = .returned (.bool (isNum b ns neg n)) ∧ Below W.heap.size W w'' := fun w' hw => by
    rw [hw, ← HW.out]
    exact isNumber_any b neg v1 a1 ns n W (H1.out.below hac) (H3.out.below hac) hl1 hn
  have Hc := Lib.hid hcall
  clear hcall
  obtain ⟨c, hc⟩ : ∃ c, c = isNum b ns neg n := ⟨_, rfl⟩
  have hfin : isFrac b ns ds neg n d = (c && decide (ds = wds d)) := by rw [hc]; rfl
  rw [← hc] at Hc
  rw [hfin]
  clear hc hfin
  go_enter Tryz.func15, Tryz.ntmps15
  go_wp2_with fail
  refine (Hc.out _ rfl).mono ?_
  rintro _ w1 ⟨rfl, hb1⟩
  have hbb := hac.trans (hb1.mono hsz)
  have c1 := (hb1.cell (p := ⟨w.heap.size, 2, none⟩) (by simp only; omega)).trans hcW
  have c2 := (hb1.cell (p := ⟨w.heap.size + 1, 2, none⟩) (by simp only; omega)).trans hcW2
  have hl2' := hl2
  cases c with
  | false =>
    go_wp2
    go_ret
    exact ⟨rfl, hbb⟩
  | true =>
    go_wp2_with fail
    refine (spHasWords v2 a2 ds d w1 (H2.out.below hbb) (H4.out.below hbb) hl2 hd).mono ?_
    rintro _ w2 ⟨rfl, hb2⟩
    go_wp2
    go_ret
    exact ⟨by simp, bthen hbb hb2⟩
end Go.Proofs.YtllhnjpnkmjopaaGreatDoor
namespace Go.Proofs.YtllhnjpnkmjopaaGreatDoor

theorem wdv_step (n i : Nat) : n / 18446744073709551616 ^ i = 18446744073709551616 * (n / 18446744073709551616 ^ (i + 1)) + wdg n i := by
  unfold wdg
  rw [Nat.pow_succ, ← Nat.div_div_eq_div_mul]
  omega
theorem word_split {s : Nat} (h : s ≤ 64) : 2 ^ (64 - s) * 2 ^ s = 18446744073709551616 := by
  rw [← Nat.pow_add, show 64 - s + s = 64 by omega]
theorem wdg_shl_zero (n : Nat) {s : Nat} (_hs : s ≤ 64) : wdg (n * 2 ^ s) 0 = wdg n 0 * 2 ^ s % 18446744073709551616 := by
  rw [wdg_zero_eq, wdg_zero_eq, Nat.mod_mul_mod]
theorem div_shl (n i : Nat) {s : Nat} (hs : s ≤ 64) : n * 2 ^ s / 18446744073709551616 ^ (i + 1) = wdg n i / 2 ^ (64 - s) + n / 18446744073709551616 ^ (i + 1) * 2 ^ s := by
  have hB := wpow_pos i
  have e := word_split hs
  have h1 : n = n % 18446744073709551616 ^ i + 18446744073709551616 ^ i * (wdg n i + 18446744073709551616 * (n / 18446744073709551616 ^ (i + 1))) := by
    have := wdv_step n i
    rw [Nat.add_comm (wdg n i), ← this]
    exact (Nat.mod_add_div n _).symm
  have hl := Nat.mod_lt n hB
  have hS : 0 < 2 ^ s := Nat.pow_pos (by decide)
  have hR : 0 < 2 ^ (64 - s) := Nat.pow_pos (by decide)
  have h3 : n * 2 ^ s / 18446744073709551616 ^ i = n % 18446744073709551616 ^ i * 2 ^ s / 18446744073709551616 ^ i + (wdg n i + 18446744073709551616 * (n / 18446744073709551616 ^ (i + 1))) * 2 ^ s := by
    conv => lhs; rw [h1]
    rw [Nat.add_mul, Nat.mul_assoc, Nat.add_mul_div_left _ _ hB]
  have h4 : n % 18446744073709551616 ^ i * 2 ^ s / 18446744073709551616 ^ i < 2 ^ s := Nat.div_lt_of_lt_mul (Nat.mul_lt_mul_of_pos_right hl hS)
  rw [Nat.pow_succ, ← Nat.div_div_eq_div_mul, h3]
  rw [Nat.pow_succ] at *
  generalize n % 18446744073709551616 ^ i * 2 ^ s / 18446744073709551616 ^ i = c at *
  generalize wdg n i = d at *
  generalize n / (18446744073709551616 ^ i * 18446744073709551616) = m at *
  generalize 2 ^ s = S at *
  generalize 2 ^ (64 - s) = R at *
  have h5 : c + (d + 18446744073709551616 * m) * S = (c + d * S) + 18446744073709551616 * (m * S) := by rw [Nat.add_mul, Nat.mul_assoc]; omega
  rw [h5, Nat.add_mul_div_left _ _ (by decide)]
  congr 1
  rw [← e, Nat.mul_comm R S, ← Nat.div_div_eq_div_mul, Nat.mul_comm d S, Nat.add_mul_div_left _ _ hS, Nat.div_eq_of_lt h4, Nat.zero_add]
theorem wdg_shl_succ (n i : Nat) {s : Nat} (hs : s < 64) : wdg (n * 2 ^ s) (i + 1) = wdg n i / 2 ^ (64 - s) + wdg n (i + 1) * 2 ^ s % 18446744073709551616 := by
  have e := word_split (show s ≤ 64 by omega)
  have h1 := div_shl n i (show s ≤ 64 by omega)
  have hd := wdg_lt n i
  have hS : 0 < 2 ^ s := Nat.pow_pos (by decide)
  have hR : 0 < 2 ^ (64 - s) := Nat.pow_pos (by decide)
  have h2 : wdg n i / 2 ^ (64 - s) < 2 ^ s := Nat.div_lt_of_lt_mul (by rw [e]; exact hd)
  show n * 2 ^ s / 18446744073709551616 ^ (i + 1) % 18446744073709551616 = _
  rw [h1]
  have h3 : wdg n (i + 1) * 2 ^ s % 18446744073709551616 = n / 18446744073709551616 ^ (i + 1) * 2 ^ s % 18446744073709551616 := by
    unfold wdg; rw [Nat.mod_mul_mod]
  rw [h3]
  have h4 : n / 18446744073709551616 ^ (i + 1) * 2 ^ s % 18446744073709551616 = n / 18446744073709551616 ^ (i + 1) % 2 ^ (64 - s) * 2 ^ s := by
    rw [← e, Nat.mul_mod_mul_right]
  have h5 : n / 18446744073709551616 ^ (i + 1) % 2 ^ (64 - s) < 2 ^ (64 - s) := Nat.mod_lt _ hR
  rw [h4]
  generalize wdg n i / 2 ^ (64 - s) = c at *
  generalize hm : n / 18446744073709551616 ^ (i + 1) = m at *
  have h6 : (m % 2 ^ (64 - s) + 1) * 2 ^ s ≤ 2 ^ (64 - s) * 2 ^ s := Nat.mul_le_mul_right _ h5
  rw [e, Nat.add_mul, Nat.one_mul] at h6
  rw [Nat.add_mod, h4, Nat.mod_eq_of_lt (show c < 18446744073709551616 by omega), Nat.mod_eq_of_lt (by omega)]
theorem shl_or {c m s : Nat} (hs : s < 64) (hc : c < 2 ^ s) : (m * 2 ^ s % 18446744073709551616) ||| c = c + m * 2 ^ s % 18446744073709551616 := by
  have e := word_split (show s ≤ 64 by omega)
  have h4 : m * 2 ^ s % 18446744073709551616 = 2 ^ s * (m % 2 ^ (64 - s)) := by
    rw [← e, Nat.mul_mod_mul_right, Nat.mul_comm]
  rw [h4, ← Nat.two_pow_add_eq_or_of_lt hc, Nat.add_comm]
end Go.Proofs.YtllhnjpnkmjopaaGreatDoor
namespace Go.Proofs.YtllhnjpnkmjopaaGreatDoor
open Go.RowKit

theorem dw_est {d v u1 u0 Q : Nat} (hd : d < 18446744073709551616) (hu1 : u1 < d) (hu0 : u0 < 18446744073709551616)
    (hv1 : v * d ≤ 340282366920938463463374607431768211455) (hv2 : 340282366920938463463374607431768211456 ≤ v * d + d)
    (hQ1 : Q * 18446744073709551616 ≤ v * u1 + u0) (hQ2 : v * u1 + u0 < Q * 18446744073709551616 + 18446744073709551616) :
    Q * d ≤ u1 * 18446744073709551616 + u0 ∧ u1 * 18446744073709551616 + u0 < Q * d + 18446744073709551616 + d := by
  have a1 := Nat.mul_le_mul_right d hQ1
  have a2 := Nat.mul_le_mul_right d (Nat.succ_le_of_lt hQ2)
  have b1 := Nat.mul_le_mul_right u1 hv1
  have b2 := Nat.mul_le_mul_right u1 hv2
  have e1 : Q * 18446744073709551616 * d = Q * d * 18446744073709551616 := by rw [Nat.mul_right_comm]
  have e2 : (v * u1 + u0) * d = v * d * u1 + u0 * d := by rw [Nat.add_mul, Nat.mul_right_comm]
  have e3 : (v * u1 + u0 + 1) * d = v * d * u1 + u0 * d + d := by rw [Nat.add_mul, e2, Nat.one_mul]
  have e4 : (Q * 18446744073709551616 + 18446744073709551616) * d = Q * d * 18446744073709551616 + 18446744073709551616 * d := by rw [Nat.add_mul, e1]
  have e5 : (v * d + d) * u1 = v * d * u1 + d * u1 := Nat.add_mul _ _ _
  rw [e1, e2] at a1
  rw [Nat.succ_eq_add_one, e3, e4] at a2
  rw [e5] at b2
  have c1 : u0 * d ≤ u0 * 18446744073709551616 := Nat.mul_le_mul_left _ (Nat.le_of_lt hd)
  obtain ⟨e, he⟩ : ∃ e, e + d = 18446744073709551616 := ⟨18446744073709551616 - d, by omega⟩
  have c2 : u0 * e ≤ 18446744073709551615 * e := Nat.mul_le_mul_right _ (by omega)
  have c3 : u0 * e + u0 * d = u0 * 18446744073709551616 := by rw [← Nat.mul_add, he]
  have c4 : d * u1 + d ≤ d * d := by
    have := Nat.mul_le_mul_left d (Nat.succ_le_of_lt hu1)
    rw [Nat.mul_succ] at this; exact this
  have c5 : d * d ≤ d * 18446744073709551616 := Nat.mul_le_mul_left _ (Nat.le_of_lt hd)
  generalize v * d * u1 = A at *
  generalize Q * d = C at *
  generalize u0 * d = D at *
  generalize u0 * e = F at *
  generalize d * u1 = G at *
  generalize d * d = H at *
  constructor <;> omega
theorem dw_fix {d v u1 u0 Q : Nat} (hd0 : 9223372036854775808 ≤ d) (hd : d < 18446744073709551616) (hu1 : u1 < d) (hu0 : u0 < 18446744073709551616)
    (hv1 : v * d ≤ 340282366920938463463374607431768211455) (hv2 : 340282366920938463463374607431768211456 ≤ v * d + d)
    (hQ : Q = (v * u1 + u0) / 18446744073709551616) : ∃ R, u1 * 18446744073709551616 + u0 = Q * d + R ∧ R < 18446744073709551616 + d ∧ Q < 18446744073709551616 ∧
      (18446744073709551616 ≤ R → (R - d < d → (u1 * 18446744073709551616 + u0) / d = Q + 1 ∧ (u1 * 18446744073709551616 + u0) % d = R - d) ∧ (d ≤ R - d → (u1 * 18446744073709551616 + u0) / d = Q + 2 ∧ (u1 * 18446744073709551616 + u0) % d = R - d - d)) ∧
      (R < 18446744073709551616 → (R < d → (u1 * 18446744073709551616 + u0) / d = Q ∧ (u1 * 18446744073709551616 + u0) % d = R) ∧ (d ≤ R → (u1 * 18446744073709551616 + u0) / d = Q + 1 ∧ (u1 * 18446744073709551616 + u0) % d = R - d)) ∧
      (u1 * 18446744073709551616 + u0) / d < 18446744073709551616 := by
  obtain ⟨h1, h2⟩ := dw_est (Q := Q) hd hu1 hu0 hv1 hv2 (by omega) (by omega)
  have dm : ∀ q r, r < d → u1 * 18446744073709551616 + u0 = q * d + r → (u1 * 18446744073709551616 + u0) / d = q ∧ (u1 * 18446744073709551616 + u0) % d = r := fun q r hr h => by
    rw [h, Nat.mul_comm q, Nat.mul_add_div (by omega), Nat.mul_add_mod, Nat.div_eq_of_lt hr, Nat.mod_eq_of_lt hr]
    exact ⟨rfl, rfl⟩
  have hqb : (u1 * 18446744073709551616 + u0) / d < 18446744073709551616 := by
    refine Nat.div_lt_of_lt_mul ?_
    have := Nat.mul_le_mul_right 18446744073709551616 (Nat.succ_le_of_lt hu1)
    rw [Nat.succ_mul] at this
    omega
  have hQle : Q ≤ (u1 * 18446744073709551616 + u0) / d := (Nat.le_div_iff_mul_le (by omega)).2 h1
  refine ⟨u1 * 18446744073709551616 + u0 - Q * d, by omega, by omega, by omega, fun h => ⟨fun h' => ?_, fun h' => ?_⟩, fun h => ⟨fun h' => ?_, fun h' => ?_⟩, hqb⟩
  · exact dm _ _ h' (by rw [Nat.add_mul, Nat.one_mul]; omega)
  · exact dm _ _ (by omega) (by rw [Nat.add_mul]; omega)
  · exact dm _ _ h' (by omega)
  · exact dm _ _ (by omega) (by rw [Nat.add_mul, Nat.one_mul]; omega)
theorem kn_low {b y1 y0 q r u un : Nat} (h : q * y1 + r = u) (hc : b * r + un < q * y0) : u * b + un < q * (y1 * b + y0) := by
  have e : q * (y1 * b + y0) = q * y1 * b + q * y0 := by rw [Nat.mul_add, Nat.mul_assoc]
  have e2 : u * b = q * y1 * b + b * r := by rw [← h, Nat.add_mul, Nat.mul_comm b r]
  rw [e, e2]; omega
theorem kn_ok {b y1 y0 q r u un : Nat} (h : q * y1 + r = u) (hc : q * y0 ≤ b * r + un) : q * (y1 * b + y0) ≤ u * b + un := by
  have e : q * (y1 * b + y0) = q * y1 * b + q * y0 := by rw [Nat.mul_add, Nat.mul_assoc]
  have e2 : u * b = q * y1 * b + b * r := by rw [← h, Nat.add_mul, Nat.mul_comm b r]
  rw [e, e2]; omega
set_option maxRecDepth 100000 in
theorem kn_start {y1 y0 u : Nat} (hy1 : 2147483648 ≤ y1) (hy0 : y0 < 4294967296) (hu : u < y1 * 4294967296 + y0) : u / y1 ≤ 4294967297 := by
  have e : y1 * 4294967298 = y1 * 4294967296 + y1 * 2 := by rw [← Nat.mul_add]
  have h2 : u < y1 * 4294967298 := by
    rw [e]
    obtain ⟨z, hz⟩ : ∃ z, z = y1 * 4294967296 := ⟨_, rfl⟩
    rw [← hz] at hu ⊢
    clear hz e
    omega
  exact Nat.le_of_lt_succ (Nat.div_lt_of_lt_mul h2)
theorem rec_ok {u : Nat} (hu : 9223372036854775808 ≤ u) (hu2 : u < 18446744073709551616) :
    18446744073709551615 - u < u ∧ ∃ v, v * u ≤ 340282366920938463463374607431768211455 ∧ 340282366920938463463374607431768211456 ≤ v * u + u ∧ v = 18446744073709551616 + ((18446744073709551615 - u) * 18446744073709551616 + 18446744073709551615) / u := by
  refine ⟨by omega, _, ?_, ?_, rfl⟩
  · rw [Nat.add_mul]
    have := Nat.div_mul_le_self ((18446744073709551615 - u) * 18446744073709551616 + 18446744073709551615) u
    omega
  · rw [Nat.add_mul]
    have := Nat.lt_div_mul_add (a := (18446744073709551615 - u) * 18446744073709551616 + 18446744073709551615) (b := u) (by omega)
    omega
theorem take_norm {ws : List Nat} (h : ∀ d ∈ ws, d < 18446744073709551616) {k : Nat} (hk : k ≤ ws.length) (hv : wv (ws.take k) = wv ws) (hl : k = 0 ∨ ws.getD (k - 1) 0 ≠ 0) : k = nw (wv ws) ∧ ws.take k = wds (wv ws) := by
  have h1 : ws.take k = wds (wv (ws.take k)) := by
    refine wds_norm (fun d hd => h d (List.mem_of_mem_take hd)) ?_
    rcases Nat.eq_zero_or_pos k with h0 | h0
    · exact .inl (by rw [h0]; rfl)
    · right
      have hl' := hl.resolve_left (by omega)
      have : (ws.take k).length = k := by simp; omega
      rw [this]
      simpa [List.getD_eq_getElem?_getD, show k - 1 < k by omega] using hl'
  rw [hv] at h1
  refine ⟨?_, h1⟩
  have := congrArg List.length h1
  rw [wds_length] at this
  simp at this
  omega
set_option maxRecDepth 100000 in
set_option maxHeartbeats 400000 in
theorem norm_any (v : Value) (ws : List Nat) (w : World) (hv : RW w v ws) (hl : ws.length ≤ 1000000000) :
    Calls Tryz.prog 117 #[v] w fun e w' => e = .returned (subS v 0 (nw (wv ws))) ∧ w = w' := by
  have hS := hv.isS
  have hL := hv.len
  have hC := hS.le
  have Hv := Lib.hid hv
  clear hv
  obtain ⟨n, hn⟩ : ∃ n, n = ws.length := ⟨_, rfl⟩
  rw [← hn] at hL hl
  have Hn := Lib.hid hn
  have hC' : n ≤ sCap v := by omega
  clear hn hC
  go_enter Tryz.func117, Tryz.ntmps117
  go_wp2
  go_loop [3] (fun i => ∃ k : Nat, k ≤ n ∧ i = .int .i64 k ∧ wv (ws.take k) = wv ws) (fun i => (intOf i).toNat)
  case atStart => exact ⟨n, Nat.le_refl _, rfl, by rw [List.take_of_length_le (by rw [Hn.out]; exact Nat.le_refl _)]⟩
  case round =>
    obtain ⟨k, hk, rfl, he⟩ := hrel
    have He := Lib.hid he
    clear he
    by_cases hk0 : k = 0
    · subst hk0
      go_wp2
      go_ret
      have := take_norm Hv.out.lt (k := 0) (Nat.zero_le _) He.out (.inl rfl)
      rw [← this.1]
      exact ⟨rfl, rfl⟩
    · have c := Hv.out.cell (k - 1) (by rw [← Hn.out]; omega)
      obtain ⟨d, hd⟩ : ∃ d, d = ws.getD (k - 1) 0 := ⟨_, rfl⟩
      rw [← hd] at c
      have Hd := Lib.hid hd
      have t1 : decide (0 < k) = true := by rw [decide_eq_true_iff]; omega
      clear hd
      by_cases hz : d = 0
      · have t2 : ((d : Int) == 0) = true := by rw [beq_iff_eq]; omega
        have Hz := Lib.hid hz
        clear hz
        go_wp2
        go_round
        case rel =>
          refine ⟨k - 1, by omega, by go_num, ?_⟩
          rw [← He.out]
          have := wv_take_succ (ws := ws) (i := k - 1) (by rw [← Hn.out]; omega)
          rw [show k - 1 + 1 = k by omega, ← Hd.out, Hz.out] at this
          omega
        case measure => simp [intOf]; omega
      · have t2 : ((d : Int) == 0) = false := by rw [beq_eq_false_iff_ne]; omega
        go_wp2
        go_ret
        have := take_norm Hv.out.lt (k := k) (by rw [← Hn.out]; exact hk) He.out (.inr (by rw [← Hd.out]; exact hz))
        rw [← this.1]
        exact ⟨rfl, rfl⟩
theorem add_none (b o j : Nat) : (⟨b, o, none⟩ : Addr).add j = ⟨b, o + j, none⟩ := by
  unfold Addr.add
  split
  · rename_i h; simp_all
  · rfl
theorem wpList_copy_O {P : Program} {w : World} {ops : Array Oper} {rest : List Oper} {o : Oper} {a : Act} {Q : Exit → Act → World → Prop} (hgd : o.guard = none) (d s : Operand) (dT sT : TypeId)
    (ho : o.op = .call { callee := .builtin .copy, args := #[d, s], argTypes := #[dT, sT] }) (elem : TypeId) (hu : P.underlying dT = some (.slice elem)) (hsz : (P.info? elem).map (·.size) = some 1)
    (v vx : Value) (hd : a.eval d = v) (hs : a.eval s = vx) (B : Nat) (xs : List Value) (hown : Own w B elem v xs) (cs : List Value) (hlen : cs.length = xs.length) (hsx : IsS vx) (hlx : sLen vx = cs.length)
    (hsrc : ∀ j u, cs[j]? = some u → w.cell? ⟨sBlk vx, sOff vx + j, none⟩ = some u) (h1 : ∀ v ∈ cs, v.oneCell' = true)
    (h : ∀ w', Own w' B elem v cs → Below B w w' → Only (sBlk v) w w' → wpList P ops Q rest (a.put o.dst (goInt cs.length)) w') : wpList P ops Q (o :: rest) a w := by
  have hL := hown.len
  have hC := hown.isS.le
  have hCx := hsx.le
  by_cases h0 : cs.length = 0
  · obtain rfl : cs = [] := List.eq_nil_of_length_eq_zero h0
    obtain rfl : xs = [] := List.eq_nil_of_length_eq_zero (by simpa using hlen.symm)
    obtain ⟨p, n, c, rfl⟩ := hown.isS.form
    obtain ⟨p', n', c', rfl⟩ := hsx.form
    have hn : n = 0 := by simpa [sLen] using hL
    subst hn
    exact wpList_copy_nothing hgd d s dT sT ho elem hu hsz p p' 0 c n' c' hd hs (by simp) (h w hown (Below.refl _ _) (Only.refl _ _))
  · rcases hown.row with hr | ⟨hb, cur, hg, hcs, ht⟩
    · omega
    · have hv := hown.isS.out (by omega)
      have hvx := hsx.out (by omega)
      refine wpList_copy_own hgd d s dT sT ho elem hu hsz (sBlk v) (sOff v) (sLen v) (sCap v) ⟨sBlk vx, sOff vx, none⟩ (sLen vx) (sCap vx) (hd.trans hv) (hs.trans hvx) cur elem hg cs (by rw [hlx, hL, hlen]; simp) (fun j u hj => by rw [add_none]; exact hsrc j u hj) (by omega) h1 ?_
      refine h _ ⟨hown.isS, by omega, hown.cap, .inr ⟨hb, _, setRow_heap w _ _ _ _ _ hg, ?_, ?_⟩⟩ (below_setRow (Below.refl _ _) hb _) (fun k hk hne => setRow_other w _ k _ hne)
      · simp; omega
      · have e1 : cur.toList.take (sOff v) ++ (cs ++ cur.toList.drop (sOff v + cs.length)) = laid cur.toList (sOff v) cs := by simp [laid]
        rw [e1]
        have hlt : (cur.toList.take (sOff v)).length = sOff v := by simp; omega
        rw [laid, List.append_assoc, List.drop_left' hlt, List.take_left' rfl]
theorem Own.grow {w : World} {B : Nat} {e : TypeId} {v : Value} {xs : List Value} (h : Own w B e v xs) {n : Nat} (hn : n ≤ sCap v) : ∃ ys, ys.length = n ∧ Own w B e (subS v 0 n) ys := by
  have hc2 := h.cap
  rcases h.row with h0 | ⟨hb, cur, hg, hsz, ht⟩
  · refine ⟨[], by simp; omega, subS_isS h.isS (Nat.zero_le _) hn, by rw [subS_len h.isS]; simp; omega, by rw [subS_cap h.isS]; omega, .inl (by rw [subS_cap h.isS]; omega)⟩
  · have hl : ((cur.toList.drop (sOff v)).take n).length = n := by simp; omega
    refine ⟨(cur.toList.drop (sOff v)).take n, hl, subS_isS h.isS (Nat.zero_le _) hn, by rw [subS_len h.isS, hl]; omega, by rw [subS_cap h.isS]; omega, .inr ⟨?_, cur, ?_, ?_, ?_⟩⟩
    · rw [subS_blk h.isS]; exact hb
    · rw [subS_blk h.isS]; exact hg
    · rw [subS_off0 h.isS, subS_cap h.isS]; omega
    · rw [subS_off0 h.isS, hl]
set_option maxRecDepth 100000 in
theorem make_nil (n : Nat) (w : World) (hn : n ≤ 1000000000) :
    Calls Tryz.prog 152 #[.slice none 0 0, .int .i64 n] w fun e w' => ∃ v, e = .returned v ∧ Own w' w.heap.size 116 v (List.replicate n (.int .u64 0)) ∧ Below w.heap.size w w' ∧ (0 < n → 0 < sCap v) := by
  have hS := IsS.nil
  by_cases h0 : n = 0
  · subst h0
    go_enter Tryz.func152, Tryz.ntmps152
    go_wp2
    go_ret
    exact ⟨_, rfl, Own.nil _ _ _, Below.refl _ _, by simp⟩
  · have t1 : decide (n ≤ 0) = false := by rw [decide_eq_false_iff_not]; omega
    have t1' : decide ((n : Int) ≤ 0) = false := by rw [decide_eq_false_iff_not]; omega
    by_cases h1 : n = 1
    · subst h1
      go_enter Tryz.func152, Tryz.ntmps152
      go_wp2_with (at_make; refine wpList_make_O rfl _ _ _ rfl elemT .i64 .i64 _ _ rfl rfl w.heap.size ?c1 ?c2 ?c3 ?c4 ?c5 ?_)
      case c1 => omega
      case c2 => omega
      case c3 => omega
      case c4 => omega
      case c5 => exact Nat.le_refl _
      rintro v w1 rfl ho hb hz
      go_wp2
      go_ret
      exact ⟨.slice (some ⟨w.heap.size, 0, none⟩) 1 1, rfl, ho, hb, fun _ => by rw [sCap_mk]; decide⟩
    · have t2 : ((n : Int) == 1) = false := by rw [beq_eq_false_iff_ne]; omega
      have Hh := Lib.hid h0
      clear h0 h1
      go_enter Tryz.func152, Tryz.ntmps152
      go_wp2_with (at_make; refine wpList_make_O rfl _ _ _ rfl elemT .i64 .i64 _ _ rfl rfl w.heap.size ?c1 ?c2 ?c3 ?c4 ?c5 ?_)
      case c1 => omega
      case c2 => omega
      case c3 => omega
      case c4 => omega
      case c5 => exact Nat.le_refl _
      rintro v w1 rfl ho hb hz
      go_wp2
      go_ret
      exact ⟨.slice (some ⟨w.heap.size, 0, none⟩) n ((n : Int) + 4).toNat, rfl, by simpa using ho, hb, fun _ => by rw [sCap_mk]; omega⟩
theorem cellsW_one (ws : List Nat) : ∀ v ∈ cellsW ws, v.oneCell' = true := by
  intro v hv
  obtain ⟨d, _, rfl⟩ := List.mem_map.1 hv
  rfl
theorem RW.at {w : World} {v : Value} {ds : List Nat} (h : RW w v ds) : ∀ j u, (cellsW ds)[j]? = some u → w.cell? ⟨sBlk v, sOff v + j, none⟩ = some u := by
  intro j u hj
  have hlt : j < ds.length := by have := (List.getElem?_eq_some_iff.1 hj).1; rwa [cellsW_length] at this
  rw [h.cell j hlt]
  simp only [cellsW, List.getElem?_map, Option.map_eq_some_iff] at hj
  obtain ⟨x, hx, rfl⟩ := hj
  rw [List.getD_eq_getElem?_getD, hx]; rfl
theorem sizeW : (Tryz.prog.info? 116).map (·.size) = some 1 := by kernel_rfl
set_option maxRecDepth 100000 in
theorem set_nil (v : Value) (ws : List Nat) (w : World) (hv : RW w v ws) (hl : ws.length ≤ 1000000000) :
    Calls Tryz.prog 135 #[.slice none 0 0, v] w fun e w' => ∃ r, e = .returned r ∧ Own w' w.heap.size 116 r (cellsW ws) ∧ Below w.heap.size w w' := by
  have hS := hv.isS
  have hL := hv.len
  have Hv := Lib.hid hv
  clear hv
  go_enter Tryz.func135, Tryz.ntmps135
  go_wp2_with fail
  refine (make_nil ws.length w hl).mono ?_
  rintro _ w1 ⟨r, rfl, ho, hb, -⟩
  have hSr := ho.isS
  have hLr : sLen r = ws.length := by rw [ho.len]; simp
  have HO := Lib.hid ho
  clear ho
  go_wp2_with (refine wpList_copy_O (o := ⟨some 11, _, _, _, _, _⟩) rfl (.tmp 9) (.tmp 10) 108 108 rfl 116 Tryz.underlying108 sizeW _ _ rfl rfl w.heap.size (List.replicate ws.length (.int .u64 0)) HO.out (cellsW ws) ?d1 hS ?d2 ?d3 (cellsW_one ws) ?_)
  case d1 => rw [cellsW_length]; simp
  case d2 => rw [cellsW_length]; exact hL
  case d3 => exact (Hv.out.below hb).at
  intro w2 ho2 hb2 _
  go_wp2
  go_ret
  exact ⟨_, rfl, ho2, hb.trans hb2⟩
set_option maxRecDepth 100000 in
theorem setWord_nil (d : Nat) (w : World) (h0 : 0 < d) (hd : d < 18446744073709551616) :
    Calls Tryz.prog 115 #[.slice none 0 0, .int .u64 d] w fun e w' => ∃ r, e = .returned r ∧ Own w' w.heap.size 116 r (cellsW [d]) ∧ Below w.heap.size w w' := by
  have t1 : ((d : Int) == 0) = false := by rw [beq_eq_false_iff_ne]; omega
  have HD := Lib.hid hd
  clear hd
  go_enter Tryz.func115, Tryz.ntmps115
  go_wp2_with fail
  refine (make_nil 1 w (by decide)).mono ?_
  rintro _ w1 ⟨r, rfl, ho, hb, hc⟩
  have hSr := ho.isS
  have hLr : sLen r = 1 := by rw [ho.len]; simp
  have hcap := hc (by decide)
  have fz := ho.frozen hcap (sOff r)
  have ce := ho.cell (i := 0) (u := .int .u64 0) rfl
  have hset := ho.set (i := 0) (by decide) (.int .u64 (d : Int))
  have hlt := (ho.lt hcap).1
  rw [Nat.add_zero] at hset ce
  have HS := Lib.hid hset
  have HC := Lib.hid hc
  clear hset ho hc
  go_wp2
  go_ret
  exact ⟨_, rfl, HS.out, bset hb hlt⟩
end Go.Proofs.YtllhnjpnkmjopaaGreatDoor
