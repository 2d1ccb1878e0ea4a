/-
Texts of this proof, joined: WdE InB InC. No condition.
-/
import Derived.Test.YtdepidpgbgfjlaaGreatDoorK03
import Derived.Laws.CopyOwn
import Derived.Outline
namespace Go.Proofs.YtdepidpgbgfjlaaGreatDoor
open Go.RowKit

theorem IsS.form {v : Value} (h : IsS v) : ∃ a n c, v = .slice a n c := by
  cases v <;> first | exact ⟨_, _, _, rfl⟩ | exact h.elim
@[go_sem] theorem match_S {v : Value} (h : IsS v) : Value.cells.match_1 (motive := fun _ => Array Value) v (fun cs => cs) (fun v => #[v]) = #[v] := by
  obtain ⟨a1, n1, c1, rfl⟩ := h.form
  rfl
theorem nl_wv {ws : List Nat} (h : ∀ d ∈ ws, d < 18446744073709551616) : nl (wv ws) ≤ 4 * ws.length := nl_le (by rw [← wpow]; exact wv_lt h)
def isNum (b : Bool) (ws : List Nat) (neg : Bool) (n : Nat) : Bool := (b == (neg && decide (0 < n))) && decide (ws = wds n)
theorem len_pos_iff (n : Nat) : decide (0 < nl n) = decide (0 < n) := by
  rcases Nat.eq_zero_or_pos n with h | h
  · subst h; rfl
  · rw [decide_eq_true h, decide_eq_true (nl_pos h)]
set_option maxRecDepth 100000 in
set_option maxHeartbeats 400000 in
theorem isNumber_any (b neg : Bool) (v a : Value) (ws : List Nat) (n : Nat) (w : World) (hv : RW w v ws) (ha : NatV w a n) (hl : ws.length ≤ 1000000000) (hx : nl n ≤ 1000000000) :
    Calls Tryz.prog 82 #[.agg #[.bool b, v], .bool neg, a] w fun e w' => e = .returned (.bool (isNum b ws neg n)) ∧ Below w.heap.size w w' := by
  have hSv := hv.isS
  have hSa := ha.isS
  have hLa := ha.len
  have Hv := Lib.hid hv
  have Ha := Lib.hid ha
  clear hv ha
  obtain ⟨la, hla⟩ : ∃ la, la = nl n := ⟨_, rfl⟩
  rw [← hla] at hLa hx
  have hlp := len_pos_iff n
  rw [← hla] at hlp
  have Hla := Lib.hid hla
  have Hlp := Lib.hid hlp
  clear hla hlp
  have hab := (Below.refl w.heap.size w).alloc (Nat.le_refl _) (.cells #[.bool b, v] 25)
  have hasz := hab.size
  have hcall : ∀ w', w' = w.alloc (.cells #[.bool b, v] 25) → Calls Tryz.prog 83 #[v, a] w' fun e w'' => e = .returned (.bool (decide (ws = wds n))) ∧ Below w.heap.size w w'' := fun w' hw => by
    subst hw
    refine (spHasWords v a ws n _ (Hv.out.below hab) (Ha.out.below hab) hl (by rw [← Hla.out]; exact hx)).mono ?_
    rintro _ w2 ⟨rfl, hb2⟩
    exact ⟨rfl, hab.trans (hb2.mono hasz)⟩
  have Hc := Lib.hid hcall
  clear hcall
  have fin : isNum b ws neg n = ((b == (neg && decide (0 < la))) && decide (ws = wds n)) := by rw [Hlp.out]; rfl
  have Fin := Lib.hid fin
  clear fin
  obtain ⟨hw, hhw⟩ : ∃ hw, hw = decide (ws = wds n) := ⟨_, rfl⟩
  rw [← hhw] at Fin Hc
  clear hhw
  have hcb : decide (0 < la) = true ∨ decide (0 < la) = false := by cases decide (0 < la) <;> simp
  rw [Fin.out]
  cases b <;> cases neg <;> rcases hcb with t1 | t1 <;> rw [t1]
  all_goals
    go_enter Tryz.func82, Tryz.ntmps82
    go_wp2_with fail
    first
      | (go_ret
         exact ⟨rfl, hab⟩)
      | (refine (Hc.out _ rfl).mono ?_
         rintro _ w1 ⟨rfl, hb1⟩
         go_wp2
         go_ret
         exact ⟨by simp, hb1⟩)

def isFrac (b : Bool) (ns ds : List Nat) (neg : Bool) (n d : Nat) : Bool := isNum b ns neg n && decide (ds = wds d)
set_option maxRecDepth 100000 in
set_option maxHeartbeats 800000 in
theorem isFraction_any (b neg : Bool) (v1 v2 a1 a2 : Value) (ns ds : List Nat) (n d : Nat) (w : World) (h1 : RW w v1 ns) (h2 : RW w v2 ds) (h3 : NatV w a1 n) (h4 : NatV w a2 d) (hl1 : ns.length ≤ 1000000000) (hl2 : ds.length ≤ 1000000000) (hn : nl n ≤ 1000000000) (hd : nl d ≤ 1000000000) :
    Calls Tryz.prog 34 #[.agg #[.bool b, v1, v2], .agg #[.bool neg, a1, a2]] w fun e w' => e = .returned (.bool (isFrac b ns ds neg n d)) ∧ Below w.heap.size w w' := by
  have hS1 := h1.isS
  have hS2 := h2.isS
  have hS3 := h3.isS
  have hS4 := h4.isS
  have H1 := Lib.hid h1
  have H2 := Lib.hid h2
  have H3 := Lib.hid h3
  have H4 := Lib.hid h4
  clear h1 h2 h3 h4
  have hab := ((Below.refl w.heap.size w).alloc (Nat.le_refl _) (.cells #[.bool b, v1, v2] 27))
  have hac := hab.alloc hab.size (.cells #[.bool neg, a1, a2] 32)
  have hsz := hac.size
  obtain ⟨W, hW⟩ : ∃ W, W = (w.alloc (.cells #[.bool b, v1, v2] 27)).alloc (.cells #[.bool neg, a1, a2] 32) := ⟨_, rfl⟩
  rw [← hW] at hac hsz
  have hcW : W.cell? ⟨w.heap.size, 2, none⟩ = some v2 := by
    rw [hW]; exact box_cell (w := w) (cs := #[.bool b, v1, v2]) ((Below.refl _ _).alloc (Nat.le_refl _) _) rfl
  have hcW2 : W.cell? ⟨w.heap.size + 1, 2, none⟩ = some a2 := by
    rw [hW]
    simp
  have hWs : W.heap.size = w.heap.size + 2 := by rw [hW]; simp
  have HW := Lib.hid hW
  clear hW
  have hcall : ∀ w', w' = (w.alloc (.cells #[.bool b, v1, v2] 27)).alloc (.cells #[.bool neg, a1, a2] 32) → Calls Tryz.prog 82 #[.agg #[.bool b, v1], .bool neg, a1] w' fun e w'' => e = .returned (.bool (isNum b ns neg n)) ∧ Below W.heap.size W w'' := fun w' hw => by
    rw [hw, ← HW.out]
    exact isNumber_any b neg v1 a1 ns n W (H1.out.below hac) (H3.out.below hac) hl1 hn
  have Hc := Lib.hid hcall
  clear hcall
  obtain ⟨c, hc⟩ : ∃ c, c = isNum b ns neg n := ⟨_, rfl⟩
  have hfin : isFrac b ns ds neg n d = (c && decide (ds = wds d)) := by rw [hc]; rfl
  rw [← hc] at Hc
  rw [hfin]
  clear hc hfin
  go_enter Tryz.func34, Tryz.ntmps34
  go_wp2_with fail
  refine (Hc.out _ rfl).mono ?_
  rintro _ w1 ⟨rfl, hb1⟩
  have hbb := hac.trans (hb1.mono hsz)
  have c1 := (hb1.cell (p := ⟨w.heap.size, 2, none⟩) (by simp only; omega)).trans hcW
  have c2 := (hb1.cell (p := ⟨w.heap.size + 1, 2, none⟩) (by simp only; omega)).trans hcW2
  have hl2' := hl2
  cases c with
  | false =>
    go_wp2
    go_ret
    exact ⟨rfl, hbb⟩
  | true =>
    go_wp2_with fail
    refine (spHasWords v2 a2 ds d w1 (H2.out.below hbb) (H4.out.below hbb) hl2 hd).mono ?_
    rintro _ w2 ⟨rfl, hb2⟩
    go_wp2
    go_ret
    exact ⟨by simp, bthen hbb hb2⟩
theorem add_none (b o j : Nat) : (⟨b, o, none⟩ : Addr).add j = ⟨b, o + j, none⟩ := by
  unfold Addr.add
  split
  · rename_i h; simp_all
  · rfl
theorem wpList_copy_O {P : Program} {w : World} {ops : Array Oper} {rest : List Oper} {o : Oper} {a : Act} {Q : Exit → Act → World → Prop} (hgd : o.guard = none) (d s : Operand) (dT sT : TypeId)
    (ho : o.op = .call { callee := .builtin .copy, args := #[d, s], argTypes := #[dT, sT] }) (elem : TypeId) (hu : P.underlying dT = some (.slice elem)) (hsz : (P.info? elem).map (·.size) = some 1)
    (v vx : Value) (hd : a.eval d = v) (hs : a.eval s = vx) (B : Nat) (xs : List Value) (hown : Own w B elem v xs) (cs : List Value) (hlen : cs.length = xs.length) (hsx : IsS vx) (hlx : sLen vx = cs.length)
    (hsrc : ∀ j u, cs[j]? = some u → w.cell? ⟨sBlk vx, sOff vx + j, none⟩ = some u) (h1 : ∀ v ∈ cs, v.oneCell' = true)
    (h : ∀ w', Own w' B elem v cs → Below B w w' → Only (sBlk v) w w' → wpList P ops Q rest (a.put o.dst (goInt cs.length)) w') : wpList P ops Q (o :: rest) a w := by
  have hL := hown.len
  have hC := hown.isS.le
  have hCx := hsx.le
  by_cases h0 : cs.length = 0
  · obtain rfl : cs = [] := List.eq_nil_of_length_eq_zero h0
    obtain rfl : xs = [] := List.eq_nil_of_length_eq_zero (by simpa using hlen.symm)
    obtain ⟨p, n, c, rfl⟩ := hown.isS.form
    obtain ⟨p', n', c', rfl⟩ := hsx.form
    have hn : n = 0 := by simpa [sLen] using hL
    subst hn
    exact wpList_copy_nothing hgd d s dT sT ho elem hu hsz p p' 0 c n' c' hd hs (by simp) (h w hown (Below.refl _ _) (Only.refl _ _))
  · rcases hown.row with hr | ⟨hb, cur, hg, hcs, ht⟩
    · omega
    · have hv := hown.isS.out (by omega)
      have hvx := hsx.out (by omega)
      refine wpList_copy_own hgd d s dT sT ho elem hu hsz (sBlk v) (sOff v) (sLen v) (sCap v) ⟨sBlk vx, sOff vx, none⟩ (sLen vx) (sCap vx) (hd.trans hv) (hs.trans hvx) cur elem hg cs (by rw [hlx, hL, hlen]; simp) (fun j u hj => by rw [add_none]; exact hsrc j u hj) (by omega) h1 ?_
      refine h _ ⟨hown.isS, by omega, hown.cap, .inr ⟨hb, _, setRow_heap w _ _ _ _ _ hg, ?_, ?_⟩⟩ (below_setRow (Below.refl _ _) hb _) (fun k hk hne => setRow_other w _ k _ hne)
      · simp; omega
      · have e1 : cur.toList.take (sOff v) ++ (cs ++ cur.toList.drop (sOff v + cs.length)) = laid cur.toList (sOff v) cs := by simp [laid]
        rw [e1]
        have hlt : (cur.toList.take (sOff v)).length = sOff v := by simp; omega
        rw [laid, List.append_assoc, List.drop_left' hlt, List.take_left' rfl]
theorem Own.grow {w : World} {B : Nat} {e : TypeId} {v : Value} {xs : List Value} (h : Own w B e v xs) {n : Nat} (hn : n ≤ sCap v) : ∃ ys, ys.length = n ∧ Own w B e (subS v 0 n) ys := by
  have hc2 := h.cap
  rcases h.row with h0 | ⟨hb, cur, hg, hsz, ht⟩
  · refine ⟨[], by simp; omega, subS_isS h.isS (Nat.zero_le _) hn, by rw [subS_len h.isS]; simp; omega, by rw [subS_cap h.isS]; omega, .inl (by rw [subS_cap h.isS]; omega)⟩
  · have hl : ((cur.toList.drop (sOff v)).take n).length = n := by simp; omega
    refine ⟨(cur.toList.drop (sOff v)).take n, hl, subS_isS h.isS (Nat.zero_le _) hn, by rw [subS_len h.isS, hl]; omega, by rw [subS_cap h.isS]; omega, .inr ⟨?_, cur, ?_, ?_, ?_⟩⟩
    · rw [subS_blk h.isS]; exact hb
    · rw [subS_blk h.isS]; exact hg
    · rw [subS_off0 h.isS, subS_cap h.isS]; omega
    · rw [subS_off0 h.isS, hl]
set_option maxRecDepth 100000 in
theorem make_nil (n : Nat) (w : World) (hn : n ≤ 1000000000) :
    Calls Tryz.prog 193 #[.slice none 0 0, .int .i64 n] w fun e w' => ∃ v, e = .returned v ∧ Own w' w.heap.size 164 v (List.replicate n (.int .u64 0)) ∧ Below w.heap.size w w' ∧ (0 < n → 0 < sCap v) := by
  have hS := IsS.nil
  by_cases h0 : n = 0
  · subst h0
    go_enter Tryz.func193, Tryz.ntmps193
    go_wp2
    go_ret
    exact ⟨_, rfl, Own.nil _ _ _, Below.refl _ _, by simp⟩
  · have t1 : decide (n ≤ 0) = false := by rw [decide_eq_false_iff_not]; omega
    have t1' : decide ((n : Int) ≤ 0) = false := by rw [decide_eq_false_iff_not]; omega
    by_cases h1 : n = 1
    · subst h1
      go_enter Tryz.func193, Tryz.ntmps193
      go_wp2_with (at_make; refine wpList_make_O rfl _ _ _ rfl elemT .i64 .i64 _ _ rfl rfl w.heap.size ?c1 ?c2 ?c3 ?c4 ?c5 ?_)
      case c1 => omega
      case c2 => omega
      case c3 => omega
      case c4 => omega
      case c5 => exact Nat.le_refl _
      rintro v w1 rfl ho hb hz
      go_wp2
      go_ret
      exact ⟨.slice (some ⟨w.heap.size, 0, none⟩) 1 1, rfl, ho, hb, fun _ => by rw [sCap_mk]; decide⟩
    · have t2 : ((n : Int) == 1) = false := by rw [beq_eq_false_iff_ne]; omega
      have Hh := Lib.hid h0
      clear h0 h1
      go_enter Tryz.func193, Tryz.ntmps193
      go_wp2_with (at_make; refine wpList_make_O rfl _ _ _ rfl elemT .i64 .i64 _ _ rfl rfl w.heap.size ?c1 ?c2 ?c3 ?c4 ?c5 ?_)
      case c1 => omega
      case c2 => omega
      case c3 => omega
      case c4 => omega
      case c5 => exact Nat.le_refl _
      rintro v w1 rfl ho hb hz
      go_wp2
      go_ret
      exact ⟨.slice (some ⟨w.heap.size, 0, none⟩) n ((n : Int) + 4).toNat, rfl, by simpa using ho, hb, fun _ => by rw [sCap_mk]; omega⟩
theorem cellsW_one (ws : List Nat) : ∀ v ∈ cellsW ws, v.oneCell' = true := by
  intro v hv
  obtain ⟨d, _, rfl⟩ := List.mem_map.1 hv
  rfl
theorem RW.at {w : World} {v : Value} {ds : List Nat} (h : RW w v ds) : ∀ j u, (cellsW ds)[j]? = some u → w.cell? ⟨sBlk v, sOff v + j, none⟩ = some u := by
  intro j u hj
  have hlt : j < ds.length := by have := (List.getElem?_eq_some_iff.1 hj).1; rwa [cellsW_length] at this
  rw [h.cell j hlt]
  simp only [cellsW, List.getElem?_map, Option.map_eq_some_iff] at hj
  obtain ⟨x, hx, rfl⟩ := hj
  rw [List.getD_eq_getElem?_getD, hx]; rfl
theorem sizeW : (Tryz.prog.info? 164).map (·.size) = some 1 := by kernel_rfl
set_option maxRecDepth 100000 in
theorem set_nil (v : Value) (ws : List Nat) (w : World) (hv : RW w v ws) (hl : ws.length ≤ 1000000000) :
    Calls Tryz.prog 133 #[.slice none 0 0, v] w fun e w' => ∃ r, e = .returned r ∧ Own w' w.heap.size 164 r (cellsW ws) ∧ Below w.heap.size w w' := by
  have hS := hv.isS
  have hL := hv.len
  have Hv := Lib.hid hv
  clear hv
  go_enter Tryz.func133, Tryz.ntmps133
  go_wp2_with fail
  refine (make_nil ws.length w hl).mono ?_
  rintro _ w1 ⟨r, rfl, ho, hb, -⟩
  have hSr := ho.isS
  have hLr : sLen r = ws.length := by rw [ho.len]; simp
  have HO := Lib.hid ho
  clear ho
  go_wp2_with (refine wpList_copy_O (o := ⟨some 11, _, _, _, _, _⟩) rfl (.tmp 9) (.tmp 10) 121 121 rfl 164 Tryz.underlying121 sizeW _ _ rfl rfl w.heap.size (List.replicate ws.length (.int .u64 0)) HO.out (cellsW ws) ?d1 hS ?d2 ?d3 (cellsW_one ws) ?_)
  case d1 => rw [cellsW_length]; simp
  case d2 => rw [cellsW_length]; exact hL
  case d3 => exact (Hv.out.below hb).at
  intro w2 ho2 hb2 _
  go_wp2
  go_ret
  exact ⟨_, rfl, ho2, hb.trans hb2⟩
set_option maxRecDepth 100000 in
theorem setWord_nil (d : Nat) (w : World) (h0 : 0 < d) (hd : d < 18446744073709551616) :
    Calls Tryz.prog 172 #[.slice none 0 0, .int .u64 d] w fun e w' => ∃ r, e = .returned r ∧ Own w' w.heap.size 164 r (cellsW [d]) ∧ Below w.heap.size w w' := by
  have t1 : ((d : Int) == 0) = false := by rw [beq_eq_false_iff_ne]; omega
  have HD := Lib.hid hd
  clear hd
  go_enter Tryz.func172, Tryz.ntmps172
  go_wp2_with fail
  refine (make_nil 1 w (by decide)).mono ?_
  rintro _ w1 ⟨r, rfl, ho, hb, hc⟩
  have hSr := ho.isS
  have hLr : sLen r = 1 := by rw [ho.len]; simp
  have hcap := hc (by decide)
  have fz := ho.frozen hcap (sOff r)
  have ce := ho.cell (i := 0) (u := .int .u64 0) rfl
  have hset := ho.set (i := 0) (by decide) (.int .u64 (d : Int))
  have hlt := (ho.lt hcap).1
  rw [Nat.add_zero] at hset ce
  have HS := Lib.hid hset
  have HC := Lib.hid hc
  clear hset ho hc
  go_wp2
  go_ret
  exact ⟨_, rfl, HS.out, bset hb hlt⟩
end Go.Proofs.YtdepidpgbgfjlaaGreatDoor
