/-
Texts of this proof, joined: InA WdE InB InC. No condition.
-/
import Derived.Test.YtgclooabjilniaaDoorK02
import Derived.Laws.CopyOwn
import Derived.Outline
/-
The package's numbers: norm, make. No condition.
-/
namespace Go.Proofs.YtgclooabjilniaaDoor
open Go.RowKit

theorem take_norm {ws : List Nat} (h : ∀ d ∈ ws, d < 18446744073709551616) {k : Nat} (hk : k ≤ ws.length) (hv : wv (ws.take k) = wv ws) (hl : k = 0 ∨ ws.getD (k - 1) 0 ≠ 0) : k = nw (wv ws) ∧ ws.take k = wds (wv ws) := by
  have h1 : ws.take k = wds (wv (ws.take k)) := by
    refine wds_norm (fun d hd => h d (List.mem_of_mem_take hd)) ?_
    rcases Nat.eq_zero_or_pos k with h0 | h0
    · exact .inl (by rw [h0]; rfl)
    · right
      have hl' := hl.resolve_left (by omega)
      have : (ws.take k).length = k := by simp; omega
      rw [this]
      simpa [List.getD_eq_getElem?_getD, show k - 1 < k by omega] using hl'
  rw [hv] at h1
  refine ⟨?_, h1⟩
  have := congrArg List.length h1
  rw [wds_length] at this
  simp at this
  omega
set_option maxRecDepth 100000 in
set_option maxHeartbeats 400000 in
theorem norm_any (v : Value) (ws : List Nat) (w : World) (hv : RW w v ws) (hl : ws.length ≤ 1000000000) :
    Calls Tryd.prog 63 #[v] w fun e w' => e = .returned (subS v 0 (nw (wv ws))) ∧ w = w' := by
  have hS := hv.isS
  have hL := hv.len
  have hC := hS.le
  have Hv := Lib.hid hv
  clear hv
  obtain ⟨n, hn⟩ : ∃ n, n = ws.length := ⟨_, rfl⟩
  rw [← hn] at hL hl
  have Hn := Lib.hid hn
  have hC' : n ≤ sCap v := by omega
  clear hn hC
  go_enter Tryd.func63, Tryd.ntmps63
  go_wp2
  go_loop [3] (fun i => ∃ k : Nat, k ≤ n ∧ i = .int .i64 k ∧ wv (ws.take k) = wv ws) (fun i => (intOf i).toNat)
  case atStart => exact ⟨n, Nat.le_refl _, rfl, by rw [List.take_of_length_le (by rw [Hn.out]; exact Nat.le_refl _)]⟩
  case round =>
    obtain ⟨k, hk, rfl, he⟩ := hrel
    have He := Lib.hid he
    clear he
    by_cases hk0 : k = 0
    · subst hk0
      go_wp2
      go_ret
      have := take_norm Hv.out.lt (k := 0) (Nat.zero_le _) He.out (.inl rfl)
      rw [← this.1]
      exact ⟨rfl, rfl⟩
    · have c := Hv.out.cell (k - 1) (by rw [← Hn.out]; omega)
      obtain ⟨d, hd⟩ : ∃ d, d = ws.getD (k - 1) 0 := ⟨_, rfl⟩
      rw [← hd] at c
      have Hd := Lib.hid hd
      have t1 : decide (0 < k) = true := by rw [decide_eq_true_iff]; omega
      clear hd
      by_cases hz : d = 0
      · have t2 : ((d : Int) == 0) = true := by rw [beq_iff_eq]; omega
        have Hz := Lib.hid hz
        clear hz
        go_wp2
        go_round
        case rel =>
          refine ⟨k - 1, by omega, by go_num, ?_⟩
          rw [← He.out]
          have := wv_take_succ (ws := ws) (i := k - 1) (by rw [← Hn.out]; omega)
          rw [show k - 1 + 1 = k by omega, ← Hd.out, Hz.out] at this
          omega
        case measure => simp [intOf]; omega
      · have t2 : ((d : Int) == 0) = false := by rw [beq_eq_false_iff_ne]; omega
        go_wp2
        go_ret
        have := take_norm Hv.out.lt (k := k) (by rw [← Hn.out]; exact hk) He.out (.inr (by rw [← Hd.out]; exact hz))
        rw [← this.1]
        exact ⟨rfl, rfl⟩
end Go.Proofs.YtgclooabjilniaaDoor

/-
Fractions of the statements: IsNumber, IsFraction. No condition.
-/
namespace Go.Proofs.YtgclooabjilniaaDoor
open Go.RowKit

theorem IsS.form {v : Value} (h : IsS v) : ∃ a n c, v = .slice a n c := by
  cases v <;> first | exact ⟨_, _, _, rfl⟩ | exact h.elim
@[go_sem] theorem match_S {v : Value} (h : IsS v) : Value.cells.match_1 (motive := fun _ => Array Value) v (fun cs => cs) (fun v => #[v]) = #[v] := by
  obtain ⟨a1, n1, c1, rfl⟩ := h.form
  rfl
theorem nl_wv {ws : List Nat} (h : ∀ d ∈ ws, d < 18446744073709551616) : nl (wv ws) ≤ 4 * ws.length := nl_le (by rw [← wpow]; exact wv_lt h)
def isNum (b : Bool) (ws : List Nat) (neg : Bool) (n : Nat) : Bool := (b == (neg && decide (0 < n))) && decide (ws = wds n)
theorem len_pos_iff (n : Nat) : decide (0 < nl n) = decide (0 < n) := by
  rcases Nat.eq_zero_or_pos n with h | h
  · subst h; rfl
  · rw [decide_eq_true h, decide_eq_true (nl_pos h)]
def isFrac (b : Bool) (ns ds : List Nat) (neg : Bool) (n d : Nat) : Bool := isNum b ns neg n && decide (ds = wds d)
end Go.Proofs.YtgclooabjilniaaDoor

/-
copy onto an owned slice. No condition.
-/
namespace Go.Proofs.YtgclooabjilniaaDoor
open Go.RowKit

theorem add_none (b o j : Nat) : (⟨b, o, none⟩ : Addr).add j = ⟨b, o + j, none⟩ := by
  unfold Addr.add
  split
  · rename_i h; simp_all
  · rfl
theorem wpList_copy_O {P : Program} {w : World} {ops : Array Oper} {rest : List Oper} {o : Oper} {a : Act} {Q : Exit → Act → World → Prop} (hgd : o.guard = none) (d s : Operand) (dT sT : TypeId)
    (ho : o.op = .call { callee := .builtin .copy, args := #[d, s], argTypes := #[dT, sT] }) (elem : TypeId) (hu : P.underlying dT = some (.slice elem)) (hsz : (P.info? elem).map (·.size) = some 1)
    (v vx : Value) (hd : a.eval d = v) (hs : a.eval s = vx) (B : Nat) (xs : List Value) (hown : Own w B elem v xs) (cs : List Value) (hlen : cs.length = xs.length) (hsx : IsS vx) (hlx : sLen vx = cs.length)
    (hsrc : ∀ j u, cs[j]? = some u → w.cell? ⟨sBlk vx, sOff vx + j, none⟩ = some u) (h1 : ∀ v ∈ cs, v.oneCell' = true)
    (h : ∀ w', Own w' B elem v cs → Below B w w' → Only (sBlk v) w w' → wpList P ops Q rest (a.put o.dst (goInt cs.length)) w') : wpList P ops Q (o :: rest) a w := by
  have hL := hown.len
  have hC := hown.isS.le
  have hCx := hsx.le
  by_cases h0 : cs.length = 0
  · obtain rfl : cs = [] := List.eq_nil_of_length_eq_zero h0
    obtain rfl : xs = [] := List.eq_nil_of_length_eq_zero (by simpa using hlen.symm)
    obtain ⟨p, n, c, rfl⟩ := hown.isS.form
    obtain ⟨p', n', c', rfl⟩ := hsx.form
    have hn : n = 0 := by simpa [sLen] using hL
    subst hn
    exact wpList_copy_nothing hgd d s dT sT ho elem hu hsz p p' 0 c n' c' hd hs (by simp) (h w hown (Below.refl _ _) (Only.refl _ _))
  · rcases hown.row with hr | ⟨hb, cur, hg, hcs, ht⟩
    · omega
    · have hv := hown.isS.out (by omega)
      have hvx := hsx.out (by omega)
      refine wpList_copy_own hgd d s dT sT ho elem hu hsz (sBlk v) (sOff v) (sLen v) (sCap v) ⟨sBlk vx, sOff vx, none⟩ (sLen vx) (sCap vx) (hd.trans hv) (hs.trans hvx) cur elem hg cs (by rw [hlx, hL, hlen]; simp) (fun j u hj => by rw [add_none]; exact hsrc j u hj) (by omega) h1 ?_
      refine h _ ⟨hown.isS, by omega, hown.cap, .inr ⟨hb, _, setRow_heap w _ _ _ _ _ hg, ?_, ?_⟩⟩ (below_setRow (Below.refl _ _) hb _) (fun k hk hne => setRow_other w _ k _ hne)
      · simp; omega
      · have e1 : cur.toList.take (sOff v) ++ (cs ++ cur.toList.drop (sOff v + cs.length)) = laid cur.toList (sOff v) cs := by simp [laid]
        rw [e1]
        have hlt : (cur.toList.take (sOff v)).length = sOff v := by simp; omega
        rw [laid, List.append_assoc, List.drop_left' hlt, List.take_left' rfl]
/-- A slice within its capacity is owned, with some contents. -/
theorem Own.grow {w : World} {B : Nat} {e : TypeId} {v : Value} {xs : List Value} (h : Own w B e v xs) {n : Nat} (hn : n ≤ sCap v) : ∃ ys, ys.length = n ∧ Own w B e (subS v 0 n) ys := by
  have hc2 := h.cap
  rcases h.row with h0 | ⟨hb, cur, hg, hsz, ht⟩
  · refine ⟨[], by simp; omega, subS_isS h.isS (Nat.zero_le _) hn, by rw [subS_len h.isS]; simp; omega, by rw [subS_cap h.isS]; omega, .inl (by rw [subS_cap h.isS]; omega)⟩
  · have hl : ((cur.toList.drop (sOff v)).take n).length = n := by simp; omega
    refine ⟨(cur.toList.drop (sOff v)).take n, hl, subS_isS h.isS (Nat.zero_le _) hn, by rw [subS_len h.isS, hl]; omega, by rw [subS_cap h.isS]; omega, .inr ⟨?_, cur, ?_, ?_, ?_⟩⟩
    · rw [subS_blk h.isS]; exact hb
    · rw [subS_blk h.isS]; exact hg
    · rw [subS_off0 h.isS, subS_cap h.isS]; omega
    · rw [subS_off0 h.isS, hl]
end Go.Proofs.YtgclooabjilniaaDoor

/-
The package's numbers: make, set, setWord of a receiver without room. No condition.
-/
namespace Go.Proofs.YtgclooabjilniaaDoor
open Go.RowKit

theorem subS_nil0 : subS (.slice none 0 0) 0 0 = .slice none 0 0 := rfl
set_option maxRecDepth 100000 in
theorem make_nil (n : Nat) (w : World) (hn : n ≤ 1000000000) :
    Calls Tryd.prog 61 #[.slice none 0 0, .int .i64 n] w fun e w' => ∃ v, e = .returned v ∧ Own w' w.heap.size 86 v (List.replicate n (.int .u64 0)) ∧ Below w.heap.size w w' ∧ (0 < n → 0 < sCap v) := by
  have hS := IsS.nil
  by_cases h0 : n = 0
  · subst h0
    go_enter Tryd.func61, Tryd.ntmps61
    go_wp2
    go_ret
    exact ⟨_, rfl, Own.nil _ _ _, Below.refl _ _, by simp⟩
  · have t1 : decide (n ≤ 0) = false := by rw [decide_eq_false_iff_not]; omega
    have t1' : decide ((n : Int) ≤ 0) = false := by rw [decide_eq_false_iff_not]; omega
    by_cases h1 : n = 1
    · subst h1
      go_enter Tryd.func61, Tryd.ntmps61
      go_wp2_with (at_make; refine wpList_make_O rfl _ _ _ rfl elemT .i64 .i64 _ _ rfl rfl w.heap.size ?c1 ?c2 ?c3 ?c4 ?c5 ?_)
      case c1 => omega
      case c2 => omega
      case c3 => omega
      case c4 => omega
      case c5 => exact Nat.le_refl _
      rintro v w1 rfl ho hb hz
      go_wp2
      go_ret
      exact ⟨.slice (some ⟨w.heap.size, 0, none⟩) 1 1, rfl, ho, hb, fun _ => by rw [sCap_mk]; decide⟩
    · have t2 : ((n : Int) == 1) = false := by rw [beq_eq_false_iff_ne]; omega
      have Hh := Lib.hid h0
      clear h0 h1
      go_enter Tryd.func61, Tryd.ntmps61
      go_wp2_with (at_make; refine wpList_make_O rfl _ _ _ rfl elemT .i64 .i64 _ _ rfl rfl w.heap.size ?c1 ?c2 ?c3 ?c4 ?c5 ?_)
      case c1 => omega
      case c2 => omega
      case c3 => omega
      case c4 => omega
      case c5 => exact Nat.le_refl _
      rintro v w1 rfl ho hb hz
      go_wp2
      go_ret
      exact ⟨.slice (some ⟨w.heap.size, 0, none⟩) n ((n : Int) + 4).toNat, rfl, by simpa using ho, hb, fun _ => by rw [sCap_mk]; omega⟩
theorem cellsW_one (ws : List Nat) : ∀ v ∈ cellsW ws, v.oneCell' = true := by
  intro v hv
  obtain ⟨d, _, rfl⟩ := List.mem_map.1 hv
  rfl
theorem RW.at {w : World} {v : Value} {ds : List Nat} (h : RW w v ds) : ∀ j u, (cellsW ds)[j]? = some u → w.cell? ⟨sBlk v, sOff v + j, none⟩ = some u := by
  intro j u hj
  have hlt : j < ds.length := by have := (List.getElem?_eq_some_iff.1 hj).1; rwa [cellsW_length] at this
  rw [h.cell j hlt]
  simp only [cellsW, List.getElem?_map, Option.map_eq_some_iff] at hj
  obtain ⟨x, hx, rfl⟩ := hj
  rw [List.getD_eq_getElem?_getD, hx]; rfl
theorem sizeW : (Tryd.prog.info? 86).map (·.size) = some 1 := by kernel_rfl
set_option maxRecDepth 100000 in
theorem set_nil (v : Value) (ws : List Nat) (w : World) (hv : RW w v ws) (hl : ws.length ≤ 1000000000) :
    Calls Tryd.prog 50 #[.slice none 0 0, v] w fun e w' => ∃ r, e = .returned r ∧ Own w' w.heap.size 86 r (cellsW ws) ∧ Below w.heap.size w w' := by
  have hS := hv.isS
  have hL := hv.len
  have Hv := Lib.hid hv
  clear hv
  go_enter Tryd.func50, Tryd.ntmps50
  go_wp2_with fail
  refine (make_nil ws.length w hl).mono ?_
  rintro _ w1 ⟨r, rfl, ho, hb, -⟩
  have hSr := ho.isS
  have hLr : sLen r = ws.length := by rw [ho.len]; simp
  have HO := Lib.hid ho
  clear ho
  go_wp2_with (refine wpList_copy_O (o := ⟨some 11, _, _, _, _, _⟩) rfl (.tmp 9) (.tmp 10) 46 46 rfl 86 Tryd.underlying46 sizeW _ _ rfl rfl w.heap.size (List.replicate ws.length (.int .u64 0)) HO.out (cellsW ws) ?d1 hS ?d2 ?d3 (cellsW_one ws) ?_)
  case d1 => rw [cellsW_length]; simp
  case d2 => rw [cellsW_length]; exact hL
  case d3 => exact (Hv.out.below hb).at
  intro w2 ho2 hb2 _
  go_wp2
  go_ret
  exact ⟨_, rfl, ho2, hb.trans hb2⟩
set_option maxRecDepth 100000 in
theorem setWord_nil (d : Nat) (w : World) (h0 : 0 < d) (hd : d < 18446744073709551616) :
    Calls Tryd.prog 69 #[.slice none 0 0, .int .u64 d] w fun e w' => ∃ r, e = .returned r ∧ Own w' w.heap.size 86 r (cellsW [d]) ∧ Below w.heap.size w w' := by
  have t1 : ((d : Int) == 0) = false := by rw [beq_eq_false_iff_ne]; omega
  have HD := Lib.hid hd
  clear hd
  go_enter Tryd.func69, Tryd.ntmps69
  go_wp2_with fail
  refine (make_nil 1 w (by decide)).mono ?_
  rintro _ w1 ⟨r, rfl, ho, hb, hc⟩
  have hSr := ho.isS
  have hLr : sLen r = 1 := by rw [ho.len]; simp
  have hcap := hc (by decide)
  have fz := ho.frozen hcap (sOff r)
  have ce := ho.cell (i := 0) (u := .int .u64 0) rfl
  have hset := ho.set (i := 0) (by decide) (.int .u64 (d : Int))
  have hlt := (ho.lt hcap).1
  rw [Nat.add_zero] at hset ce
  have HS := Lib.hid hset
  have HC := Lib.hid hc
  clear hset ho hc
  go_wp2
  go_ret
  exact ⟨_, rfl, HS.out, bset hb hlt⟩
end Go.Proofs.YtgclooabjilniaaDoor
