/-
Texts of this proof, joined: WdG InA InB InC HoistP InD InE InF InG. No condition.
-/
import Derived.Test.YtkhhoamcnocjlaaGreatDoorK01
import Derived.Test.YtkhhoamcnocjlaaGreatDoorK03
import Derived.Test.YtkhhoamcnocjlaaGreatDoorK04
import Derived.Laws.CopyOwn
import Derived.Outline
import Derived.Lib.Builder
/-
Fractions of the statements: fraction. No condition.
-/
namespace Go.Proofs.YtkhhoamcnocjlaaGreatDoor
open Go.RowKit

/-- What fraction answers. -/
def FrPost (n : Nat) (b : Bool) (ns ds : List Nat) (w : World) (v : Value) (w' : World) : Prop :=
  ∃ bb a1 a2 ok, v = .tuple #[.agg #[.bool bb, a1, a2], .bool ok] ∧ IsS a1 ∧ IsS a2 ∧ Below w.heap.size w w' ∧
    (ok = true → bb = b ∧ ns.length ≤ n ∧ ds.length ≤ n ∧ 0 < wv ds ∧ isFrac b ns ds b (wv ns) (wv ds) = true ∧ Nat.gcd (wv ns) (wv ds) = 1 ∧ NatV w' a1 (wv ns) ∧ NatV w' a2 (wv ds))
set_option maxRecDepth 100000 in
set_option maxHeartbeats 800000 in
theorem fraction_any (b : Bool) (v1 v2 : Value) (n : Nat) (ns ds : List Nat) (w : World) (h1 : RW w v1 ns) (h2 : RW w v2 ds) (hn : n ≤ 100000) :
    Calls Tryz.prog 53 #[.agg #[.bool b, v1, v2], .int .i64 n] w fun e w' => ∃ v, e = .returned v ∧ FrPost n b ns ds w v w' := by
  have hS1 := h1.isS
  have hS2 := h2.isS
  have H1 := Lib.hid h1
  have H2 := Lib.hid h2
  clear h1 h2
  have hab := ((Below.refl w.heap.size w).alloc (Nat.le_refl _) (.cells #[.bool b, v1, v2] 51))
  have hac := hab.alloc hab.size (.cells #[.bool false, .slice none 0 0, .slice none 0 0] 57)
  obtain ⟨W, hW⟩ : ∃ W, W = (w.alloc (.cells #[.bool b, v1, v2] 51)).alloc (.cells #[.bool false, .slice none 0 0, .slice none 0 0] 57) := ⟨_, rfl⟩
  rw [← hW] at hac
  have c0 : W.cell? ⟨w.heap.size, 0, none⟩ = some (.bool b) := by
    rw [hW]; exact box_cell (w := w) (cs := #[.bool b, v1, v2]) ((Below.refl _ _).alloc (Nat.le_refl _) _) rfl
  have c1 : W.cell? ⟨w.heap.size, 1, none⟩ = some v1 := by
    rw [hW]; exact box_cell (w := w) (cs := #[.bool b, v1, v2]) ((Below.refl _ _).alloc (Nat.le_refl _) _) rfl
  have c2 : W.cell? ⟨w.heap.size, 2, none⟩ = some v2 := by
    rw [hW]; exact box_cell (w := w) (cs := #[.bool b, v1, v2]) ((Below.refl _ _).alloc (Nat.le_refl _) _) rfl
  have HWs := Lib.hid (show W.heap.size = w.heap.size + 2 by rw [hW]; simp)
  have hrw : W.heap[w.heap.size + 1]? = some (.cells #[.bool false, .slice none 0 0, .slice none 0 0] 57 (0, 0)) := by
    rw [hW]
    have := box_row (Below.refl _ ((w.alloc (.cells #[.bool b, v1, v2] 51)).alloc (.cells #[.bool false, .slice none 0 0, .slice none 0 0] 57)))
    simpa using this
  have HR := Lib.hid hrw
  have R1 := Lib.hid (H1.out.below hac)
  have R2 := Lib.hid (H2.out.below hac)
  have r3 := row3 hrw
  obtain ⟨x0, x1, x2, y0, y1, y2⟩ := r3
  have HW := Lib.hid hW
  clear hrw
  go_enter Tryz.func53, Tryz.ntmps53
  go_upto_region 1 with fail
  rw [← hW]
  clear hW
  by_cases hl1 : n < ns.length
  · have t1 : decide (n < ns.length) = true := decide_eq_true hl1
    go_wp2_with fail
    refine (long_any v1 ns n W R1.out).mono ?_
    rintro _ _ ⟨rfl, rfl⟩
    rw [t1]
    go_wp2
    obtain ⟨hx0, hx1, hx2, -, -, -⟩ := row3 (row3_set (x := .bool false) (y := .slice none 0 0) (z := .slice none 0 0) (HR.out))
    have hbY := bset (i := 2) (u := .slice none 0 0) (bset (i := 1) (u := .slice none 0 0) (bset (i := 0) (u := .bool false) (hac) (Nat.le_succ _)) (Nat.le_succ _)) (Nat.le_succ _)
    refine bodyPost_ret (v := .tuple #[.agg #[.bool false, .slice none 0 0, .slice none 0 0], .bool false]) ?_ rfl ⟨_, rfl, false, .slice none 0 0, .slice none 0 0, false, rfl, IsS.nil, IsS.nil, hbY, by simp⟩
    simp [results, Tryz.results53, go_sem, hx0, hx1, hx2]
  · have t1 : decide (n < ns.length) = false := decide_eq_false hl1
    go_wp2_with fail
    refine (long_any v1 ns n W R1.out).mono ?_
    rintro _ _ ⟨rfl, rfl⟩
    rw [t1]
    by_cases hl2 : n < ds.length
    · have t2 : decide (n < ds.length) = true := decide_eq_true hl2
      go_wp2_with fail
      refine (long_any v2 ds n W R2.out).mono ?_
      rintro _ _ ⟨rfl, rfl⟩
      rw [t2]
      go_wp2
      obtain ⟨hx0, hx1, hx2, -, -, -⟩ := row3 (row3_set (x := .bool false) (y := .slice none 0 0) (z := .slice none 0 0) (HR.out))
      have hbY := bset (i := 2) (u := .slice none 0 0) (bset (i := 1) (u := .slice none 0 0) (bset (i := 0) (u := .bool false) (hac) (Nat.le_succ _)) (Nat.le_succ _)) (Nat.le_succ _)
      refine bodyPost_ret (v := .tuple #[.agg #[.bool false, .slice none 0 0, .slice none 0 0], .bool false]) ?_ rfl ⟨_, rfl, false, .slice none 0 0, .slice none 0 0, false, rfl, IsS.nil, IsS.nil, hbY, by simp⟩
      simp [results, Tryz.results53, go_sem, hx0, hx1, hx2]
    · have t2 : decide (n < ds.length) = false := decide_eq_false hl2
      go_wp2_with fail
      refine (long_any v2 ds n W R2.out).mono ?_
      rintro _ _ ⟨rfl, rfl⟩
      rw [t2]
      go_wp2_with fail
      refine (spOf v2 ds W R2.out (by omega)).mono ?_
      rintro _ w1 ⟨dv, rfl, hdv, hb1⟩
      have hSd := hdv.isS
      have hLd := hdv.len
      have HR1 := Lib.hid (keep_row hb1 HR.out)
      obtain ⟨z0, z1, z2, q0, q1, q2⟩ := row3 HR1.out
      obtain ⟨-, e0, e1, e2⟩ := ks3 c0 c1 c2 hb1
      have hbX : Below w.heap.size w w1 := hac.trans (hb1.mono hac.size)
      by_cases hd0 : wv ds = 0
      · have t3 : sLen dv = 0 := by rw [hLd, hd0]; rfl
        clear hLd
        go_wp2
        obtain ⟨hx0, hx1, hx2, -, -, -⟩ := row3 (row3_set (x := .bool false) (y := .slice none 0 0) (z := .slice none 0 0) (HR1.out))
        have hbY := bset (i := 2) (u := .slice none 0 0) (bset (i := 1) (u := .slice none 0 0) (bset (i := 0) (u := .bool false) (hbX) (Nat.le_succ _)) (Nat.le_succ _)) (Nat.le_succ _)
        refine bodyPost_ret (v := .tuple #[.agg #[.bool false, .slice none 0 0, .slice none 0 0], .bool false]) ?_ rfl ⟨_, rfl, false, .slice none 0 0, .slice none 0 0, false, rfl, IsS.nil, IsS.nil, hbY, by simp⟩
        simp [results, Tryz.results53, go_sem, hx0, hx1, hx2]
      · have hp := nl_pos (show 0 < wv ds by omega)
        have t3 : ((nl (wv ds) : Int) == 0) = false := by rw [beq_eq_false_iff_ne]; omega
        go_wp2_with fail
        refine (ofFraction_any b v1 v2 ns ds w1 (H1.out.below hbX) (H2.out.below hbX) (by omega) (by omega)).mono ?_
        rintro _ w2 ⟨_, rfl, a1, a2, rfl, hn1, hn2, hb2⟩
        have hSa1 := hn1.isS
        have hSa2 := hn2.isS
        have HR2 := Lib.hid (keep_row hb2 HR1.out)
        obtain ⟨m0, m1, m2, p0, p1, p2⟩ := row3 HR2.out
        obtain ⟨ok, hok⟩ : ∃ ok, ok = (isFrac b ns ds b (wv ns) (wv ds) && decide (Nat.gcd (wv ns) (wv ds) = 1)) := ⟨_, rfl⟩
        rw [← hok]
        have Hok := Lib.hid hok
        clear hok
        go_wp2
        have hbX2 := bthen hbX hb2
        obtain ⟨hx0, hx1, hx2, -, -, -⟩ := row3 (row3_set (x := .bool b) (y := a1) (z := a2) HR2.out)
        have hn1' := natv_row3 (x := .bool b) (y := a1) (z := a2) IsS.nil IsS.nil hn1 HR2.out
        have hn2' := natv_row3 (x := .bool b) (y := a1) (z := a2) IsS.nil IsS.nil hn2 HR2.out
        have hbY := bset (i := 2) (u := a2) (bset (i := 1) (u := a1) (bset (i := 0) (u := .bool b) hbX2 (Nat.le_succ _)) (Nat.le_succ _)) (Nat.le_succ _)
        refine bodyPost_ret (v := .tuple #[.agg #[.bool b, a1, a2], .bool ok]) ?_ rfl ⟨_, rfl, b, a1, a2, ok, rfl, hSa1, hSa2, hbY, fun h => ?_⟩
        · simp [results, Tryz.results53, go_sem, hx0, hx1, hx2]
        · rw [Hok.out, Bool.and_eq_true, decide_eq_true_iff] at h
          exact ⟨rfl, by omega, by omega, by omega, h.1, h.2, hn1', hn2'⟩
end Go.Proofs.YtkhhoamcnocjlaaGreatDoor

/-
The package's numbers: norm, make. No condition.
-/
namespace Go.Proofs.YtkhhoamcnocjlaaGreatDoor
open Go.RowKit

theorem take_norm {ws : List Nat} (h : ∀ d ∈ ws, d < 18446744073709551616) {k : Nat} (hk : k ≤ ws.length) (hv : wv (ws.take k) = wv ws) (hl : k = 0 ∨ ws.getD (k - 1) 0 ≠ 0) : k = nw (wv ws) ∧ ws.take k = wds (wv ws) := by
  have h1 : ws.take k = wds (wv (ws.take k)) := by
    refine wds_norm (fun d hd => h d (List.mem_of_mem_take hd)) ?_
    rcases Nat.eq_zero_or_pos k with h0 | h0
    · exact .inl (by rw [h0]; rfl)
    · right
      have hl' := hl.resolve_left (by omega)
      have : (ws.take k).length = k := by simp; omega
      rw [this]
      simpa [List.getD_eq_getElem?_getD, show k - 1 < k by omega] using hl'
  rw [hv] at h1
  refine ⟨?_, h1⟩
  have := congrArg List.length h1
  rw [wds_length] at this
  simp at this
  omega
set_option maxRecDepth 100000 in
set_option maxHeartbeats 400000 in
theorem norm_any (v : Value) (ws : List Nat) (w : World) (hv : RW w v ws) (hl : ws.length ≤ 1000000000) :
    Calls Tryz.prog 116 #[v] w fun e w' => e = .returned (subS v 0 (nw (wv ws))) ∧ w = w' := by
  have hS := hv.isS
  have hL := hv.len
  have hC := hS.le
  have Hv := Lib.hid hv
  clear hv
  obtain ⟨n, hn⟩ : ∃ n, n = ws.length := ⟨_, rfl⟩
  rw [← hn] at hL hl
  have Hn := Lib.hid hn
  have hC' : n ≤ sCap v := by omega
  clear hn hC
  go_enter Tryz.func116, Tryz.ntmps116
  go_wp2
  go_loop [3] (fun i => ∃ k : Nat, k ≤ n ∧ i = .int .i64 k ∧ wv (ws.take k) = wv ws) (fun i => (intOf i).toNat)
  case atStart => exact ⟨n, Nat.le_refl _, rfl, by rw [List.take_of_length_le (by rw [Hn.out]; exact Nat.le_refl _)]⟩
  case round =>
    obtain ⟨k, hk, rfl, he⟩ := hrel
    have He := Lib.hid he
    clear he
    by_cases hk0 : k = 0
    · subst hk0
      go_wp2
      go_ret
      have := take_norm Hv.out.lt (k := 0) (Nat.zero_le _) He.out (.inl rfl)
      rw [← this.1]
      exact ⟨rfl, rfl⟩
    · have c := Hv.out.cell (k - 1) (by rw [← Hn.out]; omega)
      obtain ⟨d, hd⟩ : ∃ d, d = ws.getD (k - 1) 0 := ⟨_, rfl⟩
      rw [← hd] at c
      have Hd := Lib.hid hd
      have t1 : decide (0 < k) = true := by rw [decide_eq_true_iff]; omega
      clear hd
      by_cases hz : d = 0
      · have t2 : ((d : Int) == 0) = true := by rw [beq_iff_eq]; omega
        have Hz := Lib.hid hz
        clear hz
        go_wp2
        go_round
        case rel =>
          refine ⟨k - 1, by omega, by go_num, ?_⟩
          rw [← He.out]
          have := wv_take_succ (ws := ws) (i := k - 1) (by rw [← Hn.out]; omega)
          rw [show k - 1 + 1 = k by omega, ← Hd.out, Hz.out] at this
          omega
        case measure => simp [intOf]; omega
      · have t2 : ((d : Int) == 0) = false := by rw [beq_eq_false_iff_ne]; omega
        go_wp2
        go_ret
        have := take_norm Hv.out.lt (k := k) (by rw [← Hn.out]; exact hk) He.out (.inr (by rw [← Hd.out]; exact hz))
        rw [← this.1]
        exact ⟨rfl, rfl⟩
end Go.Proofs.YtkhhoamcnocjlaaGreatDoor

/-
copy onto an owned slice. No condition.
-/
namespace Go.Proofs.YtkhhoamcnocjlaaGreatDoor
open Go.RowKit

theorem add_none (b o j : Nat) : (⟨b, o, none⟩ : Addr).add j = ⟨b, o + j, none⟩ := by
  unfold Addr.add
  split
  · rename_i h; simp_all
  · rfl
theorem wpList_copy_O {P : Program} {w : World} {ops : Array Oper} {rest : List Oper} {o : Oper} {a : Act} {Q : Exit → Act → World → Prop} (hgd : o.guard = none) (d s : Operand) (dT sT : TypeId)
    (ho : o.op = .call { callee := .builtin .copy, args := #[d, s], argTypes := #[dT, sT] }) (elem : TypeId) (hu : P.underlying dT = some (.slice elem)) (hsz : (P.info? elem).map (·.size) = some 1)
    (v vx : Value) (hd : a.eval d = v) (hs : a.eval s = vx) (B : Nat) (xs : List Value) (hown : Own w B elem v xs) (cs : List Value) (hlen : cs.length = xs.length) (hsx : IsS vx) (hlx : sLen vx = cs.length)
    (hsrc : ∀ j u, cs[j]? = some u → w.cell? ⟨sBlk vx, sOff vx + j, none⟩ = some u) (h1 : ∀ v ∈ cs, v.oneCell' = true)
    (h : ∀ w', Own w' B elem v cs → Below B w w' → Only (sBlk v) w w' → wpList P ops Q rest (a.put o.dst (goInt cs.length)) w') : wpList P ops Q (o :: rest) a w := by
  have hL := hown.len
  have hC := hown.isS.le
  have hCx := hsx.le
  by_cases h0 : cs.length = 0
  · obtain rfl : cs = [] := List.eq_nil_of_length_eq_zero h0
    obtain rfl : xs = [] := List.eq_nil_of_length_eq_zero (by simpa using hlen.symm)
    obtain ⟨p, n, c, rfl⟩ := hown.isS.form
    obtain ⟨p', n', c', rfl⟩ := hsx.form
    have hn : n = 0 := by simpa [sLen] using hL
    subst hn
    exact wpList_copy_nothing hgd d s dT sT ho elem hu hsz p p' 0 c n' c' hd hs (by simp) (h w hown (Below.refl _ _) (Only.refl _ _))
  · rcases hown.row with hr | ⟨hb, cur, hg, hcs, ht⟩
    · omega
    · have hv := hown.isS.out (by omega)
      have hvx := hsx.out (by omega)
      refine wpList_copy_own hgd d s dT sT ho elem hu hsz (sBlk v) (sOff v) (sLen v) (sCap v) ⟨sBlk vx, sOff vx, none⟩ (sLen vx) (sCap vx) (hd.trans hv) (hs.trans hvx) cur elem hg cs (by rw [hlx, hL, hlen]; simp) (fun j u hj => by rw [add_none]; exact hsrc j u hj) (by omega) h1 ?_
      refine h _ ⟨hown.isS, by omega, hown.cap, .inr ⟨hb, _, setRow_heap w _ _ _ _ _ hg, ?_, ?_⟩⟩ (below_setRow (Below.refl _ _) hb _) (fun k hk hne => setRow_other w _ k _ hne)
      · simp; omega
      · have e1 : cur.toList.take (sOff v) ++ (cs ++ cur.toList.drop (sOff v + cs.length)) = laid cur.toList (sOff v) cs := by simp [laid]
        rw [e1]
        have hlt : (cur.toList.take (sOff v)).length = sOff v := by simp; omega
        rw [laid, List.append_assoc, List.drop_left' hlt, List.take_left' rfl]
/-- A slice within its capacity is owned, with some contents. -/
theorem Own.grow {w : World} {B : Nat} {e : TypeId} {v : Value} {xs : List Value} (h : Own w B e v xs) {n : Nat} (hn : n ≤ sCap v) : ∃ ys, ys.length = n ∧ Own w B e (subS v 0 n) ys := by
  have hc2 := h.cap
  rcases h.row with h0 | ⟨hb, cur, hg, hsz, ht⟩
  · refine ⟨[], by simp; omega, subS_isS h.isS (Nat.zero_le _) hn, by rw [subS_len h.isS]; simp; omega, by rw [subS_cap h.isS]; omega, .inl (by rw [subS_cap h.isS]; omega)⟩
  · have hl : ((cur.toList.drop (sOff v)).take n).length = n := by simp; omega
    refine ⟨(cur.toList.drop (sOff v)).take n, hl, subS_isS h.isS (Nat.zero_le _) hn, by rw [subS_len h.isS, hl]; omega, by rw [subS_cap h.isS]; omega, .inr ⟨?_, cur, ?_, ?_, ?_⟩⟩
    · rw [subS_blk h.isS]; exact hb
    · rw [subS_blk h.isS]; exact hg
    · rw [subS_off0 h.isS, subS_cap h.isS]; omega
    · rw [subS_off0 h.isS, hl]
end Go.Proofs.YtkhhoamcnocjlaaGreatDoor

/-
The package's numbers: make, set, setWord of a receiver without room. No condition.
-/
namespace Go.Proofs.YtkhhoamcnocjlaaGreatDoor
open Go.RowKit

theorem subS_nil0 : subS (.slice none 0 0) 0 0 = .slice none 0 0 := rfl
set_option maxRecDepth 100000 in
theorem make_nil (n : Nat) (w : World) (hn : n ≤ 1000000000) :
    Calls Tryz.prog 114 #[.slice none 0 0, .int .i64 n] w fun e w' => ∃ v, e = .returned v ∧ Own w' w.heap.size 147 v (List.replicate n (.int .u64 0)) ∧ Below w.heap.size w w' ∧ (0 < n → 0 < sCap v) := by
  have hS := IsS.nil
  by_cases h0 : n = 0
  · subst h0
    go_enter Tryz.func114, Tryz.ntmps114
    go_wp2
    go_ret
    exact ⟨_, rfl, Own.nil _ _ _, Below.refl _ _, by simp⟩
  · have t1 : decide (n ≤ 0) = false := by rw [decide_eq_false_iff_not]; omega
    have t1' : decide ((n : Int) ≤ 0) = false := by rw [decide_eq_false_iff_not]; omega
    by_cases h1 : n = 1
    · subst h1
      go_enter Tryz.func114, Tryz.ntmps114
      go_wp2_with (at_make; refine wpList_make_O rfl _ _ _ rfl elemT .i64 .i64 _ _ rfl rfl w.heap.size ?c1 ?c2 ?c3 ?c4 ?c5 ?_)
      case c1 => omega
      case c2 => omega
      case c3 => omega
      case c4 => omega
      case c5 => exact Nat.le_refl _
      rintro v w1 rfl ho hb hz
      go_wp2
      go_ret
      exact ⟨.slice (some ⟨w.heap.size, 0, none⟩) 1 1, rfl, ho, hb, fun _ => by rw [sCap_mk]; decide⟩
    · have t2 : ((n : Int) == 1) = false := by rw [beq_eq_false_iff_ne]; omega
      have Hh := Lib.hid h0
      clear h0 h1
      go_enter Tryz.func114, Tryz.ntmps114
      go_wp2_with (at_make; refine wpList_make_O rfl _ _ _ rfl elemT .i64 .i64 _ _ rfl rfl w.heap.size ?c1 ?c2 ?c3 ?c4 ?c5 ?_)
      case c1 => omega
      case c2 => omega
      case c3 => omega
      case c4 => omega
      case c5 => exact Nat.le_refl _
      rintro v w1 rfl ho hb hz
      go_wp2
      go_ret
      exact ⟨.slice (some ⟨w.heap.size, 0, none⟩) n ((n : Int) + 4).toNat, rfl, by simpa using ho, hb, fun _ => by rw [sCap_mk]; omega⟩
theorem cellsW_one (ws : List Nat) : ∀ v ∈ cellsW ws, v.oneCell' = true := by
  intro v hv
  obtain ⟨d, _, rfl⟩ := List.mem_map.1 hv
  rfl
theorem RW.at {w : World} {v : Value} {ds : List Nat} (h : RW w v ds) : ∀ j u, (cellsW ds)[j]? = some u → w.cell? ⟨sBlk v, sOff v + j, none⟩ = some u := by
  intro j u hj
  have hlt : j < ds.length := by have := (List.getElem?_eq_some_iff.1 hj).1; rwa [cellsW_length] at this
  rw [h.cell j hlt]
  simp only [cellsW, List.getElem?_map, Option.map_eq_some_iff] at hj
  obtain ⟨x, hx, rfl⟩ := hj
  rw [List.getD_eq_getElem?_getD, hx]; rfl
theorem sizeW : (Tryz.prog.info? 147).map (·.size) = some 1 := by kernel_rfl
set_option maxRecDepth 100000 in
theorem set_nil (v : Value) (ws : List Nat) (w : World) (hv : RW w v ws) (hl : ws.length ≤ 1000000000) :
    Calls Tryz.prog 91 #[.slice none 0 0, v] w fun e w' => ∃ r, e = .returned r ∧ Own w' w.heap.size 147 r (cellsW ws) ∧ Below w.heap.size w w' := by
  have hS := hv.isS
  have hL := hv.len
  have Hv := Lib.hid hv
  clear hv
  go_enter Tryz.func91, Tryz.ntmps91
  go_wp2_with fail
  refine (make_nil ws.length w hl).mono ?_
  rintro _ w1 ⟨r, rfl, ho, hb, -⟩
  have hSr := ho.isS
  have hLr : sLen r = ws.length := by rw [ho.len]; simp
  have HO := Lib.hid ho
  clear ho
  go_wp2_with (refine wpList_copy_O (o := ⟨some 11, _, _, _, _, _⟩) rfl (.tmp 9) (.tmp 10) 94 94 rfl 147 Tryz.underlying94 sizeW _ _ rfl rfl w.heap.size (List.replicate ws.length (.int .u64 0)) HO.out (cellsW ws) ?d1 hS ?d2 ?d3 (cellsW_one ws) ?_)
  case d1 => rw [cellsW_length]; simp
  case d2 => rw [cellsW_length]; exact hL
  case d3 => exact (Hv.out.below hb).at
  intro w2 ho2 hb2 _
  go_wp2
  go_ret
  exact ⟨_, rfl, ho2, hb.trans hb2⟩
set_option maxRecDepth 100000 in
theorem setWord_nil (d : Nat) (w : World) (h0 : 0 < d) (hd : d < 18446744073709551616) :
    Calls Tryz.prog 127 #[.slice none 0 0, .int .u64 d] w fun e w' => ∃ r, e = .returned r ∧ Own w' w.heap.size 147 r (cellsW [d]) ∧ Below w.heap.size w w' := by
  have t1 : ((d : Int) == 0) = false := by rw [beq_eq_false_iff_ne]; omega
  have HD := Lib.hid hd
  clear hd
  go_enter Tryz.func127, Tryz.ntmps127
  go_wp2_with fail
  refine (make_nil 1 w (by decide)).mono ?_
  rintro _ w1 ⟨r, rfl, ho, hb, hc⟩
  have hSr := ho.isS
  have hLr : sLen r = 1 := by rw [ho.len]; simp
  have hcap := hc (by decide)
  have fz := ho.frozen hcap (sOff r)
  have ce := ho.cell (i := 0) (u := .int .u64 0) rfl
  have hset := ho.set (i := 0) (by decide) (.int .u64 (d : Int))
  have hlt := (ho.lt hcap).1
  rw [Nat.add_zero] at hset ce
  have HS := Lib.hid hset
  have HC := Lib.hid hc
  clear hset ho hc
  go_wp2
  go_ret
  exact ⟨_, rfl, HS.out, bset hb hlt⟩
end Go.Proofs.YtkhhoamcnocjlaaGreatDoor

/-
A region that draws its order, whose operations are told in three lists: those that look at no world, those that read till the first call or store, and the rest, which is in a forced order: one walk in that order serves every order. No condition.
-/
namespace Go.Proofs.YtkhhoamcnocjlaaGreatDoor
section
variable {P : Program} {ops : Array Oper} {C : World → Prop} {Q : Exit → Act → World → Prop} {md : Region.Mode} {hd : Nat → Bool}

def pickOps (ops : Array Oper) (is : List Nat) : List Oper := is.flatMap fun i => (ops[i]?).toList
theorem pickOps_cons {i : Nat} {is : List Nat} {o : Oper} (h : ops[i]? = some o) : pickOps ops (i :: is) = o :: pickOps ops is := by simp [pickOps, h]

/-- The rest of a region in a forced order. -/
def tailBP (md : Region.Mode) (ops : Array Oper) : List Nat → Array Bool → Bool
  | [], listed => (Region.ready md ops listed).isEmpty
  | k :: l, listed =>
    (ops[k]?).isSome && ((Region.ready md ops listed == [k]) || (((ops[k]?).map plainOp).getD false && (Region.ready md ops listed).contains k && Region.free md ops listed k)) &&
      tailBP md ops l (listed.setIfInBounds k true)

theorem wpAny_tailP (hsel : Region.noSelect ops = true) (hQ : Calm Q) : ∀ (l : List Nat) (listed : Array Bool) (a : Act) (w : World),
    tailBP md ops l listed = true → wpList P ops Q (pickOps ops l) a w → wpAny P md ops Q l.length listed a w
  | [], listed, a, w, hB, h => ⟨by simpa [tailBP] using hB, h⟩
  | k :: l, listed, a, w, hB, h => by
    simp only [tailBP, Bool.and_eq_true, Bool.or_eq_true] at hB
    obtain ⟨⟨hs, hB1⟩, hB'⟩ := hB
    obtain ⟨o, h0⟩ := Option.isSome_iff_exists.1 hs
    rw [pickOps_cons h0] at h
    rcases hB1 with hr | ⟨⟨hp, hc⟩, hf⟩
    · have hr' : Region.ready md ops listed = [k] := by simpa using hr
      refine wpAny_all hr' (by simp) fun i hi => ?_
      have : i = k := by simpa using hi
      subst this
      unfold wpOp
      simp only [h0]
      unfold wpList at h
      split
      · rename_i hw
        rw [if_pos hw] at h
        exact h.imp (Oper.wp_mono fun a' w' h' => wpAny_tailP hsel hQ l _ a' w' hB' h') id
      · rename_i hw
        rw [if_neg hw] at h
        exact wpAny_tailP hsel hQ l _ _ w hB' h
    · have hpl : plainOp o = true := by simpa [h0] using hp
      unfold wpList at h
      by_cases hw : Region.wanted o (yielded ops a.tmps) = true
      · rw [if_pos hw] at h
        rcases h with h | ⟨_, a', w', h⟩
        · rcases plainOp_run (P := P) hpl a.eval w with ⟨v, hv⟩ | ⟨s, hs⟩
          · unfold Oper.wp at h
            rw [hv w] at h
            exact wpAny_first h0 (Region.noSelect_spec hsel) (fun c a w h => (hQ.1 c _ w h).elim) l.length listed a w (Region.free_spec h0 hf) (by simpa using hc) (.inl ⟨hw, hv⟩)
              (wpAny_tailP hsel hQ l _ _ w hB' h)
          · unfold Oper.wp at h
            rw [hs] at h
            exact h.elim
        · exact (hQ.2 _ _ h).elim
      · rw [if_neg hw] at h
        exact wpAny_first h0 (Region.noSelect_spec hsel) (fun c a w h => (hQ.1 c _ w h).elim) l.length listed a w (Region.free_spec h0 hf) (by simpa using hc) (.inr ⟨by simpa using hw, rfl⟩)
          (wpAny_tailP hsel hQ l _ _ w hB' h)

/-- Operations that hand back a value or halt. -/
def flatOp (o : Oper) : Bool :=
  match o.op with
  | .move _ | .assign _ | .extract _ _ | .nilCheck _ | .fieldAddr _ _ _ => true
  | _ => false
theorem value_of_then {α : Type} {s : Result α} {f : α → Value} {n : Next} {w' : World} (h : (s.andThen fun x w => Result.ok (Next.value (f x)) w) = .ok n w') : ∃ u, n = .value u := by
  cases s with
  | ok x w1 => simp [Result.andThen] at h; exact ⟨_, h.1.symm⟩
  | halt c w1 => simp [Result.andThen] at h
theorem flatOp_value {o : Oper} (h : flatOp o = true) (ρ : Operand → Value) (w w' : World) (n : Next) (hr : (execOp ρ o).run P w = .ok n w') : ∃ u, n = .value u := by
  obtain ⟨dst, op, type, pos, after, guard⟩ := o
  unfold flatOp at h
  split at h
  · rename_i x heq; simp only at heq; subst heq; cases hr; exact ⟨_, rfl⟩
  · rename_i x heq; simp only at heq; subst heq; cases hr; exact ⟨_, rfl⟩
  · rename_i x i heq; simp only at heq; subst heq
    simp only [execOp, Sem.run_bind, Sem.run_pure] at hr
    exact value_of_then (f := id) hr
  · rename_i x heq; simp only at heq; subst heq
    simp only [execOp] at hr
    split at hr
    · cases hr
    · cases hr
    · cases hr
    · split at hr
      · cases hr
      · simp only [Sem.run_bind] at hr
        cases hb : Sem.run P program w with
        | halt c w1 => rw [hb] at hr; cases hr
        | ok p w1 =>
          rw [hb] at hr
          simp only [Result.andThen_ok] at hr
          generalize Sem.run P (nilAhead _ _ _ _) w1 = R at hr
          cases R with
          | halt c w2 => cases hr
          | ok b w2 =>
            simp only [Result.andThen_ok] at hr
            split at hr
            · cases hr
            · cases hr; exact ⟨_, rfl⟩
      · cases hr; exact ⟨_, rfl⟩
    · cases hr; exact ⟨_, rfl⟩
  · rename_i x y z heq; simp only at heq; subst heq
    simp only [execOp, Sem.run_bind, Sem.run_pure] at hr
    exact value_of_then (f := id) hr
  · cases h

theorem yields_of_flat {o : Oper} {v : Value} {a : Act} (hf : flatOp o = true) (hy : YieldsIn P ops (fun _ => True) o v a) : Yields P ops o v a := by
  rcases hy with ⟨hw, hv⟩ | ⟨hw, hv⟩
  · refine .inl ⟨hw, fun w => ?_⟩
    have h1 := hv w trivial
    unfold Oper.quietAt at h1
    cases hr : (execOp a.eval o).run P w with
    | halt c w' => rw [hr] at h1; exact h1.elim
    | ok n w' =>
      obtain ⟨u, rfl⟩ := flatOp_value hf _ _ _ _ hr
      rw [hr] at h1
      obtain ⟨h2, h3⟩ := h1
      rw [h2, h3]
  · exact .inr ⟨hw, hv⟩
/-- Operations that look at no world, then a forced order. -/
def tailGP (md : Region.Mode) (ops : Array Oper) (ts : List Nat) : List Nat → Array Bool → Bool
  | [], listed => tailBP md ops ts listed
  | k :: l, listed => (ops[k]?).isSome && (Region.ready md ops listed).contains k && Region.free md ops listed k && ((ops[k]?).map flatOp).getD false && tailGP md ops ts l (listed.setIfInBounds k true)
theorem wpAny_tailG (hsel : Region.noSelect ops = true) (hQ : Calm Q) (ts : List Nat) {w : World} : ∀ (l : List Nat) (listed : Array Bool) (a : Act), tailGP md ops ts l listed = true →
    wpQuiet P ops (fun _ => True) (fun a' => wpList P ops Q (pickOps ops ts) a' w) (pickOps ops l) a → wpAny P md ops Q (l.length + ts.length) listed a w
  | [], listed, a, hB, h => by
    simp only [List.length_nil, Nat.zero_add]
    exact wpAny_tailP hsel hQ ts listed a w hB h
  | k :: l, listed, a, hB, h => by
    simp only [tailGP, Bool.and_eq_true] at hB
    obtain ⟨⟨⟨⟨hs1, hr⟩, hf⟩, hfl⟩, hB'⟩ := hB
    obtain ⟨o, h0⟩ := Option.isSome_iff_exists.1 hs1
    rw [pickOps_cons h0] at h
    have hst : qOp P ops (fun _ => True) k (wpQuiet P ops (fun _ => True) (fun a' => wpList P ops Q (pickOps ops ts) a' w) (pickOps ops l)) a := by unfold qOp; simp only [h0]; exact h
    obtain ⟨v, hy, hK⟩ := yieldsIn_of_qOp h0 hst
    have hfl' : flatOp o = true := by simpa [h0] using hfl
    rw [List.length_cons, Nat.add_right_comm]
    exact wpAny_first h0 (Region.noSelect_spec hsel) (fun c a w h => (hQ.1 c _ w h).elim) _ listed a w (Region.free_spec h0 hf) (by simpa using hr) (yields_of_flat hfl' hy)
      (wpAny_tailG hsel hQ ts l _ _ hB' hK)

/-- Till one of the operations outside of the head has come up: the world is one of the class. -/
def wpAnyMP (P : Program) (md : Region.Mode) (ops : Array Oper) (C : World → Prop) (hd : Nat → Bool) (Q : Exit → Act → World → Prop) : Nat → Array Bool → Act → Prop
  | 0, listed, a => Region.ready md ops listed = [] ∧ ∀ w, C w → Q .normal a w
  | fuel + 1, listed, a =>
    (Region.ready md ops listed = [] → ∀ w, C w → Q .normal a w) ∧
    ∀ i ∈ Region.ready md ops listed,
      (hd i = true → qOp P ops C i (wpAnyMP P md ops C hd Q fuel (listed.setIfInBounds i true)) a) ∧
      (hd i = false → ∀ w, C w → wpOp P ops Q i (wpAny P md ops Q fuel (listed.setIfInBounds i true)) a w)

theorem wpAny_of_MP : ∀ (fuel : Nat) (listed : Array Bool) (a : Act) (w : World), C w → wpAnyMP P md ops C hd Q fuel listed a → wpAny P md ops Q fuel listed a w
  | 0, _, _, w, hw, h => ⟨h.1, h.2 w hw⟩
  | fuel + 1, _, _, w, hw, h => ⟨fun h0 => h.1 h0 w hw, fun i hi => by
      cases hin : hd i with
      | true => exact wpOp_of_qOp hw (fun a' w' hw' => wpAny_of_MP fuel _ a' w' hw') ((h.2 i hi).1 hin)
      | false => exact (h.2 i hi).2 hin w hw⟩

def waitsBP (md : Region.Mode) (ops : Array Oper) (hd : Nat → Bool) (k : Nat) (listed : Array Bool) (D : Nat → Bool) : Bool :=
  D k && (List.range ops.size).all fun j => (hd j || D j) && (!D j || (!listed.getD j true && (j == k || ((ops[j]?).map (·.after.any fun e => Region.binds md e && D e.on && decide (e.on < ops.size))).getD false)))
structure WaitsP (md : Region.Mode) (ops : Array Oper) (hd : Nat → Bool) (k : Nat) (D : Nat → Bool) : Prop where
  late : ∀ j, j < ops.size → hd j = false → D j = true
  back : ∀ j oj, ops[j]? = some oj → D j = true → j ≠ k → ∃ e ∈ oj.after, Region.binds md e = true ∧ D e.on = true ∧ e.on < ops.size

theorem wpAnyMP_first {k : Nat} {ok : Oper} {v : Value} {D : Nat → Bool} (hk : ops[k]? = some ok) (hkn : hd k = true) (hsel : ∀ (j : Nat) (o : Oper) cs b, ops[j]? = some o → o.op ≠ .select cs b) (hD : WaitsP md ops hd k D) :
    ∀ (fuel : Nat) (listed : Array Bool) (a : Act),
      (∀ j oj, ops[j]? = some oj → j ≠ k → listed.getD j true = false → (∀ e ∈ oj.after, Region.binds md e = true → e.on ≠ k) → ok.apart ops oj = true) →
      (∀ j, j < ops.size → D j = true → listed.getD j true = false) →
      k ∈ Region.ready md ops listed → YieldsIn P ops C ok v a →
      wpAnyMP P md ops C hd Q fuel (listed.setIfInBounds k true) (a.put ok.dst v) → wpAnyMP P md ops C hd Q (fuel + 1) listed a := by
  intro fuel
  induction fuel with
  | zero =>
    intro listed a _ _ hr hy H
    refine ⟨fun h => (by rw [h] at hr; cases hr), fun j hj => ?_⟩
    by_cases hjk : j = k
    · subst hjk; exact ⟨fun _ => hy.qOp hk H, fun h => by rw [hkn] at h; cases h⟩
    · have := ready_mono hj hjk
      rw [H.1] at this
      cases this
  | succ fuel ih =>
    intro listed a hfree hun hr hy H
    refine ⟨fun h => (by rw [h] at hr; cases hr), fun j hj => ?_⟩
    by_cases hjk : j = k
    · subst hjk; exact ⟨fun _ => hy.qOp hk H, fun h => by rw [hkn] at h; cases h⟩
    · obtain ⟨hjun, oj, hoj, hall⟩ := mem_ready.1 hj
      have hjs : j < ops.size := (Array.getElem?_eq_some_iff.1 hoj).1
      have hjD : D j ≠ true := fun hd => by
        obtain ⟨e, he, hb, hde, hes⟩ := hD.back j oj hoj hd hjk
        have h1 := hall e he hb
        have h0 := hun e.on hes hde
        rcases Nat.lt_or_ge e.on listed.size with h' | h'
        · simp [h'] at h0 h1; rw [h0] at h1; cases h1
        · simp [Array.getElem?_eq_none h'] at h1
      have hjn : hd j = true := by
        cases h : hd j with
        | true => rfl
        | false => exact absurd (hD.late j hjs h) hjD
      refine ⟨fun _ => ?_, fun h => by rw [hjn] at h; cases h⟩
      have h1 := (H.2 j (ready_mono hj hjk)).1 hjn
      have hnot : ∀ e ∈ oj.after, Region.binds md e = true → e.on ≠ k := fun e he hb heq => by
        have h1 := hall e he hb
        have h0 := (mem_ready.1 hr).1
        rw [heq] at h1
        rcases Nat.lt_or_ge k listed.size with h' | h'
        · simp [h'] at h0 h1; rw [h0] at h1; cases h1
        · simp [Array.getElem?_eq_none h'] at h1
      have h2 := qOp_put hoj (hfree j oj hoj hjk hjun hnot) (fun cs b => hsel k ok cs b hk) (fun cs b => hsel j oj cs b hoj) hy h1
      refine qOp_mono (fun a' h3 => ih (listed.setIfInBounds j true) a' ?_ ?_ (ready_mono hr (Ne.symm hjk)) h3.1 ?_) h2
      · intro i oi hi hik hiun hno
        refine hfree i oi hi hik ?_ hno
        by_cases hji : j = i
        · subst hji; exact hjun
        · rw [getD_set_ne true hji] at hiun; exact hiun
      · intro i his hd
        have : j ≠ i := fun e => hjD (e ▸ hd)
        rw [getD_set_ne true this]; exact hun i his hd
      · rw [Array.setIfInBounds_comm _ _ hjk]
        exact h3.2

def headBP (md : Region.Mode) (ops : Array Oper) (hd : Nat → Bool) (gs ts : List Nat) : List Nat → Array Bool → Bool
  | [], listed => ((List.range ops.size).all fun i => !hd i || listed.getD i false) && tailGP md ops ts gs listed
  | k :: l, listed =>
    (ops[k]?).isSome && hd k && (Region.ready md ops listed).contains k && Region.free md ops listed k && waitsBP md ops hd k listed (fun j => (desc md ops k).getD j false) && headBP md ops hd gs ts l (listed.setIfInBounds k true)

theorem wpAnyMP_head (hsel : Region.noSelect ops = true) (hQ : Calm Q) {w0 : World} (hw0 : C w0) (gs ts : List Nat) : ∀ (l : List Nat) (listed : Array Bool) (a : Act),
    headBP md ops hd gs ts l listed = true → wpQuiet P ops C (fun a' => ∀ w, C w → wpQuiet P ops (fun _ => True) (fun a3 => wpList P ops Q (pickOps ops ts) a3 w) (pickOps ops gs) a') (pickOps ops l) a → wpAnyMP P md ops C hd Q (l.length + (gs.length + ts.length)) listed a
  | [], listed, a, hB, h => by
    simp only [headBP, Bool.and_eq_true, List.all_eq_true, List.mem_range, Bool.or_eq_true, Bool.not_eq_true'] at hB
    obtain ⟨hli, ht⟩ := hB
    have key : ∀ w, C w → wpAny P md ops Q (gs.length + ts.length) listed a w := fun w hw => wpAny_tailG hsel hQ ts gs listed a ht (h w hw)
    simp only [List.length_nil, Nat.zero_add]
    cases hf : gs.length + ts.length with
    | zero => rw [hf] at key; exact ⟨(key w0 hw0).1, fun w hw => (key w hw).2⟩
    | succ f =>
      rw [hf] at key
      refine ⟨fun h0 w hw => (key w hw).1 h0, fun i hi => ⟨fun hik => ?_, fun _ w hw => (key w hw).2 i hi⟩⟩
      exfalso
      obtain ⟨hr, oj, hoj, _⟩ := mem_ready.1 hi
      have hs : i < ops.size := (Array.getElem?_eq_some_iff.1 hoj).1
      have h1 := (hli i hs).resolve_left (by rw [hik]; simp)
      rcases Nat.lt_or_ge i listed.size with h' | h'
      · simp [h'] at hr h1; rw [hr] at h1; cases h1
      · simp [Array.getElem?_eq_none h'] at h1
  | k :: l, listed, a, hB, h => by
    simp only [headBP, Bool.and_eq_true] at hB
    obtain ⟨⟨⟨⟨⟨hs, hkn⟩, hr⟩, hf⟩, hw⟩, hB'⟩ := hB
    obtain ⟨o, h0⟩ := Option.isSome_iff_exists.1 hs
    rw [pickOps_cons h0] at h
    have hst : qOp P ops C k (wpQuiet P ops C (fun a' => ∀ w, C w → wpQuiet P ops (fun _ => True) (fun a3 => wpList P ops Q (pickOps ops ts) a3 w) (pickOps ops gs) a') (pickOps ops l)) a := by unfold qOp; simp only [h0]; exact h
    obtain ⟨v, hy, hK⟩ := yieldsIn_of_qOp h0 hst
    have IH := wpAnyMP_head hsel hQ hw0 gs ts l (listed.setIfInBounds k true) (a.put o.dst v) hB' hK
    rw [List.length_cons, Nat.add_right_comm]
    simp only [waitsBP, Bool.and_eq_true, List.all_eq_true, List.mem_range] at hw
    obtain ⟨hDk, hall⟩ := hw
    refine wpAnyMP_first (D := fun j => (desc md ops k).getD j false) h0 hkn (Region.noSelect_spec hsel) ⟨fun j hj hnj => ?_, fun j oj hj hd hjk => ?_⟩ _ listed a (Region.free_spec h0 hf) (fun j hj hd => ?_) (by simpa using hr) hy IH
    · have := (hall j hj).1
      simp only [Bool.or_eq_true] at this
      exact this.resolve_left (by rw [hnj]; simp)
    · have h1 := (hall j (Array.getElem?_eq_some_iff.1 hj).1).2
      simp only [Bool.or_eq_true, Bool.not_eq_true', Bool.and_eq_true, beq_iff_eq, hj, Option.map_some, Option.getD_some] at h1
      rcases h1 with h1 | ⟨_, h1⟩
      · rw [h1] at hd; cases hd
      · obtain ⟨e, he, hb⟩ := Array.any_eq_true'.1 (h1.resolve_left hjk)
        simp only [Bool.and_eq_true, decide_eq_true_eq] at hb
        exact ⟨e, he, hb.1.1, hb.1.2, hb.2⟩
    · have h1 := (hall j hj).2
      simp only [Bool.or_eq_true, Bool.not_eq_true', Bool.and_eq_true] at h1
      rcases h1 with h1 | ⟨h1, _⟩
      · rw [h1] at hd; cases hd
      · exact h1

def flatBP (md : Region.Mode) (ops : Array Oper) (hd : Nat → Bool) (hs gs ts : List Nat) : List Nat → Array Bool → Bool
  | [], listed => headBP md ops hd gs ts hs listed
  | k :: l, listed => (ops[k]?).isSome && (Region.ready md ops listed).contains k && Region.free md ops listed k && ((ops[k]?).map flatOp).getD false && flatBP md ops hd hs gs ts l (listed.setIfInBounds k true)
theorem wpAny_flat (hsel : Region.noSelect ops = true) (hQ : Calm Q) (hs gs ts : List Nat) {w : World} (hw : C w) : ∀ (l : List Nat) (listed : Array Bool) (a : Act), flatBP md ops hd hs gs ts l listed = true →
    wpQuiet P ops (fun _ => True) (fun a1 => wpQuiet P ops C (fun a' => ∀ w, C w → wpQuiet P ops (fun _ => True) (fun a3 => wpList P ops Q (pickOps ops ts) a3 w) (pickOps ops gs) a') (pickOps ops hs) a1) (pickOps ops l) a → wpAny P md ops Q (l.length + (hs.length + (gs.length + ts.length))) listed a w
  | [], listed, a, hB, h => by
    simp only [List.length_nil, Nat.zero_add]
    exact wpAny_of_MP _ _ _ _ hw (wpAnyMP_head hsel hQ hw gs ts hs listed a hB h)
  | k :: l, listed, a, hB, h => by
    simp only [flatBP, Bool.and_eq_true] at hB
    obtain ⟨⟨⟨⟨hs1, hr⟩, hf⟩, hfl⟩, hB'⟩ := hB
    obtain ⟨o, h0⟩ := Option.isSome_iff_exists.1 hs1
    rw [pickOps_cons h0] at h
    have hst : qOp P ops (fun _ => True) k (wpQuiet P ops (fun _ => True) (fun a1 => wpQuiet P ops C (fun a' => ∀ w, C w → wpQuiet P ops (fun _ => True) (fun a3 => wpList P ops Q (pickOps ops ts) a3 w) (pickOps ops gs) a') (pickOps ops hs) a1) (pickOps ops l)) a := by unfold qOp; simp only [h0]; exact h
    obtain ⟨v, hy, hK⟩ := yieldsIn_of_qOp h0 hst
    have hfl' : flatOp o = true := by simpa [h0] using hfl
    rw [List.length_cons, Nat.add_right_comm]
    exact wpAny_first h0 (Region.noSelect_spec hsel) (fun c a w h => (hQ.1 c _ w h).elim) _ listed a w (Region.free_spec h0 hf) (by simpa using hr) (yields_of_flat hfl' hy)
      (wpAny_flat hsel hQ hs gs ts hw l _ _ hB' hK)

def hoistBP (ops : Array Oper) (fs hs gs ts : List Nat) : Bool := Region.noSelect ops && (fs.length + (hs.length + (gs.length + ts.length)) == ops.size) && flatBP .any ops (fun i => hs.contains i || fs.contains i) hs gs ts fs (Array.replicate ops.size false)

/-- THE LAW. -/
theorem wp_region_hoistP {id : Nat} {a : Act} {w : World} {l : List Oper} (fs hs gs ts : List Nat) (hm : P.follows .mixedOrders = true) (hB : hoistBP l.toArray fs hs gs ts = true) (hQ : Calm Q)
    (h : wpQuiet P l.toArray (fun _ => True) (fun a1 => wpQuiet P l.toArray (fun w' => ∃ k, w' = w.drewN k) (fun a' => ∀ w', (∃ k, w' = w.drewN k) → wpQuiet P l.toArray (fun _ => True) (fun a3 => wpList P l.toArray Q (pickOps l.toArray ts) a3 w') (pickOps l.toArray gs) a') (pickOps l.toArray hs) a1) (pickOps l.toArray fs) a) : (Code.region id l.toArray true).wp P Q a w := by
  simp only [hoistBP, Bool.and_eq_true, beq_iff_eq] at hB
  obtain ⟨⟨hsel, hn⟩, hh⟩ := hB
  refine wp_region_any hm ?_
  have hw0 : (fun w' => ∃ k, w' = w.drewN k) ({ w with drawn := w.drawn + 1 } : World) := ⟨1, rfl⟩
  have := wpAny_flat (C := fun w' => ∃ k, w' = w.drewN k) (md := .any) hsel hQ hs gs ts hw0 fs (Array.replicate l.toArray.size false) a hh h
  rw [hn] at this
  exact this

end
end Go.Proofs.YtkhhoamcnocjlaaGreatDoor

/-
The package's integers by their cells: SetBits, Sign, Bits, Set, Neg. No condition.
-/
namespace Go.Proofs.YtkhhoamcnocjlaaGreatDoor
open Go.RowKit

/-- A cell that holds a value and is not frozen. -/
def CellF (w : World) (b i : Nat) (v : Value) : Prop := w.cell? ⟨b, i, none⟩ = some v ∧ w.frozen? ⟨b, i, none⟩ = false
set_option maxRecDepth 100000 in
theorem intBits (b o : Nat) (v : Value) (w : World) (hv : w.cell? ⟨b, o + 1, none⟩ = some v) (_hS : IsS v) :
    Calls Tryz.prog 121 #[.pointer (some ⟨b, o, none⟩)] w fun e w' => e = .returned v ∧ w = w' := by
  go_enter Tryz.func121, Tryz.ntmps121
  go_wp2
  go_ret
  exact ⟨rfl, rfl⟩
theorem RI.drewN {k : IntKind} {w : World} {v : Value} {xs : List Int} (h : RI k w v xs) (n : Nat) : RI k (w.drewN n) v xs := ⟨h.isS, h.len, h.cell⟩
theorem RW.drewN {w : World} {v : Value} {ds : List Nat} (h : RW w v ds) (n : Nat) : RW (w.drewN n) v ds := ⟨h.ri.drewN n, h.lt⟩
def sgnI (neg : Bool) (l : Nat) : Int := if l = 0 then 0 else if neg then -1 else 1
set_option maxRecDepth 100000 in
theorem intSign (b o : Nat) (neg : Bool) (v : Value) (w : World) (hn : w.cell? ⟨b, o, none⟩ = some (.bool neg)) (hv : w.cell? ⟨b, o + 1, none⟩ = some v) (hS : IsS v) :
    Calls Tryz.prog 134 #[.pointer (some ⟨b, o, none⟩)] w fun e w' => e = .returned (.int .i64 (sgnI neg (sLen v))) ∧ w = w' := by
  obtain ⟨l, hl⟩ : ∃ l, sLen v = l := ⟨_, rfl⟩
  rw [hl]
  by_cases h0 : l = 0
  · subst h0
    go_enter Tryz.func134, Tryz.ntmps134
    go_wp2
    go_ret
    exact ⟨rfl, rfl⟩
  · have t1 : ((l : Int) == 0) = false := by rw [beq_eq_false_iff_ne]; omega
    have H0 := Lib.hid h0
    clear h0
    cases neg
    · have e : sgnI false l = 1 := by unfold sgnI; rw [if_neg H0.out]; rfl
      have E := Lib.hid e
      clear e
      go_enter Tryz.func134, Tryz.ntmps134
      go_wp2
      go_ret
      exact ⟨congrArg (fun z => Ending.returned (.int .i64 z)) E.out.symm, rfl⟩
    · have e : sgnI true l = -1 := by unfold sgnI; rw [if_neg H0.out]; rfl
      have E := Lib.hid e
      clear e
      go_enter Tryz.func134, Tryz.ntmps134
      go_wp2
      go_ret
      exact ⟨congrArg (fun z => Ending.returned (.int .i64 z)) E.out.symm, rfl⟩
set_option maxRecDepth 100000 in
theorem intSetBits (b o : Nat) (x0 x1 v : Value) (ws : List Nat) (w : World) (h0 : CellF w b o x0) (h1 : CellF w b (o + 1) x1) (hv : RW w v ws) (hl : ws.length ≤ 1000000000) :
    Calls Tryz.prog 93 #[.pointer (some ⟨b, o, none⟩), v] w fun e w' => e = .returned (.pointer (some ⟨b, o, none⟩)) ∧ w' = (w.setCell ⟨b, o + 1, none⟩ (subS v 0 (nw (wv ws)))).setCell ⟨b, o, none⟩ (.bool false) := by
  have hS := hv.isS
  have hL := hv.len
  obtain ⟨c0, f0⟩ := h0
  obtain ⟨c1, f1⟩ := h1
  have hnw := nw_le (wv_lt hv.lt)
  have hcap := hS.le
  have hS2 : IsS (subS v 0 (nw (wv ws))) := subS_isS hS (Nat.zero_le _) (by omega)
  go_enter Tryz.func93, Tryz.ntmps93
  go_wp2_with fail
  refine (norm_any v ws w hv hl).mono ?_
  rintro _ _ ⟨rfl, rfl⟩
  go_wp2
  go_ret
  exact ⟨rfl, rfl⟩
theorem run_neq_ptr_other {P : Program} (w : World) {tp te : TypeId} {j : TypeInfo} {a b : Addr} {ca cb : Array Value} {ta tb : TypeId} (hp : P.underlying tp = some (.pointer te)) (hte : P.info? te = some j) (hsz : j.size ≠ 0)
    (hne : a ≠ b) (ha : w.heap[a.block]? = some (.cells ca ta (0, 0))) (hb : w.heap[b.block]? = some (.cells cb tb (0, 0))) :
    (binOp .neq tp (.pointer (some a)) (.pointer (some b))).run P w = .ok (.bool true) w := by
  have h : ∀ d : Nat, (Op.equalIn (d + 1) tp (.pointer (some a)) (.pointer (some b))).run P w = .ok false w := fun d => by
    simp [Op.equalIn, run_underlying hp, sizeOf, typeInfo, hte, hsz, run_sameAddr_other w hne ha hb]
  simp only [binOp]
  simp [Op.equal, Op.maxDepth, h 9999]
theorem info_size {P : Program} {t n : Nat} (h : (P.info? t).map (·.size) = some n) : ∃ j, P.info? t = some j ∧ j.size = n := by
  cases hi : P.info? t with
  | none => rw [hi] at h; cases h
  | some i => rw [hi] at h; exact ⟨i, rfl, by simpa using h⟩
theorem sizeI : (Tryz.prog.info? 96).map (·.size) = some 2 := by kernel_rfl
theorem sizeR : (Tryz.prog.info? 98).map (·.size) = some 4 := by kernel_rfl
theorem neqI (w : World) {b o c q : Nat} {cb cc : Array Value} {tb tc : TypeId} (hne : b ≠ c) (hb : w.heap[b]? = some (.cells cb tb (0, 0))) (hc : w.heap[c]? = some (.cells cc tc (0, 0))) :
    (binOp .neq 100 (.pointer (some ⟨b, o, none⟩)) (.pointer (some ⟨c, q, none⟩))).run Tryz.prog w = .ok (.bool true) w := by
  obtain ⟨j, hj, hz⟩ := info_size sizeI
  exact run_neq_ptr_other w Tryz.underlying100 hj (by omega) (by simp) hb hc
theorem neqI_same (w : World) (a : Addr) : (binOp .neq 100 (.pointer (some a)) (.pointer (some a))).run Tryz.prog w = .ok (.bool false) w := by
  obtain ⟨j, hj, hz⟩ := info_size sizeI
  exact Lib.run_neq_ptr_same w a Tryz.underlying100 hj
theorem neqR (w : World) {b o c q : Nat} {cb cc : Array Value} {tb tc : TypeId} (hne : b ≠ c) (hb : w.heap[b]? = some (.cells cb tb (0, 0))) (hc : w.heap[c]? = some (.cells cc tc (0, 0))) :
    (binOp .neq 92 (.pointer (some ⟨b, o, none⟩)) (.pointer (some ⟨c, q, none⟩))).run Tryz.prog w = .ok (.bool true) w := by
  obtain ⟨j, hj, hz⟩ := info_size sizeR
  exact run_neq_ptr_other w Tryz.underlying92 hj (by omega) (by simp) hb hc
theorem row_at {w : World} {b i : Nat} {cs : Array Value} {T : TypeId} {v : Value} (h : w.heap[b]? = some (.cells cs T (0, 0))) (hv : cs[i]? = some v) : CellF w b i v :=
  ⟨by rw [cell_of_row w b i _ _ _ h]; exact hv, frozen_of_row w b i _ _ h⟩
set_option maxRecDepth 100000 in
theorem intSet (b o c q : Nat) (x0 v : Value) (neg : Bool) (cb cc : Array Value) (tb tc : TypeId) (ws : List Nat) (w : World) (hne : b ≠ c) (rb : w.heap[b]? = some (.cells cb tb (0, 0))) (rc : w.heap[c]? = some (.cells cc tc (0, 0)))
    (h0 : cb[o]? = some x0) (h1 : cb[o + 1]? = some (.slice none 0 0)) (hn : cc[q]? = some (.bool neg)) (hx : cc[q + 1]? = some v) (hv : RW w v ws) (hl : ws.length ≤ 1000000000) :
    Calls Tryz.prog 133 #[.pointer (some ⟨b, o, none⟩), .pointer (some ⟨c, q, none⟩)] w fun e w' => e = .returned (.pointer (some ⟨b, o, none⟩)) ∧ ∃ r w1, w' = (w1.setCell ⟨b, o + 1, none⟩ r).setCell ⟨b, o, none⟩ (.bool neg) ∧ Own w1 w.heap.size 147 r (cellsW ws) ∧ Below w.heap.size w w1 := by
  have hS := hv.isS
  obtain ⟨c0, f0⟩ := row_at rb h0
  obtain ⟨c1, f1⟩ := row_at rb h1
  obtain ⟨d0, -⟩ := row_at rc hn
  obtain ⟨d1, -⟩ := row_at rc hx
  have hcmp := neqI w (o := o) (q := q) hne rb rc
  have Hv := Lib.hid hv
  have RB := Lib.hid rb
  have RC := Lib.hid rc
  clear hv rb rc h0 h1 hn hx
  go_enter Tryz.func133, Tryz.ntmps133
  go_wp2
  (refine wp_region_hoist 9 (by kernel_rfl) (by kernel_rfl) ⟨fun _ _ _ h => (by first | exact (hQp _ _ _ h).elim | cases h.2.1 | (obtain ⟨_, h3, _⟩ := h.2; cases h3)), fun _ _ h => (by first | exact (hQo _ _ h).elim | cases h.1 | (obtain ⟨_, h3, _⟩ := h; cases h3))⟩ ?_; simp only [List.take_succ_cons, List.take_zero, List.drop_succ_cons, List.drop_zero]; (repeat (go_big_quiet_step (fail))); refine wpQuiet_nil ?_; rintro _ ⟨nq, rfl⟩)
  go_wp2_with fail
  refine (set_nil v ws _ (Hv.out.drewN _) hl).mono ?_
  rintro _ w1 ⟨r, rfl, ho, hb⟩
  have hSr := ho.isS
  have rb1 := keep_row hb RB.out
  have rc1 := keep_row hb RC.out
  have hb2 := undrewN hb
  have k0 := hb2.cell (p := ⟨b, o, none⟩) (World.block_lt_of_cell? w _ c0)
  have k1 := hb2.cell (p := ⟨b, o + 1, none⟩) (World.block_lt_of_cell? w _ c1)
  have k2 := hb2.cell (p := ⟨c, q, none⟩) (World.block_lt_of_cell? w _ d0)
  rw [c0] at k0
  rw [c1] at k1
  rw [d0] at k2
  have f0 := frozen_of_row w1 b o _ _ rb1
  have f1 := frozen_of_row w1 b (o + 1) _ _ rb1
  have hne' : ¬ b = c := hne
  have hne'' : ¬ c = b := fun h => hne h.symm
  have HO := Lib.hid ho
  clear rb1 rc1 hb ho
  go_wp2
  go_ret
  exact ⟨rfl, _, _, rfl, HO.out, hb2⟩
set_option maxRecDepth 100000 in
theorem intSet_same (a : Addr) (w : World) :
    Calls Tryz.prog 133 #[.pointer (some a), .pointer (some a)] w fun e w' => e = .returned (.pointer (some a)) ∧ w = w' := by
  have hcmp := neqI_same w a
  go_enter Tryz.func133, Tryz.ntmps133
  go_wp2
  go_ret
  exact ⟨rfl, rfl⟩
set_option maxRecDepth 100000 in
theorem intNeg_same (b o : Nat) (neg : Bool) (v : Value) (w : World) (h0 : CellF w b o (.bool neg)) (h1 : CellF w b (o + 1) v) (hS : IsS v) :
    Calls Tryz.prog 94 #[.pointer (some ⟨b, o, none⟩), .pointer (some ⟨b, o, none⟩)] w fun e w' => e = .returned (.pointer (some ⟨b, o, none⟩)) ∧ ∃ n, w' = (w.drewN n).setCell ⟨b, o, none⟩ (.bool (decide (0 < sLen v) && !neg)) := by
  obtain ⟨c0, f0⟩ := h0
  obtain ⟨c1, f1⟩ := h1
  obtain ⟨l, hl⟩ : ∃ l, sLen v = l := ⟨_, rfl⟩
  rw [hl]
  have hd : decide (0 < l) = true ∨ decide (0 < l) = false := by cases decide (0 < l) <;> simp
  rcases hd with t1 | t1
  all_goals
    rw [t1]
    go_enter Tryz.func94, Tryz.ntmps94
    go_wp2_with fail
    refine (intSet_same _ w).mono ?_
    rintro _ _ ⟨rfl, rfl⟩
    go_wp2
    go_ret
    exact ⟨rfl, 0, rfl⟩
end Go.Proofs.YtkhhoamcnocjlaaGreatDoor

/-
The thin package's integers: of, wordsOf, told. No condition.
-/
namespace Go.Proofs.YtkhhoamcnocjlaaGreatDoor
open Go.RowKit

theorem take_nw {ws : List Nat} (h : ∀ d ∈ ws, d < 18446744073709551616) : ws.take (nw (wv ws)) = wds (wv ws) := by
  have hl := nw_le (wv_lt h)
  refine list_ext_getD (by rw [wds_length]; simp; omega) fun i => ?_
  rw [wds_getD, wv_dig h]
  by_cases hi : i < nw (wv ws)
  · simp [List.getD_eq_getElem?_getD, hi]
  · have h1 := wv_dig h i
    rw [wdg_ge (by omega)] at h1
    rw [← h1, List.getD_eq_getElem?_getD, List.getElem?_eq_none (by simp; omega)]; rfl
theorem rowset {w : World} {g i : Nat} {cs : Array Value} {T : TypeId} (u : Value) (h : w.heap[g]? = some (.cells cs T (0, 0))) : (w.setCell ⟨g, i, none⟩ u).heap[g]? = some (.cells (cs.setIfInBounds i u) T (0, 0)) := heap_setCell_same w g i _ _ u h
theorem Own.ne_row {w : World} {B e g : Nat} {v : Value} {xs : List Value} {cs : Array Value} {T : TypeId} (h : Own w B e v xs) (hr : w.heap[g]? = some (.cells cs T (0, 0))) (hT : T ≠ e) (hc : 0 < sCap v) : sBlk v ≠ g := by
  rcases h.row with h0 | ⟨_, cur, hg, _⟩
  · omega
  · intro he
    rw [he, hr] at hg
    simp only [Option.some.injEq, Obj.cells.injEq] at hg
    exact hT hg.2.1
theorem Own.away {w : World} {B e g : Nat} {v : Value} {xs : List Value} {cs : Array Value} {T : TypeId} (h : Own w B e v xs) (hr : w.heap[g]? = some (.cells cs T (0, 0))) (hT : T ≠ e) (i : Nat) (u : Value) : Own (w.setCell ⟨g, i, none⟩ u) B e v xs :=
  h.same fun hc => heap_setCell_other _ _ _ _ (by simpa using h.ne_row hr hT hc)
theorem Own.below {w w' : World} {B e : Nat} {v : Value} {xs : List Value} (h : Own w B e v xs) (hb : Below w.heap.size w w') : Own w' B e v xs :=
  h.same fun hc => hb.block _ (h.lt hc).2
theorem Own.takeW {w : World} {B e : Nat} {v : Value} {ws : List Nat} (h : Own w B e v (cellsW ws)) (hd : ∀ d ∈ ws, d < 18446744073709551616) : Own w B e (subS v 0 (nw (wv ws))) (cellsW (wds (wv ws))) := by
  have hl := nw_le (wv_lt hd)
  have := h.sub (l := 0) (n := nw (wv ws)) (Nat.zero_le _) (by rw [cellsW_length]; exact hl)
  rw [List.drop_zero] at this
  rw [← take_nw hd, cellsW, List.map_take]
  exact this

/-- An integer at a block. -/
def IntP (w : World) (B b : Nat) (neg : Bool) (n : Nat) : Prop :=
  ∃ v, B ≤ b ∧ w.heap[b]? = some (.cells #[.bool neg, v] 96 (0, 0)) ∧ Own w B 147 v (cellsW (wds n))
theorem wds_all (n : Nat) : ∀ d ∈ wds n, d < 18446744073709551616 := fun _ h => wds_lt h
theorem IntP.below {w w' : World} {B b : Nat} {neg : Bool} {n : Nat} (h : IntP w B b neg n) (hb : Below w.heap.size w w') : IntP w' B b neg n := by
  obtain ⟨v, h1, h2, h3⟩ := h
  exact ⟨v, h1, keep_row hb h2, h3.below hb⟩
def OfW (ws : List Nat) (B k : Nat) (w : World) (v : Value) (wr : World) : Prop := Own wr B 147 v (cellsW (ws.take k)) ∧ Below B w wr
theorem OfW.step {ws : List Nat} {B k : Nat} {w w1 : World} {v1 : Value} (hk : k < ws.length) (h : Own w1 B 147 v1 (cellsW (ws.take k) ++ [.int .u64 ((ws.getD k 0 : Nat) : Int)])) (hb : Below B w w1) : OfW ws B (k + 1) w v1 w1 := by
  refine ⟨?_, hb⟩
  rw [cellsW_snoc] at h
  rw [List.take_succ_eq_append_getElem hk]
  simpa [List.getD_eq_getElem?_getD, List.getElem?_eq_getElem hk] using h
theorem and_pos {n : Nat} : (decide (0 < nw n) && !false) = decide (0 < n) := by
  rcases Nat.eq_zero_or_pos n with h | h
  · subst h; rfl
  · simp [h, nw_pos h]
theorem setBits_fresh {wr : World} {B : Nat} {u : Value} {ws : List Nat} (ho : Own wr B 147 u (cellsW ws)) (hd : ∀ d ∈ ws, d < 18446744073709551616) (hB : B ≤ wr.heap.size) :
    IntP (((wr.alloc (.cells #[.bool false, .slice none 0 0] 96)).setCell ⟨wr.heap.size, 0 + 1, none⟩ (subS u 0 (nw (wv ws)))).setCell ⟨wr.heap.size, 0, none⟩ (.bool false)) B wr.heap.size false (wv ws) ∧
    Below wr.heap.size wr (((wr.alloc (.cells #[.bool false, .slice none 0 0] 96)).setCell ⟨wr.heap.size, 0 + 1, none⟩ (subS u 0 (nw (wv ws)))).setCell ⟨wr.heap.size, 0, none⟩ (.bool false)) := by
  have r0 := box_row (Below.refl _ (wr.alloc (.cells #[.bool false, .slice none 0 0] 96)))
  have r1 := rowset (i := 0 + 1) (subS u 0 (nw (wv ws))) r0
  have r2 := rowset (i := 0) (.bool false) r1
  have o0 := (ho.alloc (.cells #[.bool false, .slice none 0 0] 96)).takeW hd
  have o1 := o0.away r0 (by decide) (0 + 1) (subS u 0 (nw (wv ws)))
  have o2 := o1.away r1 (by decide) 0 (.bool false)
  exact ⟨⟨_, hB, r2, o2⟩, bset (bset ((Below.refl _ _).alloc (Nat.le_refl _) _) (Nat.le_refl _)) (Nat.le_refl _)⟩
theorem IntP.setNeg {w : World} {B b n : Nat} {neg : Bool} (h : IntP w B b neg n) (k : Nat) (x : Bool) : IntP ((w.drewN k).setCell ⟨b, 0, none⟩ (.bool x)) B b x n := by
  obtain ⟨v, h1, h2, h3⟩ := h
  exact ⟨v, h1, rowset (i := 0) (.bool x) (w := w.drewN k) h2, (h3.drewN k).away (w := w.drewN k) h2 (by decide) 0 _⟩
theorem IntP.mono {w : World} {B B' b n : Nat} {neg : Bool} (h : IntP w B b neg n) (hB : B' ≤ B) : IntP w B' b neg n := by
  obtain ⟨v, h1, h2, h3⟩ := h
  exact ⟨v, Nat.le_trans hB h1, h2, h3.mono hB⟩
set_option maxRecDepth 100000 in
set_option maxHeartbeats 800000 in
theorem of_any (b : Bool) (v : Value) (ws : List Nat) (w : World) (hv : RW w v ws) (hl : ws.length ≤ 100000000) :
    Calls Tryz.prog 48 #[.agg #[.bool b, v]] w fun e w' => ∃ g, e = .returned (.pointer (some ⟨g, 0, none⟩)) ∧ IntP w' w.heap.size g (b && decide (0 < wv ws)) (wv ws) ∧ Below w.heap.size w w' := by
  have hSv := hv.isS
  have hLv := hv.len
  obtain ⟨la, hla⟩ : ∃ la, la = ws.length := ⟨_, rfl⟩
  rw [← hla] at hLv hl
  have Hla := Lib.hid hla
  have Hv := Lib.hid hv
  clear hla hv
  have hab := (Below.refl w.heap.size w).alloc (Nat.le_refl _) (.cells #[.bool b, v] 47)
  obtain ⟨W, hW⟩ : ∃ W, W = w.alloc (.cells #[.bool b, v] 47) := ⟨_, rfl⟩
  have hrow : W.heap[w.heap.size]? = some (.cells #[.bool b, v] 47 (0, 0)) := by rw [hW]; exact box_row (Below.refl _ _)
  rw [← hW] at hab
  have hWs : w.heap.size ≤ W.heap.size := hab.size
  have HR := Lib.hid hrow
  have HV := Lib.hid (Hv.out.below hab)
  have HW := Lib.hid hW
  clear hrow
  go_enter Tryz.func48, Tryz.ntmps48
  go_wp2
  rw [← hW]
  clear hW
  go_loopw [3, 10] (fun v i wr => ∃ k : Nat, k ≤ la ∧ i = .int .i64 k ∧ OfW ws W.heap.size k W v wr) (fun _ i _ => la - (intOf i).toNat)
  case atStart => exact ⟨0, Nat.zero_le _, rfl, Own.nil _ _ _, Below.refl _ _⟩
  case round =>
    obtain ⟨i, hi, rfl, hO, hbl⟩ := hrel
    have hbz := hbl.size
    have hSo : IsS u3 := hO.isS
    have HO := Lib.hid hO
    clear hO
    by_cases hia : i < la
    · have ca := (HV.out.below hbl).cell i (by rw [← Hla.out]; exact hia)
      obtain ⟨d, hd⟩ : ∃ d, d = ws.getD i 0 := ⟨_, rfl⟩
      rw [← hd] at ca
      have Hd := Lib.hid hd
      clear hd
      have hlk : (cellsW (ws.take i)).length = i := by rw [cellsW_length]; have := Hla.out; simp; omega
      have Hlk := Lib.hid hlk
      clear hlk
      go_wp2_with (at_builtin; refine wpList_append_O rfl _ _ _ _ rfl elemW W.heap.size _ _ rfl (HO.out.alloc _) _ rfl 1 [.int .u64 (d : Int)] (srcOne Tryz.underlying93 wr _ _) ?c3 ?c4 ?c5 ?_)
      case c3 => rw [Hlk.out]; unfold maxLen; omega
      case c4 => rw [Hlk.out]; omega
      case c5 => simp; omega
      rintro v1 w1 ho1 hb1 - - -
      have hs := OfW.step (by rw [← Hla.out]; exact hia) (by rw [← Hd.out]; exact ho1) ((hbl.alloc hbz _).trans hb1)
      have Hs := Lib.hid hs
      clear hs ho1
      go_wp2
      go_roundw
      case rel => exact ⟨i + 1, by omega, by go_num, Hs.out⟩
      case measure => simp [intOf]; omega
    · have hil : i = la := by omega
      have ca := hil
      subst hil
      have hfull : ws.take i = ws := List.take_of_length_le (by rw [Hla.out]; exact Nat.le_refl _)
      have ho := HO.out
      rw [hfull] at ho
      have Ho := Lib.hid ho
      have hrw := ho.rw' Hv.out.lt
      have Hrw := Lib.hid hrw
      have hrb := Lib.hid (keep_row hbl HR.out)
      have hfz := Lib.hid (box_row (Below.refl _ (wr.alloc (.cells #[.bool false, .slice none 0 0] 96))))
      clear hfull ho hrw
      go_wp2_with fail
      refine (intSetBits wr.heap.size 0 (.bool false) (.slice none 0 0) u3 ws _ (row_at hfz.out rfl) (row_at hfz.out rfl) (Hrw.out.below ((Below.refl _ _).alloc (Nat.le_refl _) _)) (by rw [← Hla.out]; omega)).mono ?_
      rintro _ w2 ⟨rfl, hw2⟩
      have hI := (setBits_fresh Ho.out Hv.out.lt hbz).1
      have hB2 := (setBits_fresh Ho.out Hv.out.lt hbz).2
      rw [← hw2] at hI hB2
      have HI := Lib.hid hI
      have HB2 := Lib.hid hB2
      obtain ⟨g, hg⟩ : ∃ g, g = wr.heap.size := ⟨_, rfl⟩
      rw [← hg] at HI hbz ⊢
      obtain ⟨v2, h21, h22, h23⟩ := HI.out
      have hS2 := h23.isS
      have hL2 : sLen v2 = nw (wv ws) := by rw [h23.len, cellsW_length, wds_length]
      have k0 := (row_at (i := 0) h22 rfl)
      have k1 := (row_at (i := 1) h22 rfl)
      have bx := (row_at (i := 0) (keep_row hB2 hrb.out) rfl).1
      have hBt := bthen hbl hB2
      have hBW := hab.trans (hBt.mono hWs)
      have HL2 := Lib.hid hL2
      clear hw2 hI hB2 hg h22 h23 hL2 ca
      cases b with
      | false =>
        go_wp2
        go_ret
        exact ⟨g, rfl, HI.out.mono hWs, hBW⟩
      | true =>
        go_wp2_with fail
        refine (intNeg_same g 0 false v2 w2 k0 k1 hS2).mono ?_
        rintro _ w3 ⟨rfl, nk, hw3⟩
        rw [HL2.out, and_pos] at hw3
        have h3 := HI.out.setNeg nk (decide (0 < wv ws))
        rw [← hw3] at h3
        have hBx : Below w.heap.size w w3 := by rw [hw3]; exact bset (undrewN' hBW) (Nat.le_trans hWs h21)
        have H3 := Lib.hid h3
        clear hw3 h3
        go_wp2
        go_ret
        exact ⟨g, rfl, H3.out.mono hWs, hBx⟩
end Go.Proofs.YtkhhoamcnocjlaaGreatDoor

/-
The thin package's integers: wordsOf, told. No condition.
-/
namespace Go.Proofs.YtkhhoamcnocjlaaGreatDoor
open Go.RowKit

def WoU (ws : List Nat) (B k : Nat) (w : World) (v : Value) (wr : World) : Prop := Own wr B 23 v (cellsW (ws.take k)) ∧ Below B w wr
theorem WoU.step {ws : List Nat} {B k : Nat} {w w1 : World} {v1 : Value} (hk : k < ws.length) (h : Own w1 B 23 v1 (cellsW (ws.take k) ++ [.int .u64 ((ws.getD k 0 : Nat) : Int)])) (hb : Below B w w1) : WoU ws B (k + 1) w v1 w1 := by
  refine ⟨?_, hb⟩
  rw [cellsW_snoc] at h
  rw [List.take_succ_eq_append_getElem hk]
  simpa [List.getD_eq_getElem?_getD, List.getElem?_eq_getElem hk] using h
set_option maxRecDepth 100000 in
set_option maxHeartbeats 800000 in
theorem wordsOf_any (b o : Nat) (v : Value) (ws : List Nat) (w : World) (hc : w.cell? ⟨b, o + 1, none⟩ = some v) (hv : RW w v ws) (hl : ws.length ≤ 100000000) :
    Calls Tryz.prog 79 #[.pointer (some ⟨b, o, none⟩)] w fun e w' => ∃ r, e = .returned r ∧ Own w' w.heap.size 23 r (cellsW ws) ∧ Below w.heap.size w w' := by
  have hSv := hv.isS
  have hLv := hv.len
  obtain ⟨la, hla⟩ : ∃ la, la = ws.length := ⟨_, rfl⟩
  rw [← hla] at hLv hl
  have Hla := Lib.hid hla
  have Hv := Lib.hid hv
  clear hla hv
  go_enter Tryz.func79, Tryz.ntmps79
  go_wp2_with fail
  refine (intBits b o v w hc hSv).mono ?_
  rintro _ _ ⟨rfl, rfl⟩
  go_wp2
  go_loopw [3, 9] (fun v i wr => ∃ k : Nat, k ≤ la ∧ i = .int .i64 k ∧ WoU ws w.heap.size k w v wr) (fun _ i _ => la - (intOf i).toNat)
  case atStart => exact ⟨0, Nat.zero_le _, rfl, Own.nil _ _ _, Below.refl _ _⟩
  case round =>
    obtain ⟨i, hi, rfl, hO, hbl⟩ := hrel
    have hbz := hbl.size
    have hSo : IsS u3 := hO.isS
    have HO := Lib.hid hO
    clear hO
    by_cases hia : i < la
    · have ca := (Hv.out.below hbl).cell i (by rw [← Hla.out]; exact hia)
      obtain ⟨d, hd⟩ : ∃ d, d = ws.getD i 0 := ⟨_, rfl⟩
      rw [← hd] at ca
      have Hd := Lib.hid hd
      clear hd
      have hlk : (cellsW (ws.take i)).length = i := by rw [cellsW_length]; have := Hla.out; simp; omega
      have Hlk := Lib.hid hlk
      clear hlk
      go_wp2_with (at_builtin; refine wpList_append_O rfl _ _ _ _ rfl elemU w.heap.size _ _ rfl (HO.out.alloc _) _ rfl 1 [.int .u64 (d : Int)] (srcOne Tryz.underlying24 wr _ _) ?c3 ?c4 ?c5 ?_)
      case c3 => rw [Hlk.out]; unfold maxLen; omega
      case c4 => rw [Hlk.out]; omega
      case c5 => simp; omega
      rintro v1 w1 ho1 hb1 - - -
      have hs := WoU.step (by rw [← Hla.out]; exact hia) (by rw [← Hd.out]; exact ho1) ((hbl.alloc hbz _).trans hb1)
      have Hs := Lib.hid hs
      clear hs ho1
      go_wp2
      go_roundw
      case rel => exact ⟨i + 1, by omega, by go_num, Hs.out⟩
      case measure => simp [intOf]; omega
    · have hil : i = la := by omega
      subst hil
      have hfull : ws.take i = ws := List.take_of_length_le (by rw [Hla.out]; exact Nat.le_refl _)
      have ho := HO.out
      rw [hfull] at ho
      have Ho := Lib.hid ho
      clear hfull ho
      go_wp2
      go_ret
      exact ⟨_, rfl, Ho.out, hbl⟩
theorem sgn_lt (neg : Bool) (n : Nat) : decide (sgnI neg (nw n) < 0) = (neg && decide (0 < n)) := by
  rcases Nat.eq_zero_or_pos n with h | h
  · subst h; cases neg <;> rfl
  · have := nw_pos h
    unfold sgnI
    rw [if_neg (by omega)]
    cases neg
    · rfl
    · simp [h]
set_option maxRecDepth 100000 in
theorem told_any (b o : Nat) (neg : Bool) (v : Value) (n : Nat) (w : World) (h0 : w.cell? ⟨b, o, none⟩ = some (.bool neg)) (hc : w.cell? ⟨b, o + 1, none⟩ = some v) (hv : RW w v (wds n)) (hl : nw n ≤ 100000000) :
    Calls Tryz.prog 99 #[.pointer (some ⟨b, o, none⟩)] w fun e w' => ∃ r, e = .returned (.agg #[.bool (neg && decide (0 < n)), r]) ∧ Own w' w.heap.size 23 r (cellsW (wds n)) ∧ Below w.heap.size w w' := by
  have hSv := hv.isS
  have hLv := hv.len
  rw [wds_length] at hLv
  have hlt := World.block_lt_of_cell? w _ hc
  have Hv := Lib.hid hv
  clear hv
  have hab := (Below.refl w.heap.size w).alloc (Nat.le_refl _) (.cells #[.bool false, .slice none 0 0] 47)
  have hrow0 := box_row (Below.refl _ (w.alloc (.cells #[.bool false, .slice none 0 0] 47)))
  obtain ⟨W, hW⟩ : ∃ W, W = w.alloc (.cells #[.bool false, .slice none 0 0] 47) := ⟨_, rfl⟩
  rw [← hW] at hab hrow0
  have h0' := (hab.cell (p := ⟨b, o, none⟩) hlt).trans h0
  have hc' := (hab.cell (p := ⟨b, o + 1, none⟩) hlt).trans hc
  have HR := Lib.hid hrow0
  have hWs := hab.size
  clear hrow0
  have t1 := sgn_lt neg n
  obtain ⟨x, hx⟩ : ∃ x, x = (neg && decide (0 < n)) := ⟨_, rfl⟩
  obtain ⟨z, hz⟩ : ∃ z, z = sgnI neg (nw n) := ⟨_, rfl⟩
  rw [← hx]
  rw [← hx, ← hz] at t1
  have hzb : -1 ≤ z ∧ z ≤ 1 := by rw [hz]; unfold sgnI; split <;> (try split) <;> omega
  obtain ⟨hz1, hz2⟩ := hzb
  have HZ := Lib.hid hz
  clear hx hz
  go_enter Tryz.func99, Tryz.ntmps99
  go_upto_region 1 with fail
  rw [← hW]
  clear hW
  go_wp2_with fail
  refine (intSign b o neg v W h0' hc' hSv).mono ?_
  rintro _ _ ⟨rfl, rfl⟩
  rw [hLv]
  have Z := HZ.out
  rw [← Z]
  clear Z h0 hc h0' hLv
  go_wp2_with fail
  refine (wordsOf_any b o v (wds n) W hc' (Hv.out.below hab) (by rw [wds_length]; exact hl)).mono ?_
  rintro _ w2 ⟨r, rfl, hr, hb2⟩
  have hSr := hr.isS
  have hrow2 := keep_row hb2 HR.out
  have k0 := row_at (i := 0) hrow2 rfl
  have k1 := row_at (i := 1) hrow2 rfl
  obtain ⟨k00, k01⟩ := k0
  obtain ⟨k10, k11⟩ := k1
  have q2 := rowset (i := 1) r (rowset (i := 0) (.bool x) hrow2)
  have e0 := (row_at (i := 0) q2 rfl).1
  have e1 := (row_at (i := 1) q2 rfl).1
  have o1 := ((hr.away hrow2 (by decide) 0 (.bool x)).away (rowset (i := 0) (.bool x) hrow2) (by decide) 1 r).mono hWs
  have b1 := bset (i := 1) (u := r) (bset (i := 0) (u := .bool x) (hab.trans (hb2.mono hWs)) (Nat.le_refl _)) (Nat.le_refl _)
  have O1 := Lib.hid o1
  have B1 := Lib.hid b1
  clear hr hrow2 q2 o1 b1
  go_wp2
  refine bodyPost_ret (v := .agg #[.bool x, r]) ?_ rfl ⟨r, rfl, O1.out, B1.out⟩
  simp [results, Tryz.results99, go_sem, e0, e1]
end Go.Proofs.YtkhhoamcnocjlaaGreatDoor

/-
The package's fractions: SetInt, Num, Denom; the thin package's rat, fraction. No condition.
-/
namespace Go.Proofs.YtkhhoamcnocjlaaGreatDoor
open Go.RowKit

/-- A fraction at a block. -/
def RatP (w : World) (B b : Nat) (neg : Bool) (n d : Nat) : Prop :=
  ∃ v1 v2, B ≤ b ∧ w.heap[b]? = some (.cells #[.bool neg, v1, .bool false, v2] 98 (0, 0)) ∧ Own w B 147 v1 (cellsW (wds n)) ∧ Own w B 147 v2 (cellsW (wds d))
theorem RatP.below {w w' : World} {B b : Nat} {neg : Bool} {n d : Nat} (h : RatP w B b neg n d) (hb : Below w.heap.size w w') : RatP w' B b neg n d := by
  obtain ⟨v1, v2, h1, h2, h3, h4⟩ := h
  exact ⟨v1, v2, h1, keep_row hb h2, h3.below hb, h4.below hb⟩
theorem RatP.drewN {w : World} {B b : Nat} {neg : Bool} {n d : Nat} (h : RatP w B b neg n d) (k : Nat) : RatP (w.drewN k) B b neg n d := by
  obtain ⟨v1, v2, h1, h2, h3, h4⟩ := h
  exact ⟨v1, v2, h1, h2, h3.drewN k, h4.drewN k⟩
theorem RatP.mono {w : World} {B B' b n d : Nat} {neg : Bool} (h : RatP w B b neg n d) (hB : B' ≤ B) : RatP w B' b neg n d := by
  obtain ⟨v1, v2, h1, h2, h3, h4⟩ := h
  exact ⟨v1, v2, Nat.le_trans hB h1, h2, h3.mono hB, h4.mono hB⟩
theorem wds_one : wds 1 = [1] := by decide
set_option maxRecDepth 100000 in
theorem ratNum (b : Nat) (w : World) :
    Calls Tryz.prog 100 #[.pointer (some ⟨b, 0, none⟩)] w fun e w' => e = .returned (.pointer (some ⟨b, 0, none⟩)) ∧ w = w' := by
  go_enter Tryz.func100, Tryz.ntmps100
  go_wp2
  go_ret
  exact ⟨rfl, rfl⟩
set_option maxRecDepth 100000 in
theorem ratDenom (b : Nat) (v : Value) (w : World) (hc : w.cell? ⟨b, 3, none⟩ = some v) (hS : IsS v) (hl : 0 < sLen v) :
    Calls Tryz.prog 101 #[.pointer (some ⟨b, 0, none⟩)] w fun e w' => e = .returned (.pointer (some ⟨b, 2, none⟩)) ∧ w = w' := by
  obtain ⟨l, hl'⟩ : ∃ l, sLen v = l := ⟨_, rfl⟩
  rw [hl'] at hl
  have t1 : ((l : Int) == 0) = false := by rw [beq_eq_false_iff_ne]; omega
  go_enter Tryz.func101, Tryz.ntmps101
  go_wp2
  go_ret
  exact ⟨rfl, rfl⟩
theorem IntP.lt {w : World} {B b n : Nat} {neg : Bool} (h : IntP w B b neg n) : b < w.heap.size := by
  obtain ⟨v, _, h2, _⟩ := h
  exact (heap_alloc_lt (o := .cells #[] 0) h2).2
set_option maxRecDepth 100000 in
set_option maxHeartbeats 800000 in
theorem ratSetInt (b c B : Nat) (neg : Bool) (n : Nat) (w : World) (hz : w.heap[b]? = some (.cells #[.bool false, .slice none 0 0, .bool false, .slice none 0 0] 98 (0, 0)))
    (hx : IntP w B c neg n) (hbc : b ≠ c) (hn : nw n ≤ 100000000) (hB : B ≤ b) :
    Calls Tryz.prog 107 #[.pointer (some ⟨b, 0, none⟩), .pointer (some ⟨c, 0, none⟩)] w fun e w' => e = .returned (.pointer (some ⟨b, 0, none⟩)) ∧ RatP w' B b neg n 1 ∧ Below B w w' := by
  obtain ⟨v, hc1, hrc, hov⟩ := hx
  have HZ := Lib.hid hz
  have HC := Lib.hid hrc
  have HV := Lib.hid (hov.rw' (wds_all n))
  have hbs : b < w.heap.size := (heap_alloc_lt (o := .cells #[] 0) hz).2
  clear hz hrc hov
  go_enter Tryz.func107, Tryz.ntmps107
  go_wp2_with fail
  refine (intSet b 0 c 0 (.bool false) v neg _ _ _ _ (wds n) w hbc HZ.out HC.out rfl rfl rfl rfl HV.out (by rw [wds_length]; omega)).mono ?_
  rintro _ w2 ⟨rfl, r, w1, hw2, ho1, hb1⟩
  have q1 := rowset (i := 0 + 1) r (keep_row hb1 HZ.out)
  have q2 := rowset (i := 0) (.bool neg) q1
  have o1 := ((ho1.away (keep_row hb1 HZ.out) (by decide) (0 + 1) r).away q1 (by decide) 0 (.bool neg)).mono (show B ≤ w.heap.size by omega)
  have bb := bset (i := 0) (u := .bool neg) (bset (i := 0 + 1) (u := r) (hb1.mono (show B ≤ w.heap.size by omega)) hB) hB
  rw [← hw2] at q2 o1 bb
  have Q2 := Lib.hid q2
  have O1 := Lib.hid o1
  have BB := Lib.hid bb
  have k3 := (row_at (i := 3) q2 rfl).1
  have hbs2 : b < w2.heap.size := (heap_alloc_lt (o := .cells #[] 0) q2).2
  clear hw2 q1 q2 o1 bb ho1 hb1
  go_wp2_with fail
  refine (setWord_nil 1 _ (by decide) (by decide)).mono ?_
  rintro _ w3 ⟨r2, rfl, ho3, hb3⟩
  have hS3 := ho3.isS
  have ho3' := ho3.mono (show B ≤ w2.heap.size by omega)
  have hb3' := hb3
  have q3 := keep_row hb3' Q2.out
  have m3 := row_at (i := 3) q3 rfl
  obtain ⟨m30, m31⟩ := m3
  have q4 := rowset (i := 3) r2 q3
  have o4 := (O1.out.below hb3').away q3 (by decide) 3 r2
  have o5 := ho3'.away q3 (by decide) 3 r2
  have bb4 := bset (i := 3) (u := r2) (BB.out.trans (hb3'.mono (show B ≤ w2.heap.size by omega))) hB
  have Q4 := Lib.hid q4
  have O4 := Lib.hid o4
  have O5 := Lib.hid o5
  have B4 := Lib.hid bb4
  clear hb3 hb3' ho3 ho3' q3 q4 o4 o5 bb4 k3
  go_wp2
  go_ret
  exact ⟨rfl, ⟨r, r2, hB, Q4.out, O4.out, by rw [wds_one]; exact O5.out⟩, B4.out⟩
end Go.Proofs.YtkhhoamcnocjlaaGreatDoor
