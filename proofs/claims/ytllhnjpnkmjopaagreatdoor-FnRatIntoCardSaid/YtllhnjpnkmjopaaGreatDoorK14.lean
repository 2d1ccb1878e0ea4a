/-
Texts of this proof, joined: RcA RcB SkB SkC SkD DdD DdE. No condition.
-/
import Derived.Test.YtllhnjpnkmjopaaGreatDoorK08
import Derived.Test.YtllhnjpnkmjopaaGreatDoorK10
import Derived.Test.YtllhnjpnkmjopaaGreatDoorK12
import Derived.Test.YtllhnjpnkmjopaaGreatDoorK13
namespace Go.Proofs.YtllhnjpnkmjopaaGreatDoor
open Go.RowKit

set_option maxRecDepth 100000 in
theorem nmul_e0 {pk : Option Addr} (x y : Value) (Y : Nat) (w : World) (hx : RW w x (wds 0)) (hy : RW w y (wds Y)) :
    Calls Tryz.prog 144 #[.slice none 0 0, .pointer pk, x, y] w fun e w' => e = .returned (.slice none 0 0) ∧ w = w' := by
  have hSx := hx.isS
  have hSy := hy.isS
  have hLx : sLen x = 0 := by rw [hx.len, wds_length]; decide
  obtain ⟨n, hn⟩ : ∃ n, n = nw Y := ⟨_, rfl⟩
  have hLy : sLen y = n := by rw [hy.len, wds_length, hn]
  have HR : Hid (0 < n → Calls Tryz.prog 144 #[.slice none 0 0, .pointer pk, y, x] w fun e w' => e = .returned (.slice none 0 0) ∧ w = w') := Lib.hid (fun h0 => by
    have t1 : decide ((n : Int) < 0) = false := decide_eq_false (by omega)
    have t2 : ((n : Int) == 0) = false := by rw [beq_eq_false_iff_ne]; omega
    clear hx hy hn
    go_enter Tryz.func144, Tryz.ntmps144
    go_wp2
    go_ret
    exact ⟨rfl, rfl⟩)
  clear hx hy hn
  rcases Nat.eq_zero_or_pos n with h0 | h0
  · subst h0
    go_enter Tryz.func144, Tryz.ntmps144
    go_wp2
    go_ret
    exact ⟨rfl, rfl⟩
  · have t1 : decide ((0 : Int) < (n : Int)) = true := decide_eq_true (by omega)
    have t1' : decide (0 < n) = true := decide_eq_true h0
    have HR2 := Lib.hid (HR.out h0)
    clear HR
    go_enter Tryz.func144, Tryz.ntmps144
    go_wp2_with fail
    refine HR2.out.mono ?_
    rintro _ _ ⟨rfl, rfl⟩
    go_wp2
    go_ret
    exact ⟨rfl, rfl⟩
theorem nmul_nz {pk : Option Addr} (x y : Value) (X Y : Nat) (w : World) (hx : RO w x (wds X)) (hy : RO w y (wds Y)) (hk : nw X < 40) (hl : nw X ≤ 100000000) (hl2 : nw Y ≤ 100000000) (hY : 0 < Y) (hK : KarW w) :
    Calls Tryz.prog 144 #[.slice none 0 0, .pointer pk, x, y] w fun e w' => ∃ r, e = .returned r ∧ Own w' w.heap.size 116 r (cellsW (wds (X * Y))) ∧ Below w.heap.size w w' ∧ (0 < sCap r ∨ r = .slice none 0 0) := by
  rcases Nat.eq_zero_or_pos X with h0 | h0
  · subst h0
    refine (nmul_e0 x y Y w hx.rw hy.rw).mono ?_
    rintro e _ ⟨h1, rfl⟩
    exact ⟨_, h1, by rw [Nat.zero_mul]; exact .nil _ _ _, Below.refl _ _, .inr rfl⟩
  · refine (nmul_any x y X Y w hx hy (.inl hk) hl hl2 hK).mono ?_
    rintro e w' ⟨r, h1, h2, h3⟩
    refine ⟨r, h1, h2, h3, .inl ?_⟩
    have a := h2.len
    have b := h2.isS.le
    rw [cellsW_length, wds_length] at a
    have := nw_pos (Nat.mul_pos h0 hY)
    omega
structure ScP (b : Nat) (neg : Bool) (N : Nat) (w w' : World) : Prop where
  row : ∃ r, w'.heap[b]? = some (.cells #[.bool neg, r] 110 (0, 0)) ∧ Own w' w.heap.size 116 r (cellsW (wds N)) ∧ (0 < sCap r ∨ r = .slice none 0 0)
  below : Below b w w'
  only : Only b w w'
set_option maxRecDepth 100000 in
set_option maxHeartbeats 1600000 in
theorem scale_any {pk : Option Addr} (b g : Nat) (neg : Bool) (v f : Value) (X Y : Nat) (cg : Array Value) (tg : TypeId) (w : World)
    (hb : w.heap[b]? = some (.cells #[.bool false, .slice none 0 0] 110 (0, 0))) (hg : w.heap[g]? = some (.cells cg tg (0, 0))) (h0 : cg[0]? = some (.bool neg)) (h1 : cg[1]? = some v) (hne : g ≠ b)
    (hx : RO w v (wds X)) (hy : RO w f (wds Y)) (hY : 0 < Y) (hk : nw X < 40) (hk2 : nw Y < 40) (hK : KarW w) :
    Calls Tryz.prog 122 #[.pointer (some ⟨b, 0, none⟩), .pointer pk, .pointer (some ⟨g, 0, none⟩), f] w fun e w' => e = .returned (.tuple #[]) ∧ ScP b neg (X * Y) w w' := by
  have hSf := hy.rw.isS
  have hSv := hx.rw.isS
  have hSn := IsS.nil
  obtain ⟨n, hn⟩ : ∃ n, n = nw Y := ⟨_, rfl⟩
  have hLf : sLen f = n := by rw [hy.rw.len, wds_length, hn]
  have hnp : 0 < n := by rw [hn]; exact nw_pos hY
  have t1 : ((n : Int) == 0) = false := by rw [beq_eq_false_iff_ne]; omega
  obtain ⟨c0, f0⟩ := row_at (i := 0) hb rfl
  obtain ⟨c1, f1⟩ := row_at (i := 1) hb rfl
  obtain ⟨d0, -⟩ := row_at (i := 0) hg h0
  obtain ⟨d1, -⟩ := row_at (i := 1) hg h1
  have hblt : b < w.heap.size := (heap_alloc_lt (o := .cells #[] 0) hb).2
  have HM : Hid (∀ W : World, Below w.heap.size w W → KarW W → Calls Tryz.prog 144 #[.slice none 0 0, .pointer pk, v, f] W fun e w' => ∃ r, e = .returned r ∧ Own w' W.heap.size 116 r (cellsW (wds (X * Y))) ∧ Below W.heap.size W w' ∧ (0 < sCap r ∨ r = .slice none 0 0)) :=
    Lib.hid (fun W hW hKW => nmul_nz v f X Y W (hx.below hW) (hy.below hW) hk (by omega) (by omega) hY hKW)
  have HB := Lib.hid hb
  have HG := Lib.hid hg
  have H0 := Lib.hid h0
  have HK := Lib.hid hK
  clear hx hy hb hg hn h1 h0 hK
  go_enter Tryz.func122, Tryz.ntmps122
  go_wp2_with fail
  (refine wp_region_hoist 11 (by kernel_rfl) (by kernel_rfl) ⟨fun _ _ _ h => (by first | exact (hQp _ _ _ h).elim | cases h.2.1 | (obtain ⟨_, h3, _⟩ := h.2; cases h3)), fun _ _ h => (by first | exact (hQo _ _ h).elim | cases h.1 | (obtain ⟨_, h3, _⟩ := h; cases h3))⟩ ?_; simp only [List.take_succ_cons, List.take_zero, List.drop_succ_cons, List.drop_zero]; (repeat (go_big_quiet_step (fail))); refine wpQuiet_nil ?_; rintro _ ⟨nq, rfl⟩)
  go_wp2_with fail
  refine (HM.out _ (undrewN' (Below.refl _ _)) (HK.out.drewN _)).mono ?_
  rintro _ w1 ⟨r, rfl, ho, hb1, hz⟩
  have HZ := Lib.hid hz
  clear hz
  have hSr := ho.isS
  have rb1 := keep_row hb1 HB.out
  have rg1 := keep_row hb1 HG.out
  have hb2 := undrewN hb1
  have k0 := (row_at (i := 0) rb1 rfl).1
  have k1 := (row_at (i := 1) rb1 rfl).1
  have k2 := (row_at (i := 0) rg1 H0.out).1
  have f0 := frozen_of_row w1 b 0 _ _ rb1
  have f1 := frozen_of_row w1 b 1 _ _ rb1
  have hne' : ¬ b = g := fun h => hne h.symm
  have r1 := rowset (i := 1) r rb1
  have r2 := rowset (i := 0) (.bool neg) r1
  have o1 := (ho.away rb1 (by decide) 1 r).away r1 (by decide) 0 (.bool neg)
  have Q : Hid (ScP b neg (X * Y) w ((w1.setCell ⟨b, 1, none⟩ r).setCell ⟨b, 0, none⟩ (.bool neg))) := Lib.hid ⟨⟨r, r2, o1, HZ.out⟩, bset (bset (hb2.mono (Nat.le_of_lt hblt)) (Nat.le_refl _)) (Nat.le_refl _), fun j hj hjb => by
    rw [heap_setCell_other _ _ _ _ (by simp only; omega), heap_setCell_other _ _ _ _ (by simp only; omega)]
    exact hb2.block j hj⟩
  clear ho hb1 rb1 rg1 r1 r2 o1
  go_wp2
  go_end0
  exact ⟨rfl, Q.out⟩
theorem run_eql_ptr_other {P : Program} (w : World) {tp te : TypeId} {j : TypeInfo} {a b : Addr} {ca cb : Array Value} {ta tb : TypeId} (hp : P.underlying tp = some (.pointer te)) (hte : P.info? te = some j) (hsz : j.size ≠ 0)
    (hne : a ≠ b) (ha : w.heap[a.block]? = some (.cells ca ta (0, 0))) (hb : w.heap[b.block]? = some (.cells cb tb (0, 0))) :
    (binOp .eql tp (.pointer (some a)) (.pointer (some b))).run P w = .ok (.bool false) w := by
  have h : ∀ d : Nat, (Op.equalIn (d + 1) tp (.pointer (some a)) (.pointer (some b))).run P w = .ok false w := fun d => by
    simp [Op.equalIn, run_underlying hp, sizeOf, typeInfo, hte, hsz, run_sameAddr_other w hne ha hb]
  simp only [binOp]
  simp [Op.equal, Op.maxDepth, h 9999]
theorem eqlI (w : World) {b o c q : Nat} {cb cc : Array Value} {tb tc : TypeId} (hne : b ≠ c) (hb : w.heap[b]? = some (.cells cb tb (0, 0))) (hc : w.heap[c]? = some (.cells cc tc (0, 0))) :
    (binOp .eql 114 (.pointer (some ⟨b, o, none⟩)) (.pointer (some ⟨c, q, none⟩))).run Tryz.prog w = .ok (.bool false) w := by
  obtain ⟨j, hj, hz⟩ := info_size sizeI
  exact run_eql_ptr_other w Tryz.underlying114 hj (by omega) (by simp) hb hc
def cmpS (m : Bool) (X : Nat) (n : Bool) (Y : Nat) : Int := if m = n then (if m then -cmpN X Y else cmpN X Y) else if m then -1 else 1
set_option maxRecDepth 100000 in
set_option maxHeartbeats 1600000 in
theorem intCmp (b c : Nat) (m n : Bool) (v u : Value) (X Y : Nat) (w : World) (hne : b ≠ c)
    (hb : w.heap[b]? = some (.cells #[.bool m, v] 110 (0, 0))) (hc : w.heap[c]? = some (.cells #[.bool n, u] 110 (0, 0)))
    (hv : RW w v (wds X)) (hu : RW w u (wds Y)) (hx : nw X ≤ 1000000) (hy : nw Y ≤ 1000000) :
    Calls Tryz.prog 163 #[.pointer (some ⟨b, 0, none⟩), .pointer (some ⟨c, 0, none⟩)] w fun e w' => e = .returned (.int .i64 (cmpS m X n Y)) ∧ ∃ k, w' = w.drewN k := by
  have hSv := hv.isS
  have hSu := hu.isS
  have heq := eqlI w (o := 0) (q := 0) hne hb hc
  obtain ⟨c0, -⟩ := row_at (i := 0) hb rfl
  obtain ⟨c1, -⟩ := row_at (i := 1) hb rfl
  obtain ⟨d0, -⟩ := row_at (i := 0) hc rfl
  obtain ⟨d1, -⟩ := row_at (i := 1) hc rfl
  obtain ⟨C, hC⟩ : ∃ C, C = cmpN X Y := ⟨_, rfl⟩
  have hCb := cmpN_bd X Y
  rw [← hC] at hCb
  obtain ⟨hC1, hC2⟩ := hCb
  have HM := Lib.hid (show ∀ W, (∃ k, W = w.drewN k) → Calls Tryz.prog 159 #[v, u] W fun e w' => e = .returned (.int .i64 C) ∧ ∃ k, w' = W.drewN k from fun W ⟨k, hk⟩ => by
    rw [hk, hC]; exact cmp_any v u X Y _ (hv.drewN k) (hu.drewN k) (by omega) (by omega))
  have E : cmpS m X n Y = if m = n then (if m then -C else C) else if m then -1 else 1 := by rw [hC]; rfl
  rw [E]
  clear hb hc hv hu hC E
  cases m <;> cases n
  · go_enter Tryz.func163, Tryz.ntmps163
    go_wp2
    go_quiet (fail)
    go_wp2_with fail
    (refine wp_region_hoist 8 (by kernel_rfl) (by kernel_rfl) ⟨fun _ _ _ h => (by first | exact (hQp _ _ _ h).elim | cases h.2.1 | (obtain ⟨_, h3, _⟩ := h.2; cases h3)), fun _ _ h => (by first | exact (hQo _ _ h).elim | cases h.1 | (obtain ⟨_, h3, _⟩ := h; cases h3))⟩ ?_; simp only [List.take_succ_cons, List.take_zero, List.drop_succ_cons, List.drop_zero]; (repeat (go_big_quiet_step (fail))); refine wpQuiet_nil ?_; rintro _ ⟨nq, rfl⟩)
    go_wp2_with fail
    refine (HM.out _ (by first | exact ⟨_, rfl⟩ | exact ⟨_, World.drewN_drewN _ _ _⟩)).mono ?_
    rintro _ _ ⟨rfl, k, rfl⟩
    go_wp2
    go_ret
    exact ⟨rfl, by first | exact ⟨_, rfl⟩ | simp⟩
  · go_enter Tryz.func163, Tryz.ntmps163
    go_wp2
    go_quiet (fail)
    go_wp2
    go_ret
    exact ⟨rfl, by first | exact ⟨_, rfl⟩ | simp⟩
  · go_enter Tryz.func163, Tryz.ntmps163
    go_wp2
    go_quiet (fail)
    go_wp2
    go_ret
    exact ⟨rfl, by first | exact ⟨_, rfl⟩ | simp⟩
  · go_enter Tryz.func163, Tryz.ntmps163
    go_wp2
    go_quiet (fail)
    go_wp2_with fail
    (refine wp_region_hoist 8 (by kernel_rfl) (by kernel_rfl) ⟨fun _ _ _ h => (by first | exact (hQp _ _ _ h).elim | cases h.2.1 | (obtain ⟨_, h3, _⟩ := h.2; cases h3)), fun _ _ h => (by first | exact (hQo _ _ h).elim | cases h.1 | (obtain ⟨_, h3, _⟩ := h; cases h3))⟩ ?_; simp only [List.take_succ_cons, List.take_zero, List.drop_succ_cons, List.drop_zero]; (repeat (go_big_quiet_step (fail))); refine wpQuiet_nil ?_; rintro _ ⟨nq, rfl⟩)
    go_wp2_with fail
    refine (HM.out _ (by first | exact ⟨_, rfl⟩ | exact ⟨_, World.drewN_drewN _ _ _⟩)).mono ?_
    rintro _ _ ⟨rfl, k, rfl⟩
    go_wp2
    go_ret
    exact ⟨rfl, by first | exact ⟨_, rfl⟩ | simp⟩
set_option maxRecDepth 100000 in
theorem getStack_any (w : World) :
    Calls Tryz.prog 120 #[] w fun e w' => e = .returned (.pointer (some ⟨w.heap.size, 0, none⟩)) ∧ w' = w.alloc (.cells #[.pointer none] 182) := by
  go_enter Tryz.func120, Tryz.ntmps120
  go_wp2
  go_ret
  exact ⟨rfl, rfl⟩
set_option maxRecDepth 100000 in
theorem free_d (b : Nat) (u : FrameMode) (w : World) (hb : w.cell? ⟨b, 0, none⟩ = some (.pointer none)) :
    CallsD Tryz.prog 121 #[.pointer (some ⟨b, 0, none⟩)] u w fun e u' w' => u' = u ∧ (e = .returned (.tuple #[]) ∧ w' = w) := by
  go_enter_d Tryz.func121, Tryz.ntmps121
  go_wp2
  go_end0
  exact ⟨rfl, rfl⟩
theorem i64_up4 {a : Nat} (ha : a < 4611686018427387904) : bits .andNot .i64 (a : Int) 3 = ((a / 4 * 4 : Nat) : Int) := by
  have h := andNot_clear (d := a) (t := 2) (by decide) (by omega)
  have h' : IntKind.u64.wrap (((BitVec.ofInt 64 (a : Int) &&& ~~~BitVec.ofInt 64 3).toNat : Nat) : Int) = ((a / 4 * 4 : Nat) : Int) := h
  have hlt := (BitVec.ofInt 64 (a : Int) &&& ~~~BitVec.ofInt 64 3).isLt
  show IntKind.i64.wrap (((BitVec.ofInt 64 (a : Int) &&& ~~~BitVec.ofInt 64 3).toNat : Nat) : Int) = _
  generalize (BitVec.ofInt 64 (a : Int) &&& ~~~BitVec.ofInt 64 3).toNat = N at *
  rw [IntKind.wrap_u64] at h'
  rw [IntKind.wrap_i64]
  omega
theorem Own.beside {w : World} {B : Nat} {e : TypeId} {y : Value} {ys : List Value} (h : Own w B e y ys) {i : Nat} (u : Value) (hi : sOff y + ys.length ≤ i) : Own (w.setCell ⟨sBlk y, i, none⟩ u) B e y ys := by
  refine ⟨h.isS, h.len, h.cap, ?_⟩
  rcases h.row with h0 | ⟨hb, cur, hg, hsz, ht⟩
  · exact .inl h0
  · refine .inr ⟨hb, _, heap_setCell_same w _ _ _ _ _ hg, by simpa using hsz, ?_⟩
    conv => rhs; rw [← ht]
    apply List.ext_getElem?
    intro k
    rw [Array.toList_setIfInBounds, List.getElem?_take, List.getElem?_take]
    split
    · rw [List.getElem?_drop, List.getElem?_drop, List.getElem?_set, if_neg (by omega)]
    · rfl
def subM (v : Value) (l h : Nat) : Value :=
  match v with
  | .slice a _ _ => sliced a l h h 1
  | v => v
theorem subM_eq {v : Value} {l h : Nat} (hv : IsS v) (hlh : l < h) (hc : h ≤ sCap v) : subM v l h = .slice (some ⟨sBlk v, sOff v + l, none⟩) (h - l) (h - l) := by
  have hv2 := hv.out (by omega)
  rw [hv2]
  simp only [subM, sliced, sBlk_mk, sOff_mk, if_neg (show ¬ h = l by omega), Option.map_some, Nat.mul_one, Addr.add_mk]
@[go_sem] theorem run_slice_S_lhm {P : Program} {w : World} (t : TypeId) (v : Value) (kl kh km : IntKind) (l h : Int) (hv : IsS v) (ht : P.underlying t = some (.slice (P.elem t))) (hsz : (sizeOf (P.elem t)).run P w = .ok 1 w) :
    (Instr.slice t v (some (.int kl l)) (some (.int kh h)) (some (.int km h))).run P w = if 0 ≤ l ∧ l ≤ h ∧ h ≤ sCap v then .ok (subM v l.toNat h.toNat) w else (Instr.slice t v (some (.int kl l)) (some (.int kh h)) (some (.int km h))).run P w := by
  split
  · rename_i hb
    match v, hv with
    | .slice a n c, hv => exact (run_slice_lhm (P := P) w t a n c ht kl kh km l h h hb.1 hb.2.1 (Int.le_refl _) hb.2.2).trans (by simp only [hsz, Result.andThen_ok]; rfl)
  · rfl
theorem Own.subM {w : World} {B : Nat} {e : TypeId} {v : Value} {xs : List Value} (h : Own w B e v xs) {l n : Nat} (h1 : l < n) (h2 : n ≤ xs.length) :
    Own w B e (subM v l n) ((xs.take n).drop l) := by
  have hl := h.len
  have hcap := h.isS.le
  have hc2 := h.cap
  rw [subM_eq h.isS h1 (by omega)]
  refine ⟨IsS.mk (Nat.le_refl _), by simp; omega, by rw [sCap_mk]; omega, ?_⟩
  rcases h.row with h0 | ⟨hb, cur, hg, hsz, ht⟩
  · omega
  · refine .inr ⟨hb, cur, hg, ?_, ?_⟩
    · show sOff v + l + (n - l) ≤ cur.size
      omega
    · show (cur.toList.drop (sOff v + l)).take _ = _
      have e1 : ((xs.take n).drop l).length = n - l := by simp; omega
      rw [e1]
      conv => rhs; rw [← ht]
      rw [List.take_take, List.drop_take, List.drop_drop, show min n xs.length = n by omega]
structure SiP (q n B L : Nat) (v x v' : Value) (w w' : World) : Prop where
  row : w'.heap[q]? = some (.cells #[v'] 204 (0, 0))
  own : ∃ ys : List Value, L ≤ ys.length ∧ ys.length ≤ L + n + 3 ∧ Own w' B 116 v' ys
  ownx : ∃ zs : List Value, zs.length = n ∧ Own w' B 116 x zs
  pos : sBlk x = sBlk v' ∧ sOff x = sOff v' + L ∧ sCap x = n ∧ L + n ≤ sLen v'
  at' : (sBlk v' = sBlk v ∧ sOff v' = sOff v ∧ 0 < sCap v) ∨ w.heap.size ≤ sBlk v'
  below : Below B w w'
  frame : ∀ k, k < w.heap.size → k ≠ q → (0 < sCap v → k ≠ sBlk v) → w'.heap[k]? = w.heap[k]?
  live : ∀ y ys, Own w B 116 y ys → (0 < sCap v → sBlk y = sBlk v → sOff y + sCap y ≤ sOff v + L) → Own w' B 116 y ys
set_option maxRecDepth 100000 in
set_option maxHeartbeats 1600000 in
theorem sinat_any (q n B L : Nat) (v : Value) (xs : List Value) (w : World) (hrow : w.heap[q]? = some (.cells #[v] 204 (0, 0))) (ho : Own w B 116 v xs) (hL : xs.length = L) (hB : B ≤ w.heap.size) (hBq : B ≤ q) (hn0 : 0 < n) (hn : n ≤ 1000000) (hl : L ≤ 1000000) :
    Calls Tryz.prog 211 #[.pointer (some ⟨q, 0, none⟩), .int .i64 n] w fun e w' => ∃ x v', e = .returned x ∧ SiP q n B L v x v' w w' := by
  have hS := ho.isS
  have hLv : sLen v = L := by rw [ho.len, hL]
  have hC := hS.le
  obtain ⟨m, hm⟩ : ∃ m, m = (n + 3) / 4 * 4 := ⟨_, rfl⟩
  have hm1 : n ≤ m ∧ m ≤ n + 3 := by omega
  have e1 : bits .andNot .i64 ((n : Int) + 3) 3 = (m : Int) := by rw [hm]; exact i64_up4 (a := n + 3) (by omega)
  obtain ⟨hm2, hm3⟩ := hm1
  obtain ⟨c0, f0⟩ := row_at (i := 0) hrow rfl
  have hql := get_lt hrow
  have HR := Lib.hid hrow
  have HO := Lib.hid ho
  have HL := Lib.hid hL
  have HB := Lib.hid hB
  have HGR := Lib.hid (growW_any v xs m B w ho (by omega) (by omega) hB)
  rw [hL] at HGR
  clear hrow ho hL hm hB
  go_enter Tryz.func211, Tryz.ntmps211
  go_wp2_with fail
  refine HGR.out.mono ?_
  rintro _ w1 ⟨r, rfl, hgr⟩
  obtain ⟨ys, hys, hor⟩ := hgr.own
  have hroom := hgr.room
  have hSr := hor.isS
  have hLr : sLen r = L := by rw [hor.len, hys]
  have hb1 : Below w.heap.size w w1 := by
    rcases hgr.how with ⟨rfl, -⟩ | ⟨-, -, h⟩
    · exact Below.refl _ _
    · exact h
  have rq1 := keep_row hb1 HR.out
  obtain ⟨c1, f1⟩ := row_at (i := 0) rq1 rfl
  have rq2 := rowset (i := 0) r rq1
  obtain ⟨zs, hzs, hoz⟩ := hor.grow (n := L + m) hroom
  have hSz := hoz.isS
  have hLz : sLen (subS r 0 (L + m)) = L + m := by rw [hoz.len, hzs]
  have hCz : sCap (subS r 0 (L + m)) = sCap r := subS_cap hSr
  have rq3 := rowset (i := 0) (subS r 0 (L + m)) rq2
  have hoz2 := ((hoz.away rq1 (by decide) 0 r).away rq2 (by decide) 0 (subS r 0 (L + m)))
  have hx := hoz2.subM (l := L) (n := L + n) (by omega) (by omega)
  have hxe := subM_eq (l := L) (h := L + n) hSz (by omega) (by omega)
  rw [(sub0 hSr).1, (sub0 hSr).2, Nat.add_sub_cancel_left] at hxe
  have hbk : sBlk (subM (subS r 0 (L + m)) L (L + n)) = sBlk r := by rw [hxe]; rfl
  have hof : sOff (subM (subS r 0 (L + m)) L (L + n)) = sOff r + L := by rw [hxe]; rfl
  have hcp : sCap (subM (subS r 0 (L + m)) L (L + n)) = n := by rw [hxe]; rfl
  have hln : sLen (subM (subS r 0 (L + m)) L (L + n)) = n := by rw [hxe]; simp
  obtain ⟨X, hX⟩ : ∃ X, subM (subS r 0 (L + m)) L (L + n) = X := ⟨_, rfl⟩
  rw [hX] at hx hbk hof hcp hln
  have hSx : IsS X := hx.isS
  have hxl : (((zs.take (L + n)).drop L)).length = n := by simp; omega
  obtain ⟨u0, hu0⟩ : ∃ u, ((zs.take (L + n)).drop L)[0]? = some u := ⟨_, List.getElem?_eq_getElem (by omega)⟩
  have cx := hx.cell hu0
  have hcx : 0 < sCap X := by omega
  have fx := hx.frozen hcx (sOff X)
  have hxs := hx.set (i := 0) (by omega) (.int .u64 1043915)
  have hBx := (hx.lt hcx).1
  rw [Nat.add_zero] at cx hxs
  have Q : Hid (SiP q n B L v X (subS r 0 (L + m)) w (((w1.setCell ⟨q, 0, none⟩ r).setCell ⟨q, 0, none⟩ (subS r 0 (L + m))).setCell ⟨sBlk X, sOff X, none⟩ (.int .u64 1043915))) := Lib.hid (by
    have hqr : q ≠ sBlk r := by
      intro he
      rcases hor.row with h0 | ⟨-, cur, hg, -⟩
      · omega
      · rw [← he, rq1] at hg
        have h5 := Option.some.inj hg
        injection h5 with h6 h7
        exact absurd h7 (by decide)
    have hb3 : Below B w (((w1.setCell ⟨q, 0, none⟩ r).setCell ⟨q, 0, none⟩ (subS r 0 (L + m))).setCell ⟨sBlk X, sOff X, none⟩ (.int .u64 1043915)) :=
      bset (bset (bset (hb1.mono HB.out) hBq) hBq) hBx
    refine ⟨?_, ⟨_, ?_, ?_, hoz2.set (i := L) (by omega) (.int .u64 1043915) |> fun h => by rw [(sub0 hSr).1, (sub0 hSr).2] at h; rw [hbk, hof]; exact h⟩, ⟨_, by rw [List.length_set]; exact hxl, hxs⟩, ⟨by rw [hbk, (sub0 hSr).1], by rw [hof, (sub0 hSr).2], hcp, by omega⟩, ?_, hb3, ?_, ?_⟩
    · rw [heap_setCell_other _ _ _ _ (by simp only; rw [hbk]; exact hqr)]; exact rq3
    · rw [List.length_set]; omega
    · rw [List.length_set]; omega
    · rw [(sub0 hSr).1, (sub0 hSr).2]
      rcases hgr.how with ⟨-, rfl⟩ | ⟨h, -, -⟩
      · exact .inl ⟨rfl, rfl, by omega⟩
      · exact .inr h
    · intro k hk hkq hkv
      have hkr : k ≠ sBlk r := by
        rcases hgr.how with ⟨-, rfl⟩ | ⟨h, -, -⟩
        · exact hkv (by omega)
        · omega
      rw [heap_setCell_other _ _ _ _ (by simp only; rw [hbk]; exact hkr), heap_setCell_other _ _ _ _ (by simp only; exact hkq), heap_setCell_other _ _ _ _ (by simp only; exact hkq)]
      exact hb1.block k hk
    · intro y ys' hy hlive
      have hy2 : Own ((w1.setCell ⟨q, 0, none⟩ r).setCell ⟨q, 0, none⟩ (subS r 0 (L + m))) B 116 y ys' := ((hy.below hb1).away rq1 (by decide) 0 r).away rq2 (by decide) 0 (subS r 0 (L + m))
      rw [hbk, hof]
      by_cases hyb : sBlk y = sBlk r
      · rw [← hyb]
        by_cases hyc0 : sCap y = 0
        · exact hy2.same fun h => by omega
        · refine hy2.beside _ ?_
          have hyl := hy.len
          have hyc := hy.isS.le
          rcases hgr.how with ⟨-, rfl⟩ | ⟨h, -, -⟩
          · have := hlive (by omega) hyb; omega
          · have := (hy.lt (by omega)).2; omega
      · exact hy2.same fun _ => heap_setCell_other _ _ _ _ (by simp only; exact hyb))
  clear hor hgr rq1 rq2 rq3 hoz hoz2 hx hu0 hxs hb1 hxe hxl hbk hof hcp
  go_wp2
  go_ret
  exact ⟨X, _, by rw [← hX]; rfl, Q.out⟩
def StO (w : World) (B s L : Nat) : Option (Nat × Value) → Prop
  | none => B ≤ s ∧ w.heap[s]? = some (.cells #[.pointer none] 182 (0, 0)) ∧ L = 0
  | some qv => B ≤ s ∧ B ≤ qv.1 ∧ w.heap[s]? = some (.cells #[.pointer (some ⟨qv.1, 0, none⟩)] 182 (0, 0)) ∧ w.heap[qv.1]? = some (.cells #[qv.2] 204 (0, 0)) ∧ ∃ xs : List Value, Own w B 116 qv.2 xs ∧ xs.length = L
def SBk (s : Nat) (o : Option (Nat × Value)) (k : Nat) : Prop := k = s ∨ ∃ qv, o = some qv ∧ (k = qv.1 ∨ (0 < sCap qv.2 ∧ k = sBlk qv.2))
def Cl (o : Option (Nat × Value)) (L : Nat) (y : Value) : Prop := ∀ qv, o = some qv → 0 < sCap qv.2 → 0 < sCap y → sBlk y = sBlk qv.2 → sOff y + sCap y ≤ sOff qv.2 + L
theorem StO.below {w w' : World} {B s L : Nat} {o : Option (Nat × Value)} (h : StO w B s L o) (hb : Below w.heap.size w w') : StO w' B s L o := by
  match o, h with
  | none, ⟨h0, h1, h2⟩ => exact ⟨h0, keep_row hb h1, h2⟩
  | some qv, ⟨h0, h1, h2, h3, xs, h4, h5⟩ => exact ⟨h0, h1, keep_row hb h2, keep_row hb h3, xs, h4.below hb, h5⟩
theorem StO.base {w : World} {B s L : Nat} {o : Option (Nat × Value)} (h : StO w B s L o) {k : Nat} (hk : SBk s o k) : B ≤ k ∧ k < w.heap.size := by
  match o, h with
  | none, ⟨h0, h1, h2⟩ =>
    rcases hk with rfl | ⟨_, h, _⟩
    · exact ⟨h0, get_lt h1⟩
    · cases h
  | some qv, ⟨h0, h1, h2, h3, xs, h4, h5⟩ =>
    rcases hk with rfl | ⟨_, h, h6 | ⟨h6, h7⟩⟩
    · exact ⟨h0, get_lt h2⟩
    · cases h; rw [h6]; exact ⟨h1, get_lt h3⟩
    · cases h; rw [h7]; exact h4.lt h6
set_option maxRecDepth 100000 in
theorem save_any (s B L : Nat) (o : Option (Nat × Value)) (w : World) (h : StO w B s L o) :
    Calls Tryz.prog 181 #[.pointer (some ⟨s, 0, none⟩)] w fun e w' => e = .returned (.int .i64 (L : Int)) ∧ w = w' := by
  match o, h with
  | none, ⟨h0, h1, h2⟩ =>
    subst h2
    obtain ⟨c0, -⟩ := row_at (i := 0) h1 rfl
    clear h1
    go_enter Tryz.func181, Tryz.ntmps181
    go_wp2
    go_ret
    exact ⟨rfl, rfl⟩
  | some (q, v), ⟨h0, h1, h2, h3, xs, h4, h5⟩ =>
    have c0 : w.cell? ⟨s, 0, none⟩ = some (.pointer (some ⟨q, 0, none⟩)) := (row_at (i := 0) h2 rfl).1
    have c1 : w.cell? ⟨q, 0, none⟩ = some v := (row_at (i := 0) h3 rfl).1
    have hS : IsS v := h4.isS
    have hL : sLen v = L := by rw [h4.len, h5]
    have HI : Hid (Calls Tryz.prog 209 #[.pointer (some ⟨q, 0, none⟩)] w fun e w' => e = .returned (.int .i64 (L : Int)) ∧ w = w') := Lib.hid (by
      clear h1 h2 h3 h4 h5 c0
      go_enter Tryz.func209, Tryz.ntmps209
      go_wp2
      go_ret
      exact ⟨rfl, rfl⟩)
    clear h1 h2 h3 h4 h5 c1 hL
    go_enter Tryz.func181, Tryz.ntmps181
    go_wp2_with fail
    refine HI.out.mono ?_
    rintro _ _ ⟨rfl, rfl⟩
    go_wp2
    go_ret
    exact ⟨rfl, rfl⟩
set_option maxRecDepth 100000 in
theorem restore_none (s n : Nat) (u : FrameMode) (w : World) (hs : w.heap[s]? = some (.cells #[.pointer none] 182 (0, 0))) :
    CallsD Tryz.prog 180 #[.pointer (some ⟨s, 0, none⟩), .int .i64 (n : Int)] u w fun e u' w' => u' = u ∧ (e = .returned (.tuple #[]) ∧ w' = w) := by
  obtain ⟨c0, -⟩ := row_at (i := 0) hs rfl
  clear hs
  go_enter_d Tryz.func180, Tryz.ntmps180
  go_wp2
  refine bodyPost_ret (results_none rfl _ _ _) rfl ?_
  exact ⟨rfl, rfl⟩
set_option maxRecDepth 100000 in
theorem restore_some (s q n : Nat) (v : Value) (u : FrameMode) (w : World) (hs : w.heap[s]? = some (.cells #[.pointer (some ⟨q, 0, none⟩)] 182 (0, 0))) (hq : w.heap[q]? = some (.cells #[v] 204 (0, 0))) (hv : IsS v) (hn : n ≤ sCap v) (_hn2 : n ≤ 100000000) :
    CallsD Tryz.prog 180 #[.pointer (some ⟨s, 0, none⟩), .int .i64 (n : Int)] u w fun e u' w' => u' = u ∧ (e = .returned (.tuple #[]) ∧ w' = w.setCell ⟨q, 0, none⟩ (subS v 0 n)) := by
  have c0 : w.cell? ⟨s, 0, none⟩ = some (.pointer (some ⟨q, 0, none⟩)) := (row_at (i := 0) hs rfl).1
  obtain ⟨c1, f1⟩ : w.cell? ⟨q, 0, none⟩ = some v ∧ w.frozen? ⟨q, 0, none⟩ = false := ⟨(row_at (i := 0) hq rfl).1, (row_at (i := 0) hq rfl).2⟩
  have hS0 : IsS (subS v 0 n) := subS_isS hv (Nat.zero_le _) hn
  have HI : Hid (Calls Tryz.prog 208 #[.pointer (some ⟨q, 0, none⟩), .int .i64 (n : Int)] w fun e w' => e = .returned (.tuple #[]) ∧ w' = w.setCell ⟨q, 0, none⟩ (subS v 0 n)) := Lib.hid (by
    clear hs hq c0
    go_enter Tryz.func208, Tryz.ntmps208
    go_wp2
    go_end0
    exact ⟨rfl, rfl⟩)
  clear hs hq c1 f1
  go_enter_d Tryz.func180, Tryz.ntmps180
  go_wp2_with fail
  refine HI.out.mono ?_
  rintro _ _ ⟨rfl, rfl⟩
  go_wp2
  go_end0
  exact ⟨rfl, rfl⟩
set_option maxRecDepth 100000 in
theorem free_some (s q : Nat) (v : Value) (u : FrameMode) (w : World) (hs : w.heap[s]? = some (.cells #[.pointer (some ⟨q, 0, none⟩)] 182 (0, 0))) (hq : w.heap[q]? = some (.cells #[v] 204 (0, 0))) (hv : IsS v) :
    CallsD Tryz.prog 121 #[.pointer (some ⟨s, 0, none⟩)] u w fun e u' w' => u' = u ∧ (e = .returned (.tuple #[]) ∧ w' = w.setCell ⟨q, 0, none⟩ (subS v 0 0)) := by
  have c0 : w.cell? ⟨s, 0, none⟩ = some (.pointer (some ⟨q, 0, none⟩)) := (row_at (i := 0) hs rfl).1
  obtain ⟨c1, f1⟩ : w.cell? ⟨q, 0, none⟩ = some v ∧ w.frozen? ⟨q, 0, none⟩ = false := ⟨(row_at (i := 0) hq rfl).1, (row_at (i := 0) hq rfl).2⟩
  have hS0 : IsS (subS v 0 0) := subS_isS hv (Nat.zero_le _) (Nat.zero_le _)
  have HI : Hid (Calls Tryz.prog 157 #[.pointer (some ⟨q, 0, none⟩)] w fun e w' => e = .returned (.tuple #[]) ∧ w' = w.setCell ⟨q, 0, none⟩ (subS v 0 0)) := Lib.hid (by
    clear hs hq c0
    go_enter Tryz.func157, Tryz.ntmps157
    go_wp2
    go_end0
    exact ⟨rfl, rfl⟩)
  clear hs hq c1 f1
  go_enter_d Tryz.func121, Tryz.ntmps121
  go_wp2_with fail
  refine HI.out.mono ?_
  rintro _ _ ⟨rfl, rfl⟩
  go_wp2
  go_end0
  exact ⟨rfl, rfl⟩
structure NtP (s n B L : Nat) (o : Option (Nat × Value)) (x : Value) (o' : Option (Nat × Value)) (L' : Nat) (w w' : World) : Prop where
  st : StO w' B s L' o'
  le : L ≤ L' ∧ L' ≤ L + n + 3
  sb : ∀ k, SBk s o' k → SBk s o k ∨ w.heap.size ≤ k
  own : ∃ zs : List Value, zs.length = n ∧ Own w' B 116 x zs
  cl : Cl o' L' x
  below : Below B w w'
  frame : ∀ k, k < w.heap.size → ¬ SBk s o k → w'.heap[k]? = w.heap[k]?
  live : ∀ y ys, Own w B 116 y ys → Cl o L y → Own w' B 116 y ys ∧ Cl o' L' y ∧ (0 < sCap y → sBlk x = sBlk y → sOff y + sCap y ≤ sOff x)
  at' : 0 < sCap x → SBk s o' (sBlk x) ∨ w.heap.size ≤ sBlk x
set_option maxRecDepth 100000 in
set_option maxHeartbeats 800000 in
theorem nat_some (s n B L q : Nat) (v : Value) (w : World) (h : StO w B s L (some (q, v))) (hB : B ≤ w.heap.size) (hn0 : 0 < n) (hn : n ≤ 1000000) (hl : L ≤ 1000000) :
    Calls Tryz.prog 182 #[.pointer (some ⟨s, 0, none⟩), .int .i64 n] w fun e w' => ∃ x o' L', e = .returned x ∧ NtP s n B L (some (q, v)) x o' L' w w' := by
  obtain ⟨h0, h1, h2, h3, xs, h4, h5⟩ := h
  simp only at h1 h2 h3 h4
  have c0 : w.cell? ⟨s, 0, none⟩ = some (.pointer (some ⟨q, 0, none⟩)) := (row_at (i := 0) h2 rfl).1
  have HS := Lib.hid (sinat_any q n B L v xs w h3 h4 h5 hB h1 hn0 hn hl)
  have HF : Hid (∀ x v' w', SiP q n B L v x v' w w' → NtP s n B L (some (q, v)) x (some (q, v')) (sLen v') w w') := Lib.hid (fun x v' w' p => by
    obtain ⟨ys, hy1, hy2, hyo⟩ := p.own
    have hlv : sLen v' = ys.length := hyo.len
    obtain ⟨p1, p2, p3, p4⟩ := p.pos
    have hsq : s ≠ q := fun he => by
      rw [he, h3] at h2
      have h7 := Option.some.inj h2
      injection h7 with _ h8
      exact absurd h8 (by decide)
    have hsv : 0 < sCap v → s ≠ sBlk v := fun hc he => by
      rcases h4.row with h | ⟨-, cur, hg, -⟩
      · omega
      · rw [← he, h2] at hg
        have h7 := Option.some.inj hg
        injection h7 with _ h8
        exact absurd h8 (by decide)
    have hrs : w'.heap[s]? = some (.cells #[.pointer (some ⟨q, 0, none⟩)] 182 (0, 0)) := (p.frame s (get_lt h2) hsq hsv).trans h2
    refine ⟨⟨h0, h1, hrs, p.row, ys, hyo, hlv.symm⟩, ⟨by omega, by omega⟩, ?_, p.ownx, ?_, p.below, ?_, ?_, fun _ => .inl (.inr ⟨_, rfl, .inr ⟨?_, p1⟩⟩)⟩
    · rintro k (rfl | ⟨qv, hqv, hk⟩)
      · exact .inl (.inl rfl)
      · cases hqv
        rcases hk with hk | ⟨hk1, hk2⟩
        · exact .inl (.inr ⟨_, rfl, .inl hk⟩)
        · rcases p.at' with ⟨a1, a2, a3⟩ | a1
          · exact .inl (.inr ⟨_, rfl, .inr ⟨a3, hk2.trans a1⟩⟩)
          · exact .inr (by rw [hk2]; exact a1)
    · rintro qv hqv - - -
      cases hqv
      simp only
      omega
    · intro k hk hnk
      exact p.frame k hk (fun he => hnk (.inr ⟨_, rfl, .inl he⟩)) (fun hc he => hnk (.inr ⟨_, rfl, .inr ⟨hc, he⟩⟩))
    · intro y ys' hy hcl
      have hcl' := hcl (q, v) rfl
      simp only at hcl'
      have hyc : 0 < sCap y → sBlk y = sBlk v' → sOff y + sCap y ≤ sOff v' + L := fun hc he => by
        rcases p.at' with ⟨a1, a2, a3⟩ | a1
        · rw [a2]; exact hcl' a3 hc (he.trans a1)
        · have := (hy.lt hc).2; omega
      by_cases hc0 : 0 < sCap y
      · refine ⟨p.live y ys' hy (fun a b => hcl' a hc0 b), ?_, fun hc he => ?_⟩
        · rintro qv hqv - hc he
          cases hqv
          have := hyc hc he
          simp only; omega
        · have := hyc hc (by rw [← he]; exact p1); omega
      · refine ⟨?_, fun _ _ _ h => absurd h hc0, fun h => absurd h hc0⟩
        refine ⟨hy.isS, hy.len, hy.cap, .inl (by omega)⟩
    · show 0 < sCap v'
      have := hyo.isS.le; omega)
  clear h2 h3 h4 h5
  go_enter Tryz.func182, Tryz.ntmps182
  go_wp2_with fail
  refine HS.out.mono ?_
  rintro _ w1 ⟨x, v', rfl, p⟩
  obtain ⟨zs, -, hzo⟩ := p.ownx
  have hSx := hzo.isS
  have Q := Lib.hid (HF.out x v' w1 p)
  clear p hzo
  go_wp2
  go_ret
  exact ⟨_, _, _, rfl, Q.out⟩
set_option maxRecDepth 100000 in
set_option maxHeartbeats 800000 in
theorem nat_small (s n B L : Nat) (w : World) (h : StO w B s L none) (hB : B ≤ w.heap.size) (hn0 : 0 < n) (hn : n ≤ 4) :
    Calls Tryz.prog 182 #[.pointer (some ⟨s, 0, none⟩), .int .i64 n] w fun e w' => ∃ x o' L', e = .returned x ∧ NtP s n B L none x o' L' w w' := by
  obtain ⟨h0, h1, h2⟩ := h
  have c0 : w.cell? ⟨s, 0, none⟩ = some (.pointer none) := (row_at (i := 0) h1 rfl).1
  have t1 : decide ((n : Int) ≤ 4) = true := decide_eq_true (by omega)
  have t2 : decide ((n : Int) > 0) = true := decide_eq_true (by omega)
  have t2' : decide (0 < n) = true := decide_eq_true hn0
  have HG := Lib.hid (growN_any (.slice none 0 0) [] n B w (Own.nil _ _ _) (by omega) (by simp) hB)
  have HR := Lib.hid h1
  have HL := Lib.hid h2
  clear h1 h2
  go_enter Tryz.func182, Tryz.ntmps182
  go_wp2_with fail
  refine HG.out.mono ?_
  rintro _ w1 ⟨r, rfl, hg⟩
  have hroom := hg.room
  simp only [List.length_nil, Nat.zero_add] at hroom
  obtain ⟨hbk, hb1⟩ : w.heap.size ≤ sBlk r ∧ Below w.heap.size w w1 := by
    rcases hg.how with ⟨-, rfl⟩ | ⟨a, -, b⟩
    · simp at hroom; omega
    · exact ⟨a, b⟩
  obtain ⟨ys, -, ho⟩ := hg.own
  have hSr := ho.isS
  obtain ⟨zs, hzs, hoz⟩ := ho.grow hroom
  have hSz := hoz.isS
  have hLz : sLen (subS r 0 n) = n := by rw [hoz.len, hzs]
  have hCz := hSz.le
  have hc0 : 0 < sCap (subS r 0 n) := by omega
  obtain ⟨u0, hu0⟩ : ∃ u, zs[0]? = some u := ⟨_, List.getElem?_eq_getElem (by omega)⟩
  have cx := hoz.cell hu0
  have fx := hoz.frozen hc0 (sOff (subS r 0 n))
  have hxs := hoz.set (i := 0) (by omega) (.int .u64 11259375)
  have hBx := (hoz.lt hc0).1
  rw [Nat.add_zero] at cx hxs
  have hbx : sBlk (subS r 0 n) = sBlk r := (sub0 hSr).1
  have Q : Hid (NtP s n B L none (subS r 0 n) none 0 w (w1.setCell ⟨sBlk (subS r 0 n), sOff (subS r 0 n), none⟩ (.int .u64 11259375))) := Lib.hid (by
    have hb2 : Below w.heap.size w (w1.setCell ⟨sBlk (subS r 0 n), sOff (subS r 0 n), none⟩ (.int .u64 11259375)) := bset hb1 (by rw [hbx]; exact hbk)
    refine ⟨⟨h0, keep_row hb2 HR.out, rfl⟩, ⟨by rw [HL.out]; exact Nat.le_refl _, by omega⟩, fun k hk => .inl hk, ⟨_, by rw [List.length_set]; exact hzs, hxs⟩, (fun _ h => by cases h), hb2.mono hB, fun k hk _ => hb2.block k hk, fun y ys hy _ => ⟨hy.below hb2, fun _ h => (by cases h), fun hc he => ?_⟩, fun _ => .inr (by rw [hbx]; exact hbk)⟩
    have := (hy.lt hc).2
    omega)
  clear hg ho hoz hu0 hxs hb1 hbk hbx
  go_wp2
  go_ret
  exact ⟨_, _, _, rfl, Q.out⟩
set_option maxRecDepth 100000 in
set_option maxHeartbeats 800000 in
theorem nat_big (s n B L : Nat) (w : World) (h : StO w B s L none) (hB : B ≤ w.heap.size) (hn0 : 4 < n) (hn : n ≤ 1000000) :
    Calls Tryz.prog 182 #[.pointer (some ⟨s, 0, none⟩), .int .i64 n] w fun e w' => ∃ x o' L', e = .returned x ∧ NtP s n B L none x o' L' w w' := by
  obtain ⟨h0, h1, h2⟩ := h
  have c0 : w.cell? ⟨s, 0, none⟩ = some (.pointer none) := (row_at (i := 0) h1 rfl).1
  have t1 : decide ((n : Int) ≤ 4) = false := decide_eq_false (by omega)
  have t1' : decide (n ≤ 4) = false := decide_eq_false (by omega)
  have hsl := get_lt h1
  obtain ⟨W, hW⟩ : ∃ W, W = (w.setCell ⟨s, 0, none⟩ (.pointer (some ⟨w.heap.size, 0, none⟩))).alloc (.cells #[.slice none 0 0] 204) := ⟨_, rfl⟩
  have hsz : (w.setCell ⟨s, 0, none⟩ (.pointer (some ⟨w.heap.size, 0, none⟩))).heap.size = w.heap.size := by simp [World.setCell]
  have hbA : Below w.heap.size (w.setCell ⟨s, 0, none⟩ (.pointer (some ⟨w.heap.size, 0, none⟩))) W := by rw [hW]; exact (Below.refl _ _).alloc (by omega) _
  have rs0 : (w.setCell ⟨s, 0, none⟩ (.pointer (some ⟨w.heap.size, 0, none⟩))).heap[s]? = some (.cells #[.pointer (some ⟨w.heap.size, 0, none⟩)] 182 (0, 0)) := rowset (i := 0) _ h1
  have rs : W.heap[s]? = some (.cells #[.pointer (some ⟨w.heap.size, 0, none⟩)] 182 (0, 0)) := (hbA.block s hsl).trans rs0
  have rq : W.heap[w.heap.size]? = some (.cells #[.slice none 0 0] 204 (0, 0)) := by
    have := heap_alloc_new (w.setCell ⟨s, 0, none⟩ (.pointer (some ⟨w.heap.size, 0, none⟩))) (.cells #[.slice none 0 0] 204)
    rw [hsz, ← hW] at this
    exact this
  have f0 : w.frozen? ⟨s, 0, none⟩ = false := (row_at (i := 0) h1 rfl).2
  have hWs : W.heap.size = w.heap.size + 1 := by rw [hW]; simp [World.setCell]
  have hbW : Below B w W := (bset (Below.refl _ _) h0).trans (hbA.mono hB)
  have hother : ∀ k, k < w.heap.size → k ≠ s → W.heap[k]? = w.heap[k]? := fun k hk hne =>
    (hbA.block k hk).trans (heap_setCell_other _ _ _ _ (by simp only; exact hne))
  have HS := Lib.hid (sinat_any w.heap.size n B 0 (.slice none 0 0) [] W rq (Own.nil _ _ _) rfl (by omega) hB (by omega) hn (by omega))
  have HF : Hid (∀ x v' w', SiP w.heap.size n B 0 (.slice none 0 0) x v' W w' → NtP s n B L none x (some (w.heap.size, v')) (sLen v') w w') := Lib.hid (fun x v' w' p => by
    obtain ⟨ys, hy1, hy2, hyo⟩ := p.own
    have hlv : sLen v' = ys.length := hyo.len
    obtain ⟨p1, p2, p3, p4⟩ := p.pos
    have hv' : W.heap.size ≤ sBlk v' := by
      rcases p.at' with ⟨-, -, h⟩ | h
      · simp at h
      · exact h
    have hn0' : 0 < sCap v' := by have := hyo.isS.le; omega
    have hrs : w'.heap[s]? = some (.cells #[.pointer (some ⟨w.heap.size, 0, none⟩)] 182 (0, 0)) := (p.frame s (by omega) (by omega) (fun h => by simp at h)).trans rs
    refine ⟨⟨h0, hB, hrs, p.row, ys, hyo, hlv.symm⟩, ⟨by omega, by omega⟩, ?_, p.ownx, ?_, hbW.trans p.below, ?_, ?_, fun _ => .inl (.inr ⟨_, rfl, .inr ⟨hn0', p1⟩⟩)⟩
    · rintro k (rfl | ⟨qv, hqv, hk⟩)
      · exact .inl (.inl rfl)
      · cases hqv
        rcases hk with hk | ⟨hk1, hk2⟩
        · exact .inr (by simp only at hk; omega)
        · exact .inr (by simp only at hk2; omega)
    · rintro qv hqv - - -
      cases hqv
      simp only
      omega
    · intro k hk hnk
      rw [p.frame k (by omega) (by omega) (fun h => by simp at h)]
      exact hother k hk (fun he => hnk (.inl he))
    · intro y ys' hy hcl
      by_cases hc0 : 0 < sCap y
      · have hyl := (hy.lt hc0).2
        have hys : sBlk y ≠ s := fun he => by
          rcases hy.row with h | ⟨-, cur, hg, -⟩
          · omega
          · rw [he, h1] at hg
            have h7 := Option.some.inj hg
            injection h7 with _ h8
            exact absurd h8 (by decide)
        have hyW : Own W B 116 y ys' := hy.same fun _ => hother _ hyl hys
        refine ⟨p.live y ys' hyW (fun h => by simp at h), ?_, fun hc he => by omega⟩
        rintro qv hqv - hc he
        cases hqv
        simp only at he
        omega
      · refine ⟨⟨hy.isS, hy.len, hy.cap, .inl (by omega)⟩, fun _ _ _ h => absurd h hc0, fun h => absurd h hc0⟩)
  clear h1 h2 rs0 rs rq hbA hbW hother hWs hsz
  go_enter Tryz.func182, Tryz.ntmps182
  go_upto_region 11 with fail
  rw [← hW]
  clear hW
  go_wp2_with fail
  refine HS.out.mono ?_
  rintro _ w1 ⟨x, v', rfl, p⟩
  obtain ⟨zs, -, hzo⟩ := p.ownx
  have hSx := hzo.isS
  have Q := Lib.hid (HF.out x v' w1 p)
  clear p hzo
  go_wp2
  go_ret
  exact ⟨_, _, _, rfl, Q.out⟩
theorem nat_any (s n B L : Nat) (o : Option (Nat × Value)) (w : World) (h : StO w B s L o) (hB : B ≤ w.heap.size) (hn0 : 0 < n) (hn : n ≤ 1000000) (hl : L ≤ 1000000) :
    Calls Tryz.prog 182 #[.pointer (some ⟨s, 0, none⟩), .int .i64 n] w fun e w' => ∃ x o' L', e = .returned x ∧ NtP s n B L o x o' L' w w' := by
  match o, h with
  | none, h =>
    by_cases h4 : n ≤ 4
    · exact nat_small s n B L w h hB hn0 h4
    · exact nat_big s n B L w h hB (by omega) hn
  | some (q, v), h => exact nat_some s n B L q v w h hB hn0 hn hl
theorem Own.frb {w w' : World} {B : Nat} {e : TypeId} {v : Value} {xs : List Value} {b lo hi : Nat} (h : Own w B e v xs) (f : FrB b lo hi w w') : ∃ ys : List Value, ys.length = xs.length ∧ Own w' B e v ys := by
  have hl := h.len
  have hcap := h.isS.le
  rcases h.row with h0 | ⟨hb, cur, hg, hsz, ht⟩
  · exact ⟨xs, rfl, h.isS, h.len, h.cap, .inl h0⟩
  · by_cases he : sBlk v = b
    · obtain ⟨c1, g1, g2, g3⟩ := f.row cur e (0, 0) (he ▸ hg)
      have hlen : ((c1.toList.drop (sOff v)).take xs.length).length = xs.length := by simp; omega
      exact ⟨(c1.toList.drop (sOff v)).take xs.length, hlen, h.isS, by omega, h.cap, .inr ⟨hb, c1, he ▸ g1, by omega, by rw [hlen]⟩⟩
    · exact ⟨xs, rfl, h.isS, h.len, h.cap, .inr ⟨hb, cur, (f.only _ (get_lt hg) he).trans hg, hsz, ht⟩⟩
theorem Own.frbx {w w' : World} {B : Nat} {e : TypeId} {v : Value} {xs : List Value} {b lo hi : Nat} (h : Own w B e v xs) (f : FrB b lo hi w w') (hn : sBlk v = b → sOff v + sCap v ≤ lo) : Own w' B e v xs := by
  have hl := h.len
  have hcap := h.isS.le
  refine ⟨h.isS, h.len, h.cap, ?_⟩
  rcases h.row with h0 | ⟨hb, cur, hg, hsz, ht⟩
  · exact .inl h0
  · by_cases he : sBlk v = b
    · obtain ⟨c1, g1, g2, g3⟩ := f.row cur e (0, 0) (he ▸ hg)
      refine .inr ⟨hb, c1, he ▸ g1, by omega, ?_⟩
      conv => rhs; rw [← ht]
      apply List.ext_getElem?
      intro i
      have hnn := hn he
      rw [List.getElem?_take, List.getElem?_take]
      split
      · rw [List.getElem?_drop, List.getElem?_drop, Array.getElem?_toList, Array.getElem?_toList, g3 _ (by omega)]
      · rfl
    · exact .inr ⟨hb, cur, (f.only _ (get_lt hg) he).trans hg, hsz, ht⟩
theorem StO.frb {w w' : World} {B s L b lo hi : Nat} {o : Option (Nat × Value)} (h : StO w B s L o) (f : FrB b lo hi w w') (hr : ∃ cur, w.heap[b]? = some (.cells cur 116 (0, 0))) : StO w' B s L o := by
  obtain ⟨cur, hr⟩ := hr
  have key : ∀ (k : Nat) (cs : Array Value) (T : TypeId), w.heap[k]? = some (.cells cs T (0, 0)) → T ≠ 116 → w'.heap[k]? = some (.cells cs T (0, 0)) := fun k cs T h1 hT => by
    have hne : k ≠ b := fun he => by
      rw [he, hr] at h1
      have h7 := Option.some.inj h1
      injection h7 with _ h8
      exact hT h8.symm
    exact (f.only k (get_lt h1) hne).trans h1
  match o, h with
  | none, ⟨h0, h1, h2⟩ => exact ⟨h0, key _ _ _ h1 (by decide), h2⟩
  | some qv, ⟨h0, h1, h2, h3, xs, h4, h5⟩ =>
    obtain ⟨ys, hy1, hy2⟩ := h4.frb f
    exact ⟨h0, h1, key _ _ _ h2 (by decide), key _ _ _ h3 (by decide), ys, hy2, hy1.trans h5⟩
theorem Own.rowOf {w : World} {B : Nat} {e : TypeId} {v : Value} {xs : List Value} (h : Own w B e v xs) (hc : 0 < sCap v) : ∃ cur, w.heap[sBlk v]? = some (.cells cur e (0, 0)) := by
  rcases h.row with h0 | ⟨-, cur, hg, -⟩
  · omega
  · exact ⟨cur, hg⟩
structure DbC (u q h v : Value) (n : Nat) : Prop where
  uq : sBlk u ≠ sBlk q
  uh : sBlk u ≠ sBlk h
  qh : sBlk q ≠ sBlk h
  vu : sBlk v ≠ sBlk u
  vq : sBlk v ≠ sBlk q
  vh : sBlk v = sBlk h → sOff v + n ≤ sOff h
structure Db (u q h v : Value) (Q V m n B s L : Nat) (o : Option (Nat × Value)) (us : List Nat) (J : Nat) (w wr : World) : Prop where
  ou : Own wr B 116 u (cellsW us)
  lu : us.length = m + n
  bu : ∀ d ∈ us, d < 18446744073709551616
  oq : ∃ qs : List Value, Own wr B 116 q qs ∧ qs.length = m ∧ ∀ k, J ≤ k → k < m → qs[k]? = some (.int .u64 ((wdg Q k : Nat) : Int))
  oh : ∃ hs : List Value, Own wr B 116 h hs ∧ hs.length = n + 1
  rv : RW wr v (wdsN V n)
  st : StO wr B s L o
  below : Below B w wr
  fr : ∀ k, k < w.heap.size → k ≠ sBlk u → k ≠ sBlk q → k ≠ sBlk h → wr.heap[k]? = w.heap[k]?
theorem Db.drewN {u q h v : Value} {Q V m n B s L J : Nat} {o : Option (Nat × Value)} {us : List Nat} {w wr : World} (d : Db u q h v Q V m n B s L o us J w wr) (k : Nat) : Db u q h v Q V m n B s L o us J w (wr.drewN k) := by
  obtain ⟨qs, q1, q2, q3⟩ := d.oq
  obtain ⟨hs, h1, h2⟩ := d.oh
  refine ⟨d.ou.drewN k, d.lu, d.bu, ⟨qs, q1.drewN k, q2, q3⟩, ⟨hs, h1.drewN k, h2⟩, d.rv.drewN k, ?_, undrewN' d.below, d.fr⟩
  match o, d.st with
  | none, h => exact h
  | some qv, ⟨a, b, c, e, xs, f, g⟩ => exact ⟨a, b, c, e, xs, f.drewN k, g⟩
theorem Db.inH {u q h v : Value} {Q V m n B s L J lo hi : Nat} {o : Option (Nat × Value)} {us : List Nat} {w wr w' : World} (C : DbC u q h v n) (d : Db u q h v Q V m n B s L o us J w wr) {hs : List Value}
    (ho : Own w' B 116 h hs) (hl : hs.length = n + 1) (hb : Below B wr w') (f : FrB (sBlk h) lo hi wr w') (hlo : sOff h ≤ lo) : Db u q h v Q V m n B s L o us J w w' := by
  obtain ⟨qs, q1, q2, q3⟩ := d.oq
  obtain ⟨hs0, h1, h2⟩ := d.oh
  have hc : 0 < sCap h := by have := h1.isS.le; have := h1.len; omega
  refine ⟨d.ou.frbx f (fun he => absurd he C.uh), d.lu, d.bu, ⟨qs, q1.frbx f (fun he => absurd he C.qh), q2, q3⟩, ⟨hs, ho, hl⟩, f.rw d.rv (fun he => .inl ?_), d.st.frb f (h1.rowOf hc), d.below.trans hb, fun k hk a b c => (f.only k (Nat.lt_of_lt_of_le hk d.below.size) c).trans (d.fr k hk a b c)⟩
  have := C.vh he
  rw [wdsN_length]; omega
theorem Db.inU {u q h v : Value} {Q V m n B s L J l r Z : Nat} {o : Option (Nat × Value)} {us : List Nat} {w wr w' : World} (C : DbC u q h v n) (d : Db u q h v Q V m n B s L o us J w wr) (hlr : l ≤ r) (hr : r ≤ m + n) (hp : 0 < m + n)
    (hv : VvP (subS u l r) (r - l) B Z wr w') :
    Db u q h v Q V m n B s L o (us.take l ++ (wdsN Z (r - l) ++ us.drop r)) J w w' ∧ (∀ hs, Own wr B 116 h hs → Own w' B 116 h hs) := by
  have hl := d.lu
  obtain ⟨g1, g2, g3⟩ := VvP.patch d.ou hlr (by rw [cellsW_length]; omega) hv
  rw [show (cellsW us).take l = cellsW (us.take l) by simp [cellsW, List.map_take], show (cellsW us).drop r = cellsW (us.drop r) by simp [cellsW, List.map_drop], cellsW_append, cellsW_append] at g1
  obtain ⟨qs, q1, q2, q3⟩ := d.oq
  obtain ⟨hs0, h1, h2⟩ := d.oh
  have hc : 0 < sCap u := by have := d.ou.isS.le; have := d.ou.len; rw [cellsW_length] at this; omega
  refine ⟨⟨g1, by simp [wdsN_length]; omega, ?_, ⟨qs, q1.frbx g3 (fun he => absurd he.symm C.uq), q2, q3⟩, ⟨hs0, h1.frbx g3 (fun he => absurd he.symm C.uh), h2⟩, g3.rw d.rv (fun he => absurd he C.vu), d.st.frb g3 (d.ou.rowOf hc), d.below.trans g2, fun k hk a b c => (g3.only k (Nat.lt_of_lt_of_le hk d.below.size) a).trans (d.fr k hk a b c)⟩, fun hs ho => ho.frbx g3 (fun he => absurd he.symm C.uh)⟩
  intro x hx
  rcases List.mem_append.1 hx with h | h
  · exact d.bu x (List.mem_of_mem_take h)
  · rcases List.mem_append.1 h with h | h
    · exact wdsN_lt x h
    · exact d.bu x (List.mem_of_mem_drop h)
theorem FrB.one (w : World) (b i : Nat) (u : Value) : FrB b i (i + 1) w (w.setCell ⟨b, i, none⟩ u) := (FrB.refl b i (i + 1) w).set (Nat.le_refl _) (Nat.lt_succ_self _) u
theorem Db.setU {u q h v : Value} {Q V m n B s L J i x : Nat} {o : Option (Nat × Value)} {us : List Nat} {w wr : World} (C : DbC u q h v n) (d : Db u q h v Q V m n B s L o us J w wr) (hi : i < m + n) (hx : x < 18446744073709551616) :
    Db u q h v Q V m n B s L o (us.set i x) J w (wr.setCell ⟨sBlk u, sOff u + i, none⟩ (.int .u64 (x : Int))) := by
  have hl := d.lu
  have hc : 0 < sCap u := by have := d.ou.isS.le; have := d.ou.len; rw [cellsW_length] at this; omega
  have g1 := d.ou.set (i := i) (by rw [cellsW_length]; omega) (.int .u64 (x : Int))
  rw [cellsW_set] at g1
  have g3 := FrB.one wr (sBlk u) (sOff u + i) (.int .u64 (x : Int))
  obtain ⟨qs, q1, q2, q3⟩ := d.oq
  obtain ⟨hs0, h1, h2⟩ := d.oh
  refine ⟨g1, by simpa using hl, ?_, ⟨qs, q1.frbx g3 (fun he => absurd he.symm C.uq), q2, q3⟩, ⟨hs0, h1.frbx g3 (fun he => absurd he.symm C.uh), h2⟩, g3.rw d.rv (fun he => absurd he C.vu), d.st.frb g3 (d.ou.rowOf hc), bset d.below (d.ou.lt hc).1, fun k hk a b c => (g3.only k (Nat.lt_of_lt_of_le hk d.below.size) a).trans (d.fr k hk a b c)⟩
  intro y hy
  rcases List.mem_or_eq_of_mem_set hy with h | h
  · exact d.bu y h
  · rw [h]; exact hx
theorem Db.setQ {u q h v : Value} {Q V m n B s L j : Nat} {o : Option (Nat × Value)} {us : List Nat} {w wr : World} (C : DbC u q h v n) (d : Db u q h v Q V m n B s L o us (j + 1) w wr) (hj : j < m) :
    Db u q h v Q V m n B s L o us j w (wr.setCell ⟨sBlk q, sOff q + j, none⟩ (.int .u64 ((wdg Q j : Nat) : Int))) := by
  obtain ⟨qs, q1, q2, q3⟩ := d.oq
  obtain ⟨hs0, h1, h2⟩ := d.oh
  have hc : 0 < sCap q := by have := q1.isS.le; have := q1.len; omega
  have g1 := q1.set (i := j) (by omega) (.int .u64 ((wdg Q j : Nat) : Int))
  have g3 := FrB.one wr (sBlk q) (sOff q + j) (.int .u64 ((wdg Q j : Nat) : Int))
  refine ⟨d.ou.frbx g3 (fun he => absurd he C.uq), d.lu, d.bu, ⟨_, g1, by simpa using q2, fun k hk hkm => ?_⟩, ⟨hs0, h1.frbx g3 (fun he => absurd he.symm C.qh), h2⟩, g3.rw d.rv (fun he => absurd he C.vq), d.st.frb g3 (q1.rowOf hc), bset d.below (q1.lt hc).1, fun k hk a b c => (g3.only k (Nat.lt_of_lt_of_le hk d.below.size) b).trans (d.fr k hk a b c)⟩
  rw [List.getElem?_set]
  by_cases he : j = k
  · rw [if_pos he, if_pos (by omega), he]
  · rw [if_neg he]; exact q3 k (by omega) hkm
theorem wtop {V k : Nat} (hV : V < 18446744073709551616 ^ (k + 1)) : V / 18446744073709551616 ^ k = wdg V k := by
  unfold wdg
  rw [Nat.mod_eq_of_lt (Nat.div_lt_of_lt_mul (by rw [← Nat.pow_succ]; exact hV))]
theorem dg_top {R V k : Nat} (hR : R < 18446744073709551616 * V) (hV : V < 18446744073709551616 ^ (k + 2)) : R < 18446744073709551616 ^ (k + 3) ∧ wdg R (k + 2) ≤ wdg V (k + 1) := by
  have h1 : R < 18446744073709551616 ^ (k + 3) := by
    rw [Nat.pow_succ, Nat.mul_comm]
    exact Nat.lt_of_lt_of_le hR (Nat.mul_le_mul_left _ (Nat.le_of_lt hV))
  refine ⟨h1, ?_⟩
  rw [← wtop h1, ← wtop hV, show 18446744073709551616 ^ (k + 2) = 18446744073709551616 * 18446744073709551616 ^ (k + 1) by rw [Nat.pow_succ 18446744073709551616 (k + 1), Nat.mul_comm], ← Nat.div_div_eq_div_mul]
  exact Nat.div_le_div_right (Nat.le_of_lt (Nat.div_lt_of_lt_mul hR))
theorem dg_guess {R V k qh rh : Nat} (hR : R < 18446744073709551616 ^ (k + 3)) (hV : V < 18446744073709551616 ^ (k + 2)) (hv1 : 0 < wdg V (k + 1)) (inv : qh * wdg V (k + 1) + rh = wdg R (k + 2) * 18446744073709551616 + wdg R (k + 1))
    (up : (wdg R (k + 2) * 18446744073709551616 + wdg R (k + 1)) * 18446744073709551616 + wdg R k < (qh + 1) * (wdg V (k + 1) * 18446744073709551616 + wdg V k)) (stop : qh * wdg V k ≤ rh * 18446744073709551616 + wdg R k) (hq : qh ≤ 18446744073709551616) :
    R / V ≤ qh ∧ qh ≤ R / V + 1 :=
  kd_guess (T := 18446744073709551616 ^ k) (wtop2 hV) (wtop3 hR) (Nat.mod_lt _ (wpow_pos k)) (Nat.mod_lt _ (wpow_pos k)) hv1 (by decide) inv up stop hq
theorem dg_max {R V k : Nat} (hR : R < 18446744073709551616 * V) (hV : V < 18446744073709551616 ^ (k + 2)) (he : wdg R (k + 2) = wdg V (k + 1)) (hv : 9223372036854775808 ≤ wdg V (k + 1)) (hVp : 0 < V) :
    R / V ≤ 18446744073709551615 ∧ 18446744073709551615 ≤ R / V + 1 := by
  have h3 := wtop3 (dg_top hR hV).1
  rw [he] at h3
  exact kd_max (b := 18446744073709551616) (T := 18446744073709551616 ^ k) (wtop2 hV) h3 (Nat.mod_lt _ (wpow_pos k)) (wdg_lt _ _) (by omega) hVp hR
theorem wdsN_succ (X n : Nat) : wdsN X (n + 1) = wdsN X n ++ [wdg X n] := by simp [wdsN, List.range_succ]
theorem list_fix {us : List Nat} {j n Z A L : Nat} (hl : j + n + 1 ≤ us.length) (hA : wdsN A n = wdsN L n) (hL : L < 18446744073709551616 ^ n) :
    ((us.take j ++ (wdsN Z (n + 1) ++ us.drop (j + n + 1))).take j ++ (wdsN A n ++ (us.take j ++ (wdsN Z (n + 1) ++ us.drop (j + n + 1))).drop (j + n))).set (j + n) 0 = us.take j ++ (wdsN L (n + 1) ++ us.drop (j + n + 1)) := by
  have l1 : (us.take j).length = j := by rw [List.length_take]; omega
  have e1 : (us.take j ++ (wdsN Z (n + 1) ++ us.drop (j + n + 1))).take j = us.take j := List.take_left' l1
  have e2 : (us.take j ++ (wdsN Z (n + 1) ++ us.drop (j + n + 1))).drop (j + n) = wdg Z n :: us.drop (j + n + 1) := by
    rw [← List.drop_drop, List.drop_left' l1, wdsN_succ, List.append_assoc, List.drop_left' (wdsN_length _ _)]; rfl
  rw [e1, e2, hA, List.set_append_right _ _ (by omega), l1, show j + n - j = n by omega, List.set_append_right _ _ (by rw [wdsN_length]; exact Nat.le_refl _), wdsN_length, Nat.sub_self, wdsN_succ, wdg_small hL (Nat.le_refl _), List.append_assoc]
  rfl
theorem round_words {U V m n j : Nat} (hV : 0 < V) (hVn : V ≤ 18446744073709551616 ^ n) (hj : j < m) :
    (wdsN (U % (V * 18446744073709551616 ^ (j + 1))) (m + n)).take j ++ (wdsN (U % (V * 18446744073709551616 ^ (j + 1)) / 18446744073709551616 ^ j % V) (n + 1) ++ (wdsN (U % (V * 18446744073709551616 ^ (j + 1))) (m + n)).drop (j + n + 1)) = wdsN (U % (V * 18446744073709551616 ^ j)) (m + n) := by
  have h1 : U % (V * 18446744073709551616 ^ (j + 1)) < 18446744073709551616 ^ (j + (n + 1)) := by
    refine Nat.lt_of_lt_of_le (Nat.mod_lt _ (Nat.mul_pos hV (wpow_pos _))) ?_
    rw [show j + (n + 1) = n + (j + 1) by omega, Nat.pow_add 18446744073709551616 n (j + 1)]
    exact Nat.mul_le_mul_right _ hVn
  have h2 : U % (V * 18446744073709551616 ^ (j + 1)) / 18446744073709551616 ^ j % V < 18446744073709551616 ^ (n + 1) :=
    Nat.lt_of_lt_of_le (Nat.mod_lt _ hV) (Nat.le_trans hVn (Nat.pow_le_pow_right (by decide) (Nat.le_succ n)))
  rw [(dd_step (U := U) (V := V) (j := j) hV).2.2]
  exact wdsN_patch (n := n + 1) (by omega) h1 h2
theorem q_lt {u2 u1 v1 : Nat} (h : u2 < v1) (h1 : u1 < 18446744073709551616) : (u2 * 18446744073709551616 + u1) / v1 < 18446744073709551616 := by
  refine Nat.div_lt_of_lt_mul ?_
  have := Nat.mul_le_mul_right 18446744073709551616 (Nat.succ_le_of_lt h)
  rw [Nat.succ_mul] at this
  omega
theorem q_zero {u2 u1 v1 : Nat} (h0 : u2 = 0) (h : u1 < v1) : (u2 * 18446744073709551616 + u1) / v1 = 0 := by
  rw [h0, Nat.zero_mul, Nat.zero_add]; exact Nat.div_eq_of_lt h
theorem q_over {b qq v2 x u0 : Nat} (hq : qq ≤ b) (hv : v2 ≤ b) (h : b ≤ x) : qq * v2 ≤ x * b + u0 :=
  Nat.le_trans (Nat.mul_le_mul (Nat.le_trans hq h) hv) (Nat.le_add_right _ _)
theorem q_borrow {b z y2 v2 P Q : Nat} (h3 : z * b + b + y2 = P) (e1 : P = Q + v2) (_h : y2 < v2) (hv : v2 ≤ b) : (z + 1 - 1) * b + (y2 + b - v2) = Q := by
  rw [Nat.add_sub_cancel]
  generalize z * b = t at *
  omega
theorem q_hi {b x y : Nat} (hx : x < b) (hy : y < b) : x * y / b < b := Nat.div_lt_of_lt_mul (Nat.mul_lt_mul'' hx hy)
theorem q_step {qq rr v1 v2 y1 y2 u0 N2 : Nat} (h1 : (qq + 1) * v1 + rr = N2) (h3 : y1 * 18446744073709551616 + y2 = (qq + 1) * v2) (_h4 : y2 < 18446744073709551616) (hv2 : v2 < 18446744073709551616) (_hr : rr < 18446744073709551616) (_hv1 : v1 < 18446744073709551616) (_hv1p : 0 < v1) (hq : qq + 1 < 18446744073709551616)
    (go : rr * 18446744073709551616 + u0 < (qq + 1) * v2) :
    qq * v1 + (rr + v1) = N2 ∧ N2 * 18446744073709551616 + u0 < (qq + 1) * (v1 * 18446744073709551616 + v2) ∧
    (18446744073709551616 ≤ rr + v1 → qq * v2 ≤ (rr + v1) * 18446744073709551616 + u0) ∧
    (v2 ≤ y2 → y1 * 18446744073709551616 + (y2 - v2) = qq * v2) ∧ (y2 < v2 → 0 < y1 ∧ (y1 - 1) * 18446744073709551616 + (y2 + 18446744073709551616 - v2) = qq * v2) := by
  obtain ⟨k1, k2⟩ := kd_step h1 go
  have e1 : (qq + 1) * v2 = qq * v2 + v2 := by rw [Nat.add_mul, Nat.one_mul]
  refine ⟨k2, k1, fun h => ?_, fun h => by omega, fun h => ?_⟩
  · exact q_over (Nat.le_of_lt (by omega)) (Nat.le_of_lt hv2) h
  · have hy : 0 < y1 := by
      rcases Nat.eq_zero_or_pos y1 with h0 | h0
      · subst h0; omega
      · exact h0
    refine ⟨hy, ?_⟩
    obtain ⟨z, rfl⟩ : ∃ z, y1 = z + 1 := ⟨y1 - 1, by omega⟩
    rw [Nat.add_mul, Nat.one_mul] at h3
    exact q_borrow h3 e1 h (Nat.le_of_lt hv2)
end Go.Proofs.YtllhnjpnkmjopaaGreatDoor
