/-
Texts of this proof, joined: InD InE Shelf BiA. No condition.
-/
import Derived.Test.YtoddjkpckpekcaaGreatDoorK01
import Derived.Test.YtoddjkpckpekcaaGreatDoorK04
import Derived.Test.YtoddjkpckpekcaaGreatDoorK05
import Derived.Test.YtoddjkpckpekcaaGreatDoorK06
import Derived.Lib.Builder
import Derived.Outline
import Derived.Shelf.Small.Bits
import Derived.Shelf.Strconv.Itoa0
import Derived.Shelf.Bits.Mul64
import Derived.Test.YtoddjkpckpekcaaGreatDoorProg
import Derived.Lib.BitFns
namespace Go.Proofs.YtoddjkpckpekcaaGreatDoor
open Go.RowKit

def CellF (w : World) (b i : Nat) (v : Value) : Prop := w.cell? ⟨b, i, none⟩ = some v ∧ w.frozen? ⟨b, i, none⟩ = false
theorem RI.drewN {k : IntKind} {w : World} {v : Value} {xs : List Int} (h : RI k w v xs) (n : Nat) : RI k (w.drewN n) v xs := ⟨h.isS, h.len, h.cell⟩
theorem RW.drewN {w : World} {v : Value} {ds : List Nat} (h : RW w v ds) (n : Nat) : RW (w.drewN n) v ds := ⟨h.ri.drewN n, h.lt⟩
def sgnI (neg : Bool) (l : Nat) : Int := if l = 0 then 0 else if neg then -1 else 1
set_option maxRecDepth 100000 in
theorem intSetBits (b o : Nat) (x0 x1 v : Value) (ws : List Nat) (w : World) (h0 : CellF w b o x0) (h1 : CellF w b (o + 1) x1) (hv : RW w v ws) (hl : ws.length ≤ 1000000000) :
    Calls Tryz.prog 56 #[.pointer (some ⟨b, o, none⟩), v] w fun e w' => e = .returned (.pointer (some ⟨b, o, none⟩)) ∧ w' = (w.setCell ⟨b, o + 1, none⟩ (subS v 0 (nw (wv ws)))).setCell ⟨b, o, none⟩ (.bool false) := by
  have hS := hv.isS
  have hL := hv.len
  obtain ⟨c0, f0⟩ := h0
  obtain ⟨c1, f1⟩ := h1
  have hnw := nw_le (wv_lt hv.lt)
  have hcap := hS.le
  have hS2 : IsS (subS v 0 (nw (wv ws))) := subS_isS hS (Nat.zero_le _) (by omega)
  go_enter Tryz.func56, Tryz.ntmps56
  go_wp2_with fail
  refine (norm_any v ws w hv hl).mono ?_
  rintro _ _ ⟨rfl, rfl⟩
  go_wp2
  go_ret
  exact ⟨rfl, rfl⟩
theorem run_neq_ptr_other {P : Program} (w : World) {tp te : TypeId} {j : TypeInfo} {a b : Addr} {ca cb : Array Value} {ta tb : TypeId} (hp : P.underlying tp = some (.pointer te)) (hte : P.info? te = some j) (hsz : j.size ≠ 0)
    (hne : a ≠ b) (ha : w.heap[a.block]? = some (.cells ca ta (0, 0))) (hb : w.heap[b.block]? = some (.cells cb tb (0, 0))) :
    (binOp .neq tp (.pointer (some a)) (.pointer (some b))).run P w = .ok (.bool true) w := by
  have h : ∀ d : Nat, (Op.equalIn (d + 1) tp (.pointer (some a)) (.pointer (some b))).run P w = .ok false w := fun d => by
    simp [Op.equalIn, run_underlying hp, sizeOf, typeInfo, hte, hsz, run_sameAddr_other w hne ha hb]
  simp only [binOp]
  simp [Op.equal, Op.maxDepth, h 9999]
theorem info_size {P : Program} {t n : Nat} (h : (P.info? t).map (·.size) = some n) : ∃ j, P.info? t = some j ∧ j.size = n := by
  cases hi : P.info? t with
  | none => rw [hi] at h; cases h
  | some i => rw [hi] at h; exact ⟨i, rfl, by simpa using h⟩
theorem sizeI : (Tryz.prog.info? 87).map (·.size) = some 2 := by kernel_rfl
theorem neqI (w : World) {b o c q : Nat} {cb cc : Array Value} {tb tc : TypeId} (hne : b ≠ c) (hb : w.heap[b]? = some (.cells cb tb (0, 0))) (hc : w.heap[c]? = some (.cells cc tc (0, 0))) :
    (binOp .neq 96 (.pointer (some ⟨b, o, none⟩)) (.pointer (some ⟨c, q, none⟩))).run Tryz.prog w = .ok (.bool true) w := by
  obtain ⟨j, hj, hz⟩ := info_size sizeI
  exact run_neq_ptr_other w Tryz.underlying96 hj (by omega) (by simp) hb hc
theorem neqI_same (w : World) (a : Addr) : (binOp .neq 96 (.pointer (some a)) (.pointer (some a))).run Tryz.prog w = .ok (.bool false) w := by
  obtain ⟨j, hj, hz⟩ := info_size sizeI
  exact Lib.run_neq_ptr_same w a Tryz.underlying96 hj
theorem row_at {w : World} {b i : Nat} {cs : Array Value} {T : TypeId} {v : Value} (h : w.heap[b]? = some (.cells cs T (0, 0))) (hv : cs[i]? = some v) : CellF w b i v :=
  ⟨by rw [cell_of_row w b i _ _ _ h]; exact hv, frozen_of_row w b i _ _ h⟩
set_option maxRecDepth 100000 in
theorem intSet (b o c q : Nat) (x0 v : Value) (neg : Bool) (cb cc : Array Value) (tb tc : TypeId) (ws : List Nat) (w : World) (hne : b ≠ c) (rb : w.heap[b]? = some (.cells cb tb (0, 0))) (rc : w.heap[c]? = some (.cells cc tc (0, 0)))
    (h0 : cb[o]? = some x0) (h1 : cb[o + 1]? = some (.slice none 0 0)) (hn : cc[q]? = some (.bool neg)) (hx : cc[q + 1]? = some v) (hv : RW w v ws) (hl : ws.length ≤ 1000000000) :
    Calls Tryz.prog 80 #[.pointer (some ⟨b, o, none⟩), .pointer (some ⟨c, q, none⟩)] w fun e w' => e = .returned (.pointer (some ⟨b, o, none⟩)) ∧ ∃ r w1, w' = (w1.setCell ⟨b, o + 1, none⟩ r).setCell ⟨b, o, none⟩ (.bool neg) ∧ Own w1 w.heap.size 98 r (cellsW ws) ∧ Below w.heap.size w w1 := by
  have hS := hv.isS
  obtain ⟨c0, f0⟩ := row_at rb h0
  obtain ⟨c1, f1⟩ := row_at rb h1
  obtain ⟨d0, -⟩ := row_at rc hn
  obtain ⟨d1, -⟩ := row_at rc hx
  have hcmp := neqI w (o := o) (q := q) hne rb rc
  have Hv := Lib.hid hv
  have RB := Lib.hid rb
  have RC := Lib.hid rc
  clear hv rb rc h0 h1 hn hx
  go_enter Tryz.func80, Tryz.ntmps80
  go_wp2
  (refine wp_region_hoist 9 (by kernel_rfl) (by kernel_rfl) ⟨fun _ _ _ h => (by first | exact (hQp _ _ _ h).elim | cases h.2.1 | (obtain ⟨_, h3, _⟩ := h.2; cases h3)), fun _ _ h => (by first | exact (hQo _ _ h).elim | cases h.1 | (obtain ⟨_, h3, _⟩ := h; cases h3))⟩ ?_; simp only [List.take_succ_cons, List.take_zero, List.drop_succ_cons, List.drop_zero]; (repeat (go_big_quiet_step (fail))); refine wpQuiet_nil ?_; rintro _ ⟨nq, rfl⟩)
  go_wp2_with fail
  refine (set_nil v ws _ (Hv.out.drewN _) hl).mono ?_
  rintro _ w1 ⟨r, rfl, ho, hb⟩
  have hSr := ho.isS
  have rb1 := keep_row hb RB.out
  have rc1 := keep_row hb RC.out
  have hb2 := undrewN hb
  have k0 := hb2.cell (p := ⟨b, o, none⟩) (World.block_lt_of_cell? w _ c0)
  have k1 := hb2.cell (p := ⟨b, o + 1, none⟩) (World.block_lt_of_cell? w _ c1)
  have k2 := hb2.cell (p := ⟨c, q, none⟩) (World.block_lt_of_cell? w _ d0)
  rw [c0] at k0
  rw [c1] at k1
  rw [d0] at k2
  have f0 := frozen_of_row w1 b o _ _ rb1
  have f1 := frozen_of_row w1 b (o + 1) _ _ rb1
  have hne' : ¬ b = c := hne
  have hne'' : ¬ c = b := fun h => hne h.symm
  have HO := Lib.hid ho
  clear rb1 rc1 hb ho
  go_wp2
  go_ret
  exact ⟨rfl, _, _, rfl, HO.out, hb2⟩
set_option maxRecDepth 100000 in
theorem intSet_same (a : Addr) (w : World) :
    Calls Tryz.prog 80 #[.pointer (some a), .pointer (some a)] w fun e w' => e = .returned (.pointer (some a)) ∧ w = w' := by
  have hcmp := neqI_same w a
  go_enter Tryz.func80, Tryz.ntmps80
  go_wp2
  go_ret
  exact ⟨rfl, rfl⟩
set_option maxRecDepth 100000 in
theorem intNeg_same (b o : Nat) (neg : Bool) (v : Value) (w : World) (h0 : CellF w b o (.bool neg)) (h1 : CellF w b (o + 1) v) (hS : IsS v) :
    Calls Tryz.prog 88 #[.pointer (some ⟨b, o, none⟩), .pointer (some ⟨b, o, none⟩)] w fun e w' => e = .returned (.pointer (some ⟨b, o, none⟩)) ∧ ∃ n, w' = (w.drewN n).setCell ⟨b, o, none⟩ (.bool (decide (0 < sLen v) && !neg)) := by
  obtain ⟨c0, f0⟩ := h0
  obtain ⟨c1, f1⟩ := h1
  obtain ⟨l, hl⟩ : ∃ l, sLen v = l := ⟨_, rfl⟩
  rw [hl]
  have hd : decide (0 < l) = true ∨ decide (0 < l) = false := by cases decide (0 < l) <;> simp
  rcases hd with t1 | t1
  all_goals
    rw [t1]
    go_enter Tryz.func88, Tryz.ntmps88
    go_wp2_with fail
    refine (intSet_same _ w).mono ?_
    rintro _ _ ⟨rfl, rfl⟩
    go_wp2
    go_ret
    exact ⟨rfl, 0, rfl⟩
theorem take_nw {ws : List Nat} (h : ∀ d ∈ ws, d < 18446744073709551616) : ws.take (nw (wv ws)) = wds (wv ws) := by
  have hl := nw_le (wv_lt h)
  refine list_ext_getD (by rw [wds_length]; simp; omega) fun i => ?_
  rw [wds_getD, wv_dig h]
  by_cases hi : i < nw (wv ws)
  · simp [List.getD_eq_getElem?_getD, hi]
  · have h1 := wv_dig h i
    rw [wdg_ge (by omega)] at h1
    rw [← h1, List.getD_eq_getElem?_getD, List.getElem?_eq_none (by simp; omega)]; rfl
theorem rowset {w : World} {g i : Nat} {cs : Array Value} {T : TypeId} (u : Value) (h : w.heap[g]? = some (.cells cs T (0, 0))) : (w.setCell ⟨g, i, none⟩ u).heap[g]? = some (.cells (cs.setIfInBounds i u) T (0, 0)) := heap_setCell_same w g i _ _ u h
theorem Own.ne_row {w : World} {B e g : Nat} {v : Value} {xs : List Value} {cs : Array Value} {T : TypeId} (h : Own w B e v xs) (hr : w.heap[g]? = some (.cells cs T (0, 0))) (hT : T ≠ e) (hc : 0 < sCap v) : sBlk v ≠ g := by
  rcases h.row with h0 | ⟨_, cur, hg, _⟩
  · omega
  · intro he
    rw [he, hr] at hg
    simp only [Option.some.injEq, Obj.cells.injEq] at hg
    exact hT hg.2.1
theorem Own.away {w : World} {B e g : Nat} {v : Value} {xs : List Value} {cs : Array Value} {T : TypeId} (h : Own w B e v xs) (hr : w.heap[g]? = some (.cells cs T (0, 0))) (hT : T ≠ e) (i : Nat) (u : Value) : Own (w.setCell ⟨g, i, none⟩ u) B e v xs :=
  h.same fun hc => heap_setCell_other _ _ _ _ (by simpa using h.ne_row hr hT hc)
theorem Own.below {w w' : World} {B e : Nat} {v : Value} {xs : List Value} (h : Own w B e v xs) (hb : Below w.heap.size w w') : Own w' B e v xs :=
  h.same fun hc => hb.block _ (h.lt hc).2
theorem Own.takeW {w : World} {B e : Nat} {v : Value} {ws : List Nat} (h : Own w B e v (cellsW ws)) (hd : ∀ d ∈ ws, d < 18446744073709551616) : Own w B e (subS v 0 (nw (wv ws))) (cellsW (wds (wv ws))) := by
  have hl := nw_le (wv_lt hd)
  have := h.sub (l := 0) (n := nw (wv ws)) (Nat.zero_le _) (by rw [cellsW_length]; exact hl)
  rw [List.drop_zero] at this
  rw [← take_nw hd, cellsW, List.map_take]
  exact this

def IntP (w : World) (B b : Nat) (neg : Bool) (n : Nat) : Prop :=
  ∃ v, B ≤ b ∧ w.heap[b]? = some (.cells #[.bool neg, v] 87 (0, 0)) ∧ Own w B 98 v (cellsW (wds n))
theorem wds_all (n : Nat) : ∀ d ∈ wds n, d < 18446744073709551616 := fun _ h => wds_lt h
theorem IntP.below {w w' : World} {B b : Nat} {neg : Bool} {n : Nat} (h : IntP w B b neg n) (hb : Below w.heap.size w w') : IntP w' B b neg n := by
  obtain ⟨v, h1, h2, h3⟩ := h
  exact ⟨v, h1, keep_row hb h2, h3.below hb⟩
def OfW (ws : List Nat) (B k : Nat) (w : World) (v : Value) (wr : World) : Prop := Own wr B 98 v (cellsW (ws.take k)) ∧ Below B w wr
theorem OfW.step {ws : List Nat} {B k : Nat} {w w1 : World} {v1 : Value} (hk : k < ws.length) (h : Own w1 B 98 v1 (cellsW (ws.take k) ++ [.int .u64 ((ws.getD k 0 : Nat) : Int)])) (hb : Below B w w1) : OfW ws B (k + 1) w v1 w1 := by
  refine ⟨?_, hb⟩
  rw [cellsW_snoc] at h
  rw [List.take_succ_eq_append_getElem hk]
  simpa [List.getD_eq_getElem?_getD, List.getElem?_eq_getElem hk] using h
theorem and_pos {n : Nat} : (decide (0 < nw n) && !false) = decide (0 < n) := by
  rcases Nat.eq_zero_or_pos n with h | h
  · subst h; rfl
  · simp [h, nw_pos h]
theorem setBits_fresh {wr : World} {B : Nat} {u : Value} {ws : List Nat} (ho : Own wr B 98 u (cellsW ws)) (hd : ∀ d ∈ ws, d < 18446744073709551616) (hB : B ≤ wr.heap.size) :
    IntP (((wr.alloc (.cells #[.bool false, .slice none 0 0] 87)).setCell ⟨wr.heap.size, 0 + 1, none⟩ (subS u 0 (nw (wv ws)))).setCell ⟨wr.heap.size, 0, none⟩ (.bool false)) B wr.heap.size false (wv ws) ∧
    Below wr.heap.size wr (((wr.alloc (.cells #[.bool false, .slice none 0 0] 87)).setCell ⟨wr.heap.size, 0 + 1, none⟩ (subS u 0 (nw (wv ws)))).setCell ⟨wr.heap.size, 0, none⟩ (.bool false)) := by
  have r0 := box_row (Below.refl _ (wr.alloc (.cells #[.bool false, .slice none 0 0] 87)))
  have r1 := rowset (i := 0 + 1) (subS u 0 (nw (wv ws))) r0
  have r2 := rowset (i := 0) (.bool false) r1
  have o0 := (ho.alloc (.cells #[.bool false, .slice none 0 0] 87)).takeW hd
  have o1 := o0.away r0 (by decide) (0 + 1) (subS u 0 (nw (wv ws)))
  have o2 := o1.away r1 (by decide) 0 (.bool false)
  exact ⟨⟨_, hB, r2, o2⟩, bset (bset ((Below.refl _ _).alloc (Nat.le_refl _) _) (Nat.le_refl _)) (Nat.le_refl _)⟩
theorem IntP.setNeg {w : World} {B b n : Nat} {neg : Bool} (h : IntP w B b neg n) (k : Nat) (x : Bool) : IntP ((w.drewN k).setCell ⟨b, 0, none⟩ (.bool x)) B b x n := by
  obtain ⟨v, h1, h2, h3⟩ := h
  exact ⟨v, h1, rowset (i := 0) (.bool x) (w := w.drewN k) h2, (h3.drewN k).away (w := w.drewN k) h2 (by decide) 0 _⟩
theorem IntP.mono {w : World} {B B' b n : Nat} {neg : Bool} (h : IntP w B b neg n) (hB : B' ≤ B) : IntP w B' b neg n := by
  obtain ⟨v, h1, h2, h3⟩ := h
  exact ⟨v, Nat.le_trans hB h1, h2, h3.mono hB⟩
set_option maxRecDepth 100000 in
set_option maxHeartbeats 800000 in
theorem of_any (b : Bool) (v : Value) (ws : List Nat) (w : World) (hv : RW w v ws) (hl : ws.length ≤ 100000000) :
    Calls Tryz.prog 54 #[.agg #[.bool b, v]] w fun e w' => ∃ g, e = .returned (.pointer (some ⟨g, 0, none⟩)) ∧ IntP w' w.heap.size g (b && decide (0 < wv ws)) (wv ws) ∧ Below w.heap.size w w' := by
  have hSv := hv.isS
  have hLv := hv.len
  obtain ⟨la, hla⟩ : ∃ la, la = ws.length := ⟨_, rfl⟩
  rw [← hla] at hLv hl
  have Hla := Lib.hid hla
  have Hv := Lib.hid hv
  clear hla hv
  have hab := (Below.refl w.heap.size w).alloc (Nat.le_refl _) (.cells #[.bool b, v] 24)
  obtain ⟨W, hW⟩ : ∃ W, W = w.alloc (.cells #[.bool b, v] 24) := ⟨_, rfl⟩
  have hrow : W.heap[w.heap.size]? = some (.cells #[.bool b, v] 24 (0, 0)) := by rw [hW]; exact box_row (Below.refl _ _)
  rw [← hW] at hab
  have hWs : w.heap.size ≤ W.heap.size := hab.size
  have HR := Lib.hid hrow
  have HV := Lib.hid (Hv.out.below hab)
  have HW := Lib.hid hW
  clear hrow
  go_enter Tryz.func54, Tryz.ntmps54
  go_wp2
  rw [← hW]
  clear hW
  go_loopw [3, 10] (fun v i wr => ∃ k : Nat, k ≤ la ∧ i = .int .i64 k ∧ OfW ws W.heap.size k W v wr) (fun _ i _ => la - (intOf i).toNat)
  case atStart => exact ⟨0, Nat.zero_le _, rfl, Own.nil _ _ _, Below.refl _ _⟩
  case round =>
    obtain ⟨i, hi, rfl, hO, hbl⟩ := hrel
    have hbz := hbl.size
    have hSo : IsS u3 := hO.isS
    have HO := Lib.hid hO
    clear hO
    by_cases hia : i < la
    · have ca := (HV.out.below hbl).cell i (by rw [← Hla.out]; exact hia)
      obtain ⟨d, hd⟩ : ∃ d, d = ws.getD i 0 := ⟨_, rfl⟩
      rw [← hd] at ca
      have Hd := Lib.hid hd
      clear hd
      have hlk : (cellsW (ws.take i)).length = i := by rw [cellsW_length]; have := Hla.out; simp; omega
      have Hlk := Lib.hid hlk
      clear hlk
      go_wp2_with (at_builtin; refine wpList_append_O rfl _ _ _ _ rfl elemW W.heap.size _ _ rfl (HO.out.alloc _) _ rfl 1 [.int .u64 (d : Int)] (srcOne Tryz.underlying84 wr _ _) ?c3 ?c4 ?c5 ?_)
      case c3 => rw [Hlk.out]; unfold maxLen; omega
      case c4 => rw [Hlk.out]; omega
      case c5 => simp; omega
      rintro v1 w1 ho1 hb1 - - -
      have hs := OfW.step (by rw [← Hla.out]; exact hia) (by rw [← Hd.out]; exact ho1) ((hbl.alloc hbz _).trans hb1)
      have Hs := Lib.hid hs
      clear hs ho1
      go_wp2
      go_roundw
      case rel => exact ⟨i + 1, by omega, by go_num, Hs.out⟩
      case measure => simp [intOf]; omega
    · have hil : i = la := by omega
      have ca := hil
      subst hil
      have hfull : ws.take i = ws := List.take_of_length_le (by rw [Hla.out]; exact Nat.le_refl _)
      have ho := HO.out
      rw [hfull] at ho
      have Ho := Lib.hid ho
      have hrw := ho.rw' Hv.out.lt
      have Hrw := Lib.hid hrw
      have hrb := Lib.hid (keep_row hbl HR.out)
      have hfz := Lib.hid (box_row (Below.refl _ (wr.alloc (.cells #[.bool false, .slice none 0 0] 87))))
      clear hfull ho hrw
      go_wp2_with fail
      refine (intSetBits wr.heap.size 0 (.bool false) (.slice none 0 0) u3 ws _ (row_at hfz.out rfl) (row_at hfz.out rfl) (Hrw.out.below ((Below.refl _ _).alloc (Nat.le_refl _) _)) (by rw [← Hla.out]; omega)).mono ?_
      rintro _ w2 ⟨rfl, hw2⟩
      have hI := (setBits_fresh Ho.out Hv.out.lt hbz).1
      have hB2 := (setBits_fresh Ho.out Hv.out.lt hbz).2
      rw [← hw2] at hI hB2
      have HI := Lib.hid hI
      have HB2 := Lib.hid hB2
      obtain ⟨g, hg⟩ : ∃ g, g = wr.heap.size := ⟨_, rfl⟩
      rw [← hg] at HI hbz ⊢
      obtain ⟨v2, h21, h22, h23⟩ := HI.out
      have hS2 := h23.isS
      have hL2 : sLen v2 = nw (wv ws) := by rw [h23.len, cellsW_length, wds_length]
      have k0 := (row_at (i := 0) h22 rfl)
      have k1 := (row_at (i := 1) h22 rfl)
      have bx := (row_at (i := 0) (keep_row hB2 hrb.out) rfl).1
      have hBt := bthen hbl hB2
      have hBW := hab.trans (hBt.mono hWs)
      have HL2 := Lib.hid hL2
      clear hw2 hI hB2 hg h22 h23 hL2 ca
      cases b with
      | false =>
        go_wp2
        go_ret
        exact ⟨g, rfl, HI.out.mono hWs, hBW⟩
      | true =>
        go_wp2_with fail
        refine (intNeg_same g 0 false v2 w2 k0 k1 hS2).mono ?_
        rintro _ w3 ⟨rfl, nk, hw3⟩
        rw [HL2.out, and_pos] at hw3
        have h3 := HI.out.setNeg nk (decide (0 < wv ws))
        rw [← hw3] at h3
        have hBx : Below w.heap.size w w3 := by rw [hw3]; exact bset (undrewN' hBW) (Nat.le_trans hWs h21)
        have H3 := Lib.hid h3
        clear hw3 h3
        go_wp2
        go_ret
        exact ⟨g, rfl, H3.out.mono hWs, hBx⟩
end Go.Proofs.YtoddjkpckpekcaaGreatDoor
namespace Go.Proofs
open Go.Shelf
def Tryz.lays125_ren : Go.Shelf.Ren := ⟨fun | 125 => 139 | 128 => 172 | 129 => 173 | n => n, fun | 46 => 83 | 3 => 3 | 51 => 39 | 53 => 42 | 4 => 4 | 5 => 5 | 9 => 9 | n => n, fun | n => n⟩
theorem Tryz.lays125 : Go.Proofs.Lays.n125 Tryz.prog Tryz.lays125_ren := {
  mixed := by kernel_rfl
  f125 := Tryz.func139.trans (congrArg some (by kernel_rfl))
  f128 := Tryz.func172.trans (congrArg some (by kernel_rfl))
  f129 := Tryz.func173.trans (congrArg some (by kernel_rfl))
  t3 := Tryz.underlying3
  a3 := Tryz.isAgg3
  z3 := Tryz.sizeOf3
  v3 := Tryz.zeroValue3
  t4 := Tryz.underlying4
  a4 := Tryz.isAgg4
  z4 := Tryz.sizeOf4
  v4 := Tryz.zeroValue4
  t5 := Tryz.underlying5
  a5 := Tryz.isAgg5
  z5 := Tryz.sizeOf5
  v5 := Tryz.zeroValue5
  t9 := Tryz.underlying9
  a9 := Tryz.isAgg9
  z9 := Tryz.sizeOf9
  v9 := Tryz.zeroValue9
  t46 := Tryz.underlying83
  a46 := Tryz.isAgg83
  z46 := Tryz.sizeOf83
  v46 := Tryz.zeroValue83
  t51 := Tryz.underlying39
  a51 := Tryz.isAgg39
  z51 := Tryz.sizeOf39
  v51 := Tryz.zeroValue39
  t53 := Tryz.underlying42
  a53 := Tryz.isAgg42
  z53 := Tryz.sizeOf42
  v53 := Tryz.zeroValue42 }
theorem Tryz.bits_Len (x : Int) (w : World) (h0 : 0 ≤ x) (h1 : x ≤ 18446744073709551615) :
    Calls Tryz.prog 139 #[.int .u64 x] w fun e w' => e = .returned (.int .i64 (Lib.bitLen x.toNat)) ∧ w' = w := Any.bits_Len Tryz.lays125 x w h0 h1
def Tryz.lays134_ren : Go.Shelf.Ren := ⟨fun | 134 => 189 | 129 => 173 | n => n, fun | 53 => 42 | 3 => 3 | 4 => 4 | 46 => 83 | 5 => 5 | 9 => 9 | n => n, fun | n => n⟩
theorem Tryz.lays134 : Go.Proofs.Lays.n134 Tryz.prog Tryz.lays134_ren := {
  mixed := by kernel_rfl
  f129 := Tryz.func173.trans (congrArg some (by kernel_rfl))
  f134 := Tryz.func189.trans (congrArg some (by kernel_rfl))
  t3 := Tryz.underlying3
  a3 := Tryz.isAgg3
  z3 := Tryz.sizeOf3
  v3 := Tryz.zeroValue3
  t4 := Tryz.underlying4
  a4 := Tryz.isAgg4
  z4 := Tryz.sizeOf4
  v4 := Tryz.zeroValue4
  t5 := Tryz.underlying5
  a5 := Tryz.isAgg5
  z5 := Tryz.sizeOf5
  v5 := Tryz.zeroValue5
  t9 := Tryz.underlying9
  a9 := Tryz.isAgg9
  z9 := Tryz.sizeOf9
  v9 := Tryz.zeroValue9
  t46 := Tryz.underlying83
  a46 := Tryz.isAgg83
  z46 := Tryz.sizeOf83
  v46 := Tryz.zeroValue83
  t53 := Tryz.underlying42
  a53 := Tryz.isAgg42
  z53 := Tryz.sizeOf42
  v53 := Tryz.zeroValue42 }
theorem Tryz.bits_LeadingZeros64 (x : Int) (w : World) (h0 : 0 ≤ x) (h1 : x ≤ 18446744073709551615) :
    Calls Tryz.prog 189 #[.int .u64 x] w fun e w' => e = .returned (.int .i64 (64 - (Lib.bitLen x.toNat : Int))) ∧ w' = w := Any.bits_LeadingZeros64 Tryz.lays134 x w h0 h1
def Tryz.lays130_ren : Go.Shelf.Ren := ⟨fun | 130 => 159 | 125 => 139 | 128 => 172 | 129 => 173 | n => n, fun | 46 => 83 | 3 => 3 | 51 => 39 | 53 => 42 | 4 => 4 | 5 => 5 | 9 => 9 | n => n, fun | n => n⟩
theorem Tryz.lays130 : Go.Proofs.Lays.n130 Tryz.prog Tryz.lays130_ren := {
  mixed := by kernel_rfl
  f125 := Tryz.func139.trans (congrArg some (by kernel_rfl))
  f128 := Tryz.func172.trans (congrArg some (by kernel_rfl))
  f129 := Tryz.func173.trans (congrArg some (by kernel_rfl))
  f130 := Tryz.func159.trans (congrArg some (by kernel_rfl))
  t3 := Tryz.underlying3
  a3 := Tryz.isAgg3
  z3 := Tryz.sizeOf3
  v3 := Tryz.zeroValue3
  t4 := Tryz.underlying4
  a4 := Tryz.isAgg4
  z4 := Tryz.sizeOf4
  v4 := Tryz.zeroValue4
  t5 := Tryz.underlying5
  a5 := Tryz.isAgg5
  z5 := Tryz.sizeOf5
  v5 := Tryz.zeroValue5
  t9 := Tryz.underlying9
  a9 := Tryz.isAgg9
  z9 := Tryz.sizeOf9
  v9 := Tryz.zeroValue9
  t46 := Tryz.underlying83
  a46 := Tryz.isAgg83
  z46 := Tryz.sizeOf83
  v46 := Tryz.zeroValue83
  t51 := Tryz.underlying39
  a51 := Tryz.isAgg39
  z51 := Tryz.sizeOf39
  v51 := Tryz.zeroValue39
  t53 := Tryz.underlying42
  a53 := Tryz.isAgg42
  z53 := Tryz.sizeOf42
  v53 := Tryz.zeroValue42 }
theorem Tryz.bits_LeadingZeros (x : Int) (w : World) (h0 : 0 ≤ x) (h1 : x ≤ 18446744073709551615) :
    Calls Tryz.prog 159 #[.int .u64 x] w fun e w' => e = .returned (.int .i64 (64 - (Lib.bitLen x.toNat : Int))) ∧ w' = w := Any.bits_LeadingZeros Tryz.lays130 x w h0 h1
open Go.RowKit Go.Lib in
def Tryz.lays212_ren : Go.Shelf.Ren := ⟨fun | 212 => 134 | 263 => 167 | 264 => 168 | n => n, fun | 46 => 83 | 51 => 39 | 146 => 190 | 53 => 42 | 148 => 192 | n => n, fun | n => n⟩
theorem Tryz.lays212 : Go.Proofs.Lays.n212 Tryz.prog Tryz.lays212_ren := {
  mixed := by kernel_rfl
  f212 := Tryz.func134.trans (congrArg some (by kernel_rfl))
  f263 := Tryz.func167.trans (congrArg some (by kernel_rfl))
  f264 := Tryz.func168.trans (congrArg some (by kernel_rfl))
  t46 := Tryz.underlying83
  a46 := Tryz.isAgg83
  z46 := Tryz.sizeOf83
  v46 := Tryz.zeroValue83
  t51 := Tryz.underlying39
  a51 := Tryz.isAgg39
  z51 := Tryz.sizeOf39
  v51 := Tryz.zeroValue39
  t53 := Tryz.underlying42
  a53 := Tryz.isAgg42
  z53 := Tryz.sizeOf42
  v53 := Tryz.zeroValue42
  t146 := Tryz.underlying190
  a146 := Tryz.isAgg190
  z146 := Tryz.sizeOf190
  v146 := Tryz.zeroValue190
  t148 := Tryz.underlying192
  a148 := Tryz.isAgg192
  z148 := Tryz.sizeOf192
  v148 := Tryz.zeroValue192 }
open Go.RowKit Go.Lib in
theorem Tryz.bits_Mul (x y : Nat) (hx : x < 18446744073709551616) (hy : y < 18446744073709551616) (w : World) :
    Calls Tryz.prog 134 #[.int .u64 x, .int .u64 y] w fun e w' => e = .returned (.tuple #[.int .u64 ((x * y / 18446744073709551616 : Nat) : Int), .int .u64 ((x * y % 18446744073709551616 : Nat) : Int)]) ∧ w' = w := Any.bits_Mul Tryz.lays212 x y hx hy w
end Go.Proofs
namespace Go.Proofs.YtoddjkpckpekcaaGreatDoor
open Go.RowKit

theorem bitLenAux_eq : ∀ (f x : Nat), x < 2 ^ f → Lib.bitLenAux f x = bl x
  | 0, x, h => by
    have : x = 0 := by omega
    subst this; rfl
  | f + 1, x, h => by
    unfold Lib.bitLenAux
    split
    · rename_i h0; subst h0; rfl
    · rename_i h0
      rw [bitLenAux_eq f (x / 2) (by rw [Nat.pow_succ] at h; omega), ← bl_half (show 0 < x by omega)]; omega
theorem bitLen_eq {x : Nat} (h : x < 18446744073709551616) : Lib.bitLen x = bl x := bitLenAux_eq 64 x h
theorem bl_le64 {x : Nat} (h : x < 18446744073709551616) : bl x ≤ 64 := bl_le h
theorem lz64 (x : Nat) (w : World) (h : x < 18446744073709551616) :
    Calls Tryz.prog 189 #[.int .u64 x] w fun e w' => e = .returned (.int .i64 ((64 - bl x : Nat) : Int)) ∧ w = w' := by
  refine (Tryz.bits_LeadingZeros64 (x : Int) w (by omega) (by omega)).mono ?_
  rintro _ _ ⟨rfl, rfl⟩
  have := bl_le64 h
  refine ⟨?_, rfl⟩
  rw [Int.toNat_natCast, bitLen_eq h]
  exact congrArg (fun z => Ending.returned (.int .i64 z)) (by omega)
theorem fbone {W : World} (o : Obj) : Below W.heap.size W (W.alloc o) := (Below.refl _ _).alloc (Nat.le_refl _) _
theorem get_lt {w : World} {k : Nat} {o : Obj} (h : w.heap[k]? = some o) : k < w.heap.size := by
  obtain ⟨h, _⟩ := Array.getElem?_eq_some_iff.1 h
  exact h
theorem RW.dropW {w : World} {v : Value} {ws : List Nat} {k : Nat} (h : RW w v ws) (hk : k ≤ ws.length) : RW w (subS v k ws.length) (ws.drop k) := by
  refine ⟨?_, fun d hd => h.lt d (List.mem_of_mem_drop hd)⟩
  have := h.ri.sub (l := k) (n := ws.length) hk (by rw [ints_length]; exact Nat.le_refl _)
  rw [List.take_of_length_le (by rw [ints_length]; exact Nat.le_refl _)] at this
  unfold ints at this ⊢
  rw [List.map_drop]
  exact this
theorem cellsW_zeros (n : Nat) : List.replicate n (Value.int .u64 0) = cellsW (List.replicate n 0) := by
  unfold cellsW; rw [List.map_replicate]; rfl
end Go.Proofs.YtoddjkpckpekcaaGreatDoor
