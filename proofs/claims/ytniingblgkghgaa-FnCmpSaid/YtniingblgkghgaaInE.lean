/-
The thin package's integers: of, wordsOf, told. No condition.
-/
import Derived.Test.YtniingblgkghgaaInD
namespace Go.Proofs.Ytniingblgkghgaa
open Go.RowKit

theorem take_nw {ws : List Nat} (h : ∀ d ∈ ws, d < 18446744073709551616) : ws.take (nw (wv ws)) = wds (wv ws) := by
  have hl := nw_le (wv_lt h)
  refine list_ext_getD (by rw [wds_length]; simp; omega) fun i => ?_
  rw [wds_getD, wv_dig h]
  by_cases hi : i < nw (wv ws)
  · simp [List.getD_eq_getElem?_getD, hi]
  · have h1 := wv_dig h i
    rw [wdg_ge (by omega)] at h1
    rw [← h1, List.getD_eq_getElem?_getD, List.getElem?_eq_none (by simp; omega)]; rfl
theorem rowset {w : World} {g i : Nat} {cs : Array Value} {T : TypeId} (u : Value) (h : w.heap[g]? = some (.cells cs T (0, 0))) : (w.setCell ⟨g, i, none⟩ u).heap[g]? = some (.cells (cs.setIfInBounds i u) T (0, 0)) := heap_setCell_same w g i _ _ u h
theorem Own.ne_row {w : World} {B e g : Nat} {v : Value} {xs : List Value} {cs : Array Value} {T : TypeId} (h : Own w B e v xs) (hr : w.heap[g]? = some (.cells cs T (0, 0))) (hT : T ≠ e) (hc : 0 < sCap v) : sBlk v ≠ g := by
  rcases h.row with h0 | ⟨_, cur, hg, _⟩
  · omega
  · intro he
    rw [he, hr] at hg
    simp only [Option.some.injEq, Obj.cells.injEq] at hg
    exact hT hg.2.1
theorem Own.away {w : World} {B e g : Nat} {v : Value} {xs : List Value} {cs : Array Value} {T : TypeId} (h : Own w B e v xs) (hr : w.heap[g]? = some (.cells cs T (0, 0))) (hT : T ≠ e) (i : Nat) (u : Value) : Own (w.setCell ⟨g, i, none⟩ u) B e v xs :=
  h.same fun hc => heap_setCell_other _ _ _ _ (by simpa using h.ne_row hr hT hc)
theorem Own.below {w w' : World} {B e : Nat} {v : Value} {xs : List Value} (h : Own w B e v xs) (hb : Below w.heap.size w w') : Own w' B e v xs :=
  h.same fun hc => hb.block _ (h.lt hc).2
theorem Own.takeW {w : World} {B e : Nat} {v : Value} {ws : List Nat} (h : Own w B e v (cellsW ws)) (hd : ∀ d ∈ ws, d < 18446744073709551616) : Own w B e (subS v 0 (nw (wv ws))) (cellsW (wds (wv ws))) := by
  have hl := nw_le (wv_lt hd)
  have := h.sub (l := 0) (n := nw (wv ws)) (Nat.zero_le _) (by rw [cellsW_length]; exact hl)
  rw [List.drop_zero] at this
  rw [← take_nw hd, cellsW, List.map_take]
  exact this

/-- An integer at a block. -/
def IntP (w : World) (B b : Nat) (neg : Bool) (n : Nat) : Prop :=
  ∃ v, B ≤ b ∧ w.heap[b]? = some (.cells #[.bool neg, v] 134 (0, 0)) ∧ Own w B 132 v (cellsW (wds n))
theorem wds_all (n : Nat) : ∀ d ∈ wds n, d < 18446744073709551616 := fun _ h => wds_lt h
theorem IntP.below {w w' : World} {B b : Nat} {neg : Bool} {n : Nat} (h : IntP w B b neg n) (hb : Below w.heap.size w w') : IntP w' B b neg n := by
  obtain ⟨v, h1, h2, h3⟩ := h
  exact ⟨v, h1, keep_row hb h2, h3.below hb⟩
def OfW (ws : List Nat) (B k : Nat) (w : World) (v : Value) (wr : World) : Prop := Own wr B 132 v (cellsW (ws.take k)) ∧ Below B w wr
theorem OfW.step {ws : List Nat} {B k : Nat} {w w1 : World} {v1 : Value} (hk : k < ws.length) (h : Own w1 B 132 v1 (cellsW (ws.take k) ++ [.int .u64 ((ws.getD k 0 : Nat) : Int)])) (hb : Below B w w1) : OfW ws B (k + 1) w v1 w1 := by
  refine ⟨?_, hb⟩
  rw [cellsW_snoc] at h
  rw [List.take_succ_eq_append_getElem hk]
  simpa [List.getD_eq_getElem?_getD, List.getElem?_eq_getElem hk] using h
theorem and_pos {n : Nat} : (decide (0 < nw n) && !false) = decide (0 < n) := by
  rcases Nat.eq_zero_or_pos n with h | h
  · subst h; rfl
  · simp [h, nw_pos h]
theorem setBits_fresh {wr : World} {B : Nat} {u : Value} {ws : List Nat} (ho : Own wr B 132 u (cellsW ws)) (hd : ∀ d ∈ ws, d < 18446744073709551616) (hB : B ≤ wr.heap.size) :
    IntP (((wr.alloc (.cells #[.bool false, .slice none 0 0] 134)).setCell ⟨wr.heap.size, 0 + 1, none⟩ (subS u 0 (nw (wv ws)))).setCell ⟨wr.heap.size, 0, none⟩ (.bool false)) B wr.heap.size false (wv ws) ∧
    Below wr.heap.size wr (((wr.alloc (.cells #[.bool false, .slice none 0 0] 134)).setCell ⟨wr.heap.size, 0 + 1, none⟩ (subS u 0 (nw (wv ws)))).setCell ⟨wr.heap.size, 0, none⟩ (.bool false)) := by
  have r0 := box_row (Below.refl _ (wr.alloc (.cells #[.bool false, .slice none 0 0] 134)))
  have r1 := rowset (i := 0 + 1) (subS u 0 (nw (wv ws))) r0
  have r2 := rowset (i := 0) (.bool false) r1
  have o0 := (ho.alloc (.cells #[.bool false, .slice none 0 0] 134)).takeW hd
  have o1 := o0.away r0 (by decide) (0 + 1) (subS u 0 (nw (wv ws)))
  have o2 := o1.away r1 (by decide) 0 (.bool false)
  exact ⟨⟨_, hB, r2, o2⟩, bset (bset ((Below.refl _ _).alloc (Nat.le_refl _) _) (Nat.le_refl _)) (Nat.le_refl _)⟩
theorem IntP.setNeg {w : World} {B b n : Nat} {neg : Bool} (h : IntP w B b neg n) (k : Nat) (x : Bool) : IntP ((w.drewN k).setCell ⟨b, 0, none⟩ (.bool x)) B b x n := by
  obtain ⟨v, h1, h2, h3⟩ := h
  exact ⟨v, h1, rowset (i := 0) (.bool x) (w := w.drewN k) h2, (h3.drewN k).away (w := w.drewN k) h2 (by decide) 0 _⟩
theorem IntP.mono {w : World} {B B' b n : Nat} {neg : Bool} (h : IntP w B b neg n) (hB : B' ≤ B) : IntP w B' b neg n := by
  obtain ⟨v, h1, h2, h3⟩ := h
  exact ⟨v, Nat.le_trans hB h1, h2, h3.mono hB⟩
set_option maxRecDepth 100000 in
set_option maxHeartbeats 800000 in
theorem of_any (b : Bool) (v : Value) (ws : List Nat) (w : World) (hv : RW w v ws) (hl : ws.length ≤ 100000000) :
    Calls Try.prog 65 #[.agg #[.bool b, v]] w fun e w' => ∃ g, e = .returned (.pointer (some ⟨g, 0, none⟩)) ∧ IntP w' w.heap.size g (b && decide (0 < wv ws)) (wv ws) ∧ Below w.heap.size w w' := by
  have hSv := hv.isS
  have hLv := hv.len
  obtain ⟨la, hla⟩ : ∃ la, la = ws.length := ⟨_, rfl⟩
  rw [← hla] at hLv hl
  have Hla := Lib.hid hla
  have Hv := Lib.hid hv
  clear hla hv
  have hab := (Below.refl w.heap.size w).alloc (Nat.le_refl _) (.cells #[.bool b, v] 108)
  obtain ⟨W, hW⟩ : ∃ W, W = w.alloc (.cells #[.bool b, v] 108) := ⟨_, rfl⟩
  have hrow : W.heap[w.heap.size]? = some (.cells #[.bool b, v] 108 (0, 0)) := by rw [hW]; exact box_row (Below.refl _ _)
  rw [← hW] at hab
  have hWs : w.heap.size ≤ W.heap.size := hab.size
  have HR := Lib.hid hrow
  have HV := Lib.hid (Hv.out.below hab)
  have HW := Lib.hid hW
  clear hrow
  go_enter Try.func65, Try.ntmps65
  go_wp2
  rw [← hW]
  clear hW
  go_loopw [3, 10] (fun v i wr => ∃ k : Nat, k ≤ la ∧ i = .int .i64 k ∧ OfW ws W.heap.size k W v wr) (fun _ i _ => la - (intOf i).toNat)
  case atStart => exact ⟨0, Nat.zero_le _, rfl, Own.nil _ _ _, Below.refl _ _⟩
  case round =>
    obtain ⟨i, hi, rfl, hO, hbl⟩ := hrel
    have hbz := hbl.size
    have hSo : IsS u3 := hO.isS
    have HO := Lib.hid hO
    clear hO
    by_cases hia : i < la
    · have ca := (HV.out.below hbl).cell i (by rw [← Hla.out]; exact hia)
      obtain ⟨d, hd⟩ : ∃ d, d = ws.getD i 0 := ⟨_, rfl⟩
      rw [← hd] at ca
      have Hd := Lib.hid hd
      clear hd
      have hlk : (cellsW (ws.take i)).length = i := by rw [cellsW_length]; have := Hla.out; simp; omega
      have Hlk := Lib.hid hlk
      clear hlk
      go_wp2_with (at_builtin; refine wpList_append_O rfl _ _ _ _ rfl elemW W.heap.size _ _ rfl (HO.out.alloc _) _ rfl 1 [.int .u64 (d : Int)] (srcOne Try.underlying71 wr _ _) ?c3 ?c4 ?c5 ?_)
      case c3 => rw [Hlk.out]; unfold maxLen; omega
      case c4 => rw [Hlk.out]; omega
      case c5 => simp; omega
      rintro v1 w1 ho1 hb1 - - -
      have hs := OfW.step (by rw [← Hla.out]; exact hia) (by rw [← Hd.out]; exact ho1) ((hbl.alloc hbz _).trans hb1)
      have Hs := Lib.hid hs
      clear hs ho1
      go_wp2
      go_roundw
      case rel => exact ⟨i + 1, by omega, by go_num, Hs.out⟩
      case measure => simp [intOf]; omega
    · have hil : i = la := by omega
      have ca := hil
      subst hil
      have hfull : ws.take i = ws := List.take_of_length_le (by rw [Hla.out]; exact Nat.le_refl _)
      have ho := HO.out
      rw [hfull] at ho
      have Ho := Lib.hid ho
      have hrw := ho.rw' Hv.out.lt
      have Hrw := Lib.hid hrw
      have hrb := Lib.hid (keep_row hbl HR.out)
      have hfz := Lib.hid (box_row (Below.refl _ (wr.alloc (.cells #[.bool false, .slice none 0 0] 134))))
      clear hfull ho hrw
      go_wp2_with fail
      refine (intSetBits wr.heap.size 0 (.bool false) (.slice none 0 0) u3 ws _ (row_at hfz.out rfl) (row_at hfz.out rfl) (Hrw.out.below ((Below.refl _ _).alloc (Nat.le_refl _) _)) (by rw [← Hla.out]; omega)).mono ?_
      rintro _ w2 ⟨rfl, hw2⟩
      have hI := (setBits_fresh Ho.out Hv.out.lt hbz).1
      have hB2 := (setBits_fresh Ho.out Hv.out.lt hbz).2
      rw [← hw2] at hI hB2
      have HI := Lib.hid hI
      have HB2 := Lib.hid hB2
      obtain ⟨g, hg⟩ : ∃ g, g = wr.heap.size := ⟨_, rfl⟩
      rw [← hg] at HI hbz ⊢
      obtain ⟨v2, h21, h22, h23⟩ := HI.out
      have hS2 := h23.isS
      have hL2 : sLen v2 = nw (wv ws) := by rw [h23.len, cellsW_length, wds_length]
      have k0 := (row_at (i := 0) h22 rfl)
      have k1 := (row_at (i := 1) h22 rfl)
      have bx := (row_at (i := 0) (keep_row hB2 hrb.out) rfl).1
      have hBt := bthen hbl hB2
      have hBW := hab.trans (hBt.mono hWs)
      have HL2 := Lib.hid hL2
      clear hw2 hI hB2 hg h22 h23 hL2 ca
      cases b with
      | false =>
        go_wp2
        go_ret
        exact ⟨g, rfl, HI.out.mono hWs, hBW⟩
      | true =>
        go_wp2_with fail
        refine (intNeg_same g 0 false v2 w2 k0 k1 hS2).mono ?_
        rintro _ w3 ⟨rfl, nk, hw3⟩
        rw [HL2.out, and_pos] at hw3
        have h3 := HI.out.setNeg nk (decide (0 < wv ws))
        rw [← hw3] at h3
        have hBx : Below w.heap.size w w3 := by rw [hw3]; exact bset (undrewN' hBW) (Nat.le_trans hWs h21)
        have H3 := Lib.hid h3
        clear hw3 h3
        go_wp2
        go_ret
        exact ⟨g, rfl, H3.out.mono hWs, hBx⟩
end Go.Proofs.Ytniingblgkghgaa
