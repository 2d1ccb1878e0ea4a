/-
Texts of this proof, joined: SkC SkD DdD DdE MuX DdG DdH. No condition.
-/
import Derived.Test.YtllhnjpnkmjopaaGreatDoorK08
import Derived.Test.YtllhnjpnkmjopaaGreatDoorK20
import Derived.Test.YtllhnjpnkmjopaaGreatDoorK24
namespace Go.Proofs.YtllhnjpnkmjopaaGreatDoor
open Go.RowKit

def StO (w : World) (B s L : Nat) : Option (Nat × Value) → Prop
  | none => B ≤ s ∧ w.heap[s]? = some (.cells #[.pointer none] 182 (0, 0)) ∧ L = 0
  | some qv => B ≤ s ∧ B ≤ qv.1 ∧ w.heap[s]? = some (.cells #[.pointer (some ⟨qv.1, 0, none⟩)] 182 (0, 0)) ∧ w.heap[qv.1]? = some (.cells #[qv.2] 204 (0, 0)) ∧ ∃ xs : List Value, Own w B 116 qv.2 xs ∧ xs.length = L
def SBk (s : Nat) (o : Option (Nat × Value)) (k : Nat) : Prop := k = s ∨ ∃ qv, o = some qv ∧ (k = qv.1 ∨ (0 < sCap qv.2 ∧ k = sBlk qv.2))
def Cl (o : Option (Nat × Value)) (L : Nat) (y : Value) : Prop := ∀ qv, o = some qv → 0 < sCap qv.2 → 0 < sCap y → sBlk y = sBlk qv.2 → sOff y + sCap y ≤ sOff qv.2 + L
theorem StO.below {w w' : World} {B s L : Nat} {o : Option (Nat × Value)} (h : StO w B s L o) (hb : Below w.heap.size w w') : StO w' B s L o := by
  match o, h with
  | none, ⟨h0, h1, h2⟩ => exact ⟨h0, keep_row hb h1, h2⟩
  | some qv, ⟨h0, h1, h2, h3, xs, h4, h5⟩ => exact ⟨h0, h1, keep_row hb h2, keep_row hb h3, xs, h4.below hb, h5⟩
theorem StO.base {w : World} {B s L : Nat} {o : Option (Nat × Value)} (h : StO w B s L o) {k : Nat} (hk : SBk s o k) : B ≤ k ∧ k < w.heap.size := by
  match o, h with
  | none, ⟨h0, h1, h2⟩ =>
    rcases hk with rfl | ⟨_, h, _⟩
    · exact ⟨h0, get_lt h1⟩
    · cases h
  | some qv, ⟨h0, h1, h2, h3, xs, h4, h5⟩ =>
    rcases hk with rfl | ⟨_, h, h6 | ⟨h6, h7⟩⟩
    · exact ⟨h0, get_lt h2⟩
    · cases h; rw [h6]; exact ⟨h1, get_lt h3⟩
    · cases h; rw [h7]; exact h4.lt h6
set_option maxRecDepth 100000 in
theorem save_any (s B L : Nat) (o : Option (Nat × Value)) (w : World) (h : StO w B s L o) :
    Calls Tryz.prog 181 #[.pointer (some ⟨s, 0, none⟩)] w fun e w' => e = .returned (.int .i64 (L : Int)) ∧ w = w' := by
  match o, h with
  | none, ⟨h0, h1, h2⟩ =>
    subst h2
    obtain ⟨c0, -⟩ := row_at (i := 0) h1 rfl
    clear h1
    go_enter Tryz.func181, Tryz.ntmps181
    go_wp2
    go_ret
    exact ⟨rfl, rfl⟩
  | some (q, v), ⟨h0, h1, h2, h3, xs, h4, h5⟩ =>
    have c0 : w.cell? ⟨s, 0, none⟩ = some (.pointer (some ⟨q, 0, none⟩)) := (row_at (i := 0) h2 rfl).1
    have c1 : w.cell? ⟨q, 0, none⟩ = some v := (row_at (i := 0) h3 rfl).1
    have hS : IsS v := h4.isS
    have hL : sLen v = L := by rw [h4.len, h5]
    have HI : Hid (Calls Tryz.prog 209 #[.pointer (some ⟨q, 0, none⟩)] w fun e w' => e = .returned (.int .i64 (L : Int)) ∧ w = w') := Lib.hid (by
      clear h1 h2 h3 h4 h5 c0
      go_enter Tryz.func209, Tryz.ntmps209
      go_wp2
      go_ret
      exact ⟨rfl, rfl⟩)
    clear h1 h2 h3 h4 h5 c1 hL
    go_enter Tryz.func181, Tryz.ntmps181
    go_wp2_with fail
    refine HI.out.mono ?_
    rintro _ _ ⟨rfl, rfl⟩
    go_wp2
    go_ret
    exact ⟨rfl, rfl⟩
set_option maxRecDepth 100000 in
theorem restore_none (s n : Nat) (u : FrameMode) (w : World) (hs : w.heap[s]? = some (.cells #[.pointer none] 182 (0, 0))) :
    CallsD Tryz.prog 180 #[.pointer (some ⟨s, 0, none⟩), .int .i64 (n : Int)] u w fun e u' w' => u' = u ∧ (e = .returned (.tuple #[]) ∧ w' = w) := by
  obtain ⟨c0, -⟩ := row_at (i := 0) hs rfl
  clear hs
  go_enter_d Tryz.func180, Tryz.ntmps180
  go_wp2
  refine bodyPost_ret (results_none rfl _ _ _) rfl ?_
  exact ⟨rfl, rfl⟩
set_option maxRecDepth 100000 in
theorem restore_some (s q n : Nat) (v : Value) (u : FrameMode) (w : World) (hs : w.heap[s]? = some (.cells #[.pointer (some ⟨q, 0, none⟩)] 182 (0, 0))) (hq : w.heap[q]? = some (.cells #[v] 204 (0, 0))) (hv : IsS v) (hn : n ≤ sCap v) (_hn2 : n ≤ 100000000) :
    CallsD Tryz.prog 180 #[.pointer (some ⟨s, 0, none⟩), .int .i64 (n : Int)] u w fun e u' w' => u' = u ∧ (e = .returned (.tuple #[]) ∧ w' = w.setCell ⟨q, 0, none⟩ (subS v 0 n)) := by
  have c0 : w.cell? ⟨s, 0, none⟩ = some (.pointer (some ⟨q, 0, none⟩)) := (row_at (i := 0) hs rfl).1
  obtain ⟨c1, f1⟩ : w.cell? ⟨q, 0, none⟩ = some v ∧ w.frozen? ⟨q, 0, none⟩ = false := ⟨(row_at (i := 0) hq rfl).1, (row_at (i := 0) hq rfl).2⟩
  have hS0 : IsS (subS v 0 n) := subS_isS hv (Nat.zero_le _) hn
  have HI : Hid (Calls Tryz.prog 208 #[.pointer (some ⟨q, 0, none⟩), .int .i64 (n : Int)] w fun e w' => e = .returned (.tuple #[]) ∧ w' = w.setCell ⟨q, 0, none⟩ (subS v 0 n)) := Lib.hid (by
    clear hs hq c0
    go_enter Tryz.func208, Tryz.ntmps208
    go_wp2
    go_end0
    exact ⟨rfl, rfl⟩)
  clear hs hq c1 f1
  go_enter_d Tryz.func180, Tryz.ntmps180
  go_wp2_with fail
  refine HI.out.mono ?_
  rintro _ _ ⟨rfl, rfl⟩
  go_wp2
  go_end0
  exact ⟨rfl, rfl⟩
set_option maxRecDepth 100000 in
theorem free_some (s q : Nat) (v : Value) (u : FrameMode) (w : World) (hs : w.heap[s]? = some (.cells #[.pointer (some ⟨q, 0, none⟩)] 182 (0, 0))) (hq : w.heap[q]? = some (.cells #[v] 204 (0, 0))) (hv : IsS v) :
    CallsD Tryz.prog 121 #[.pointer (some ⟨s, 0, none⟩)] u w fun e u' w' => u' = u ∧ (e = .returned (.tuple #[]) ∧ w' = w.setCell ⟨q, 0, none⟩ (subS v 0 0)) := by
  have c0 : w.cell? ⟨s, 0, none⟩ = some (.pointer (some ⟨q, 0, none⟩)) := (row_at (i := 0) hs rfl).1
  obtain ⟨c1, f1⟩ : w.cell? ⟨q, 0, none⟩ = some v ∧ w.frozen? ⟨q, 0, none⟩ = false := ⟨(row_at (i := 0) hq rfl).1, (row_at (i := 0) hq rfl).2⟩
  have hS0 : IsS (subS v 0 0) := subS_isS hv (Nat.zero_le _) (Nat.zero_le _)
  have HI : Hid (Calls Tryz.prog 157 #[.pointer (some ⟨q, 0, none⟩)] w fun e w' => e = .returned (.tuple #[]) ∧ w' = w.setCell ⟨q, 0, none⟩ (subS v 0 0)) := Lib.hid (by
    clear hs hq c0
    go_enter Tryz.func157, Tryz.ntmps157
    go_wp2
    go_end0
    exact ⟨rfl, rfl⟩)
  clear hs hq c1 f1
  go_enter_d Tryz.func121, Tryz.ntmps121
  go_wp2_with fail
  refine HI.out.mono ?_
  rintro _ _ ⟨rfl, rfl⟩
  go_wp2
  go_end0
  exact ⟨rfl, rfl⟩
structure NtP (s n B L : Nat) (o : Option (Nat × Value)) (x : Value) (o' : Option (Nat × Value)) (L' : Nat) (w w' : World) : Prop where
  st : StO w' B s L' o'
  le : L ≤ L' ∧ L' ≤ L + n + 3
  sb : ∀ k, SBk s o' k → SBk s o k ∨ w.heap.size ≤ k
  own : ∃ zs : List Value, zs.length = n ∧ Own w' B 116 x zs
  cl : Cl o' L' x
  below : Below B w w'
  frame : ∀ k, k < w.heap.size → ¬ SBk s o k → w'.heap[k]? = w.heap[k]?
  live : ∀ y ys, Own w B 116 y ys → Cl o L y → Own w' B 116 y ys ∧ Cl o' L' y ∧ (0 < sCap y → sBlk x = sBlk y → sOff y + sCap y ≤ sOff x)
  at' : 0 < sCap x → SBk s o' (sBlk x) ∨ w.heap.size ≤ sBlk x
set_option maxRecDepth 100000 in
set_option maxHeartbeats 800000 in
theorem nat_some (s n B L q : Nat) (v : Value) (w : World) (h : StO w B s L (some (q, v))) (hB : B ≤ w.heap.size) (hn0 : 0 < n) (hn : n ≤ 1000000) (hl : L ≤ 1000000) :
    Calls Tryz.prog 182 #[.pointer (some ⟨s, 0, none⟩), .int .i64 n] w fun e w' => ∃ x o' L', e = .returned x ∧ NtP s n B L (some (q, v)) x o' L' w w' := by
  obtain ⟨h0, h1, h2, h3, xs, h4, h5⟩ := h
  simp only at h1 h2 h3 h4
  have c0 : w.cell? ⟨s, 0, none⟩ = some (.pointer (some ⟨q, 0, none⟩)) := (row_at (i := 0) h2 rfl).1
  have HS := Lib.hid (sinat_any q n B L v xs w h3 h4 h5 hB h1 hn0 hn hl)
  have HF : Hid (∀ x v' w', SiP q n B L v x v' w w' → NtP s n B L (some (q, v)) x (some (q, v')) (sLen v') w w') := Lib.hid (fun x v' w' p => by
    obtain ⟨ys, hy1, hy2, hyo⟩ := p.own
    have hlv : sLen v' = ys.length := hyo.len
    obtain ⟨p1, p2, p3, p4⟩ := p.pos
    have hsq : s ≠ q := fun he => by
      rw [he, h3] at h2
      have h7 := Option.some.inj h2
      injection h7 with _ h8
      exact absurd h8 (by decide)
    have hsv : 0 < sCap v → s ≠ sBlk v := fun hc he => by
      rcases h4.row with h | ⟨-, cur, hg, -⟩
      · omega
      · rw [← he, h2] at hg
        have h7 := Option.some.inj hg
        injection h7 with _ h8
        exact absurd h8 (by decide)
    have hrs : w'.heap[s]? = some (.cells #[.pointer (some ⟨q, 0, none⟩)] 182 (0, 0)) := (p.frame s (get_lt h2) hsq hsv).trans h2
    refine ⟨⟨h0, h1, hrs, p.row, ys, hyo, hlv.symm⟩, ⟨by omega, by omega⟩, ?_, p.ownx, ?_, p.below, ?_, ?_, fun _ => .inl (.inr ⟨_, rfl, .inr ⟨?_, p1⟩⟩)⟩
    · rintro k (rfl | ⟨qv, hqv, hk⟩)
      · exact .inl (.inl rfl)
      · cases hqv
        rcases hk with hk | ⟨hk1, hk2⟩
        · exact .inl (.inr ⟨_, rfl, .inl hk⟩)
        · rcases p.at' with ⟨a1, a2, a3⟩ | a1
          · exact .inl (.inr ⟨_, rfl, .inr ⟨a3, hk2.trans a1⟩⟩)
          · exact .inr (by rw [hk2]; exact a1)
    · rintro qv hqv - - -
      cases hqv
      simp only
      omega
    · intro k hk hnk
      exact p.frame k hk (fun he => hnk (.inr ⟨_, rfl, .inl he⟩)) (fun hc he => hnk (.inr ⟨_, rfl, .inr ⟨hc, he⟩⟩))
    · intro y ys' hy hcl
      have hcl' := hcl (q, v) rfl
      simp only at hcl'
      have hyc : 0 < sCap y → sBlk y = sBlk v' → sOff y + sCap y ≤ sOff v' + L := fun hc he => by
        rcases p.at' with ⟨a1, a2, a3⟩ | a1
        · rw [a2]; exact hcl' a3 hc (he.trans a1)
        · have := (hy.lt hc).2; omega
      by_cases hc0 : 0 < sCap y
      · refine ⟨p.live y ys' hy (fun a b => hcl' a hc0 b), ?_, fun hc he => ?_⟩
        · rintro qv hqv - hc he
          cases hqv
          have := hyc hc he
          simp only; omega
        · have := hyc hc (by rw [← he]; exact p1); omega
      · refine ⟨?_, fun _ _ _ h => absurd h hc0, fun h => absurd h hc0⟩
        refine ⟨hy.isS, hy.len, hy.cap, .inl (by omega)⟩
    · show 0 < sCap v'
      have := hyo.isS.le; omega)
  clear h2 h3 h4 h5
  go_enter Tryz.func182, Tryz.ntmps182
  go_wp2_with fail
  refine HS.out.mono ?_
  rintro _ w1 ⟨x, v', rfl, p⟩
  obtain ⟨zs, -, hzo⟩ := p.ownx
  have hSx := hzo.isS
  have Q := Lib.hid (HF.out x v' w1 p)
  clear p hzo
  go_wp2
  go_ret
  exact ⟨_, _, _, rfl, Q.out⟩
set_option maxRecDepth 100000 in
set_option maxHeartbeats 800000 in
theorem nat_small (s n B L : Nat) (w : World) (h : StO w B s L none) (hB : B ≤ w.heap.size) (hn0 : 0 < n) (hn : n ≤ 4) :
    Calls Tryz.prog 182 #[.pointer (some ⟨s, 0, none⟩), .int .i64 n] w fun e w' => ∃ x o' L', e = .returned x ∧ NtP s n B L none x o' L' w w' := by
  obtain ⟨h0, h1, h2⟩ := h
  have c0 : w.cell? ⟨s, 0, none⟩ = some (.pointer none) := (row_at (i := 0) h1 rfl).1
  have t1 : decide ((n : Int) ≤ 4) = true := decide_eq_true (by omega)
  have t2 : decide ((n : Int) > 0) = true := decide_eq_true (by omega)
  have t2' : decide (0 < n) = true := decide_eq_true hn0
  have HG := Lib.hid (growN_any (.slice none 0 0) [] n B w (Own.nil _ _ _) (by omega) (by simp) hB)
  have HR := Lib.hid h1
  have HL := Lib.hid h2
  clear h1 h2
  go_enter Tryz.func182, Tryz.ntmps182
  go_wp2_with fail
  refine HG.out.mono ?_
  rintro _ w1 ⟨r, rfl, hg⟩
  have hroom := hg.room
  simp only [List.length_nil, Nat.zero_add] at hroom
  obtain ⟨hbk, hb1⟩ : w.heap.size ≤ sBlk r ∧ Below w.heap.size w w1 := by
    rcases hg.how with ⟨-, rfl⟩ | ⟨a, -, b⟩
    · simp at hroom; omega
    · exact ⟨a, b⟩
  obtain ⟨ys, -, ho⟩ := hg.own
  have hSr := ho.isS
  obtain ⟨zs, hzs, hoz⟩ := ho.grow hroom
  have hSz := hoz.isS
  have hLz : sLen (subS r 0 n) = n := by rw [hoz.len, hzs]
  have hCz := hSz.le
  have hc0 : 0 < sCap (subS r 0 n) := by omega
  obtain ⟨u0, hu0⟩ : ∃ u, zs[0]? = some u := ⟨_, List.getElem?_eq_getElem (by omega)⟩
  have cx := hoz.cell hu0
  have fx := hoz.frozen hc0 (sOff (subS r 0 n))
  have hxs := hoz.set (i := 0) (by omega) (.int .u64 11259375)
  have hBx := (hoz.lt hc0).1
  rw [Nat.add_zero] at cx hxs
  have hbx : sBlk (subS r 0 n) = sBlk r := (sub0 hSr).1
  have Q : Hid (NtP s n B L none (subS r 0 n) none 0 w (w1.setCell ⟨sBlk (subS r 0 n), sOff (subS r 0 n), none⟩ (.int .u64 11259375))) := Lib.hid (by
    have hb2 : Below w.heap.size w (w1.setCell ⟨sBlk (subS r 0 n), sOff (subS r 0 n), none⟩ (.int .u64 11259375)) := bset hb1 (by rw [hbx]; exact hbk)
    refine ⟨⟨h0, keep_row hb2 HR.out, rfl⟩, ⟨by rw [HL.out]; exact Nat.le_refl _, by omega⟩, fun k hk => .inl hk, ⟨_, by rw [List.length_set]; exact hzs, hxs⟩, (fun _ h => by cases h), hb2.mono hB, fun k hk _ => hb2.block k hk, fun y ys hy _ => ⟨hy.below hb2, fun _ h => (by cases h), fun hc he => ?_⟩, fun _ => .inr (by rw [hbx]; exact hbk)⟩
    have := (hy.lt hc).2
    omega)
  clear hg ho hoz hu0 hxs hb1 hbk hbx
  go_wp2
  go_ret
  exact ⟨_, _, _, rfl, Q.out⟩
set_option maxRecDepth 100000 in
set_option maxHeartbeats 800000 in
theorem nat_big (s n B L : Nat) (w : World) (h : StO w B s L none) (hB : B ≤ w.heap.size) (hn0 : 4 < n) (hn : n ≤ 1000000) :
    Calls Tryz.prog 182 #[.pointer (some ⟨s, 0, none⟩), .int .i64 n] w fun e w' => ∃ x o' L', e = .returned x ∧ NtP s n B L none x o' L' w w' := by
  obtain ⟨h0, h1, h2⟩ := h
  have c0 : w.cell? ⟨s, 0, none⟩ = some (.pointer none) := (row_at (i := 0) h1 rfl).1
  have t1 : decide ((n : Int) ≤ 4) = false := decide_eq_false (by omega)
  have t1' : decide (n ≤ 4) = false := decide_eq_false (by omega)
  have hsl := get_lt h1
  obtain ⟨W, hW⟩ : ∃ W, W = (w.setCell ⟨s, 0, none⟩ (.pointer (some ⟨w.heap.size, 0, none⟩))).alloc (.cells #[.slice none 0 0] 204) := ⟨_, rfl⟩
  have hsz : (w.setCell ⟨s, 0, none⟩ (.pointer (some ⟨w.heap.size, 0, none⟩))).heap.size = w.heap.size := by simp [World.setCell]
  have hbA : Below w.heap.size (w.setCell ⟨s, 0, none⟩ (.pointer (some ⟨w.heap.size, 0, none⟩))) W := by rw [hW]; exact (Below.refl _ _).alloc (by omega) _
  have rs0 : (w.setCell ⟨s, 0, none⟩ (.pointer (some ⟨w.heap.size, 0, none⟩))).heap[s]? = some (.cells #[.pointer (some ⟨w.heap.size, 0, none⟩)] 182 (0, 0)) := rowset (i := 0) _ h1
  have rs : W.heap[s]? = some (.cells #[.pointer (some ⟨w.heap.size, 0, none⟩)] 182 (0, 0)) := (hbA.block s hsl).trans rs0
  have rq : W.heap[w.heap.size]? = some (.cells #[.slice none 0 0] 204 (0, 0)) := by
    have := heap_alloc_new (w.setCell ⟨s, 0, none⟩ (.pointer (some ⟨w.heap.size, 0, none⟩))) (.cells #[.slice none 0 0] 204)
    rw [hsz, ← hW] at this
    exact this
  have f0 : w.frozen? ⟨s, 0, none⟩ = false := (row_at (i := 0) h1 rfl).2
  have hWs : W.heap.size = w.heap.size + 1 := by rw [hW]; simp [World.setCell]
  have hbW : Below B w W := (bset (Below.refl _ _) h0).trans (hbA.mono hB)
  have hother : ∀ k, k < w.heap.size → k ≠ s → W.heap[k]? = w.heap[k]? := fun k hk hne =>
    (hbA.block k hk).trans (heap_setCell_other _ _ _ _ (by simp only; exact hne))
  have HS := Lib.hid (sinat_any w.heap.size n B 0 (.slice none 0 0) [] W rq (Own.nil _ _ _) rfl (by omega) hB (by omega) hn (by omega))
  have HF : Hid (∀ x v' w', SiP w.heap.size n B 0 (.slice none 0 0) x v' W w' → NtP s n B L none x (some (w.heap.size, v')) (sLen v') w w') := Lib.hid (fun x v' w' p => by
    obtain ⟨ys, hy1, hy2, hyo⟩ := p.own
    have hlv : sLen v' = ys.length := hyo.len
    obtain ⟨p1, p2, p3, p4⟩ := p.pos
    have hv' : W.heap.size ≤ sBlk v' := by
      rcases p.at' with ⟨-, -, h⟩ | h
      · simp at h
      · exact h
    have hn0' : 0 < sCap v' := by have := hyo.isS.le; omega
    have hrs : w'.heap[s]? = some (.cells #[.pointer (some ⟨w.heap.size, 0, none⟩)] 182 (0, 0)) := (p.frame s (by omega) (by omega) (fun h => by simp at h)).trans rs
    refine ⟨⟨h0, hB, hrs, p.row, ys, hyo, hlv.symm⟩, ⟨by omega, by omega⟩, ?_, p.ownx, ?_, hbW.trans p.below, ?_, ?_, fun _ => .inl (.inr ⟨_, rfl, .inr ⟨hn0', p1⟩⟩)⟩
    · rintro k (rfl | ⟨qv, hqv, hk⟩)
      · exact .inl (.inl rfl)
      · cases hqv
        rcases hk with hk | ⟨hk1, hk2⟩
        · exact .inr (by simp only at hk; omega)
        · exact .inr (by simp only at hk2; omega)
    · rintro qv hqv - - -
      cases hqv
      simp only
      omega
    · intro k hk hnk
      rw [p.frame k (by omega) (by omega) (fun h => by simp at h)]
      exact hother k hk (fun he => hnk (.inl he))
    · intro y ys' hy hcl
      by_cases hc0 : 0 < sCap y
      · have hyl := (hy.lt hc0).2
        have hys : sBlk y ≠ s := fun he => by
          rcases hy.row with h | ⟨-, cur, hg, -⟩
          · omega
          · rw [he, h1] at hg
            have h7 := Option.some.inj hg
            injection h7 with _ h8
            exact absurd h8 (by decide)
        have hyW : Own W B 116 y ys' := hy.same fun _ => hother _ hyl hys
        refine ⟨p.live y ys' hyW (fun h => by simp at h), ?_, fun hc he => by omega⟩
        rintro qv hqv - hc he
        cases hqv
        simp only at he
        omega
      · refine ⟨⟨hy.isS, hy.len, hy.cap, .inl (by omega)⟩, fun _ _ _ h => absurd h hc0, fun h => absurd h hc0⟩)
  clear h1 h2 rs0 rs rq hbA hbW hother hWs hsz
  go_enter Tryz.func182, Tryz.ntmps182
  go_upto_region 11 with fail
  rw [← hW]
  clear hW
  go_wp2_with fail
  refine HS.out.mono ?_
  rintro _ w1 ⟨x, v', rfl, p⟩
  obtain ⟨zs, -, hzo⟩ := p.ownx
  have hSx := hzo.isS
  have Q := Lib.hid (HF.out x v' w1 p)
  clear p hzo
  go_wp2
  go_ret
  exact ⟨_, _, _, rfl, Q.out⟩
theorem nat_any (s n B L : Nat) (o : Option (Nat × Value)) (w : World) (h : StO w B s L o) (hB : B ≤ w.heap.size) (hn0 : 0 < n) (hn : n ≤ 1000000) (hl : L ≤ 1000000) :
    Calls Tryz.prog 182 #[.pointer (some ⟨s, 0, none⟩), .int .i64 n] w fun e w' => ∃ x o' L', e = .returned x ∧ NtP s n B L o x o' L' w w' := by
  match o, h with
  | none, h =>
    by_cases h4 : n ≤ 4
    · exact nat_small s n B L w h hB hn0 h4
    · exact nat_big s n B L w h hB (by omega) hn
  | some (q, v), h => exact nat_some s n B L q v w h hB hn0 hn hl
theorem Own.frb {w w' : World} {B : Nat} {e : TypeId} {v : Value} {xs : List Value} {b lo hi : Nat} (h : Own w B e v xs) (f : FrB b lo hi w w') : ∃ ys : List Value, ys.length = xs.length ∧ Own w' B e v ys := by
  have hl := h.len
  have hcap := h.isS.le
  rcases h.row with h0 | ⟨hb, cur, hg, hsz, ht⟩
  · exact ⟨xs, rfl, h.isS, h.len, h.cap, .inl h0⟩
  · by_cases he : sBlk v = b
    · obtain ⟨c1, g1, g2, g3⟩ := f.row cur e (0, 0) (he ▸ hg)
      have hlen : ((c1.toList.drop (sOff v)).take xs.length).length = xs.length := by simp; omega
      exact ⟨(c1.toList.drop (sOff v)).take xs.length, hlen, h.isS, by omega, h.cap, .inr ⟨hb, c1, he ▸ g1, by omega, by rw [hlen]⟩⟩
    · exact ⟨xs, rfl, h.isS, h.len, h.cap, .inr ⟨hb, cur, (f.only _ (get_lt hg) he).trans hg, hsz, ht⟩⟩
theorem Own.frbx {w w' : World} {B : Nat} {e : TypeId} {v : Value} {xs : List Value} {b lo hi : Nat} (h : Own w B e v xs) (f : FrB b lo hi w w') (hn : sBlk v = b → sOff v + sCap v ≤ lo) : Own w' B e v xs := by
  have hl := h.len
  have hcap := h.isS.le
  refine ⟨h.isS, h.len, h.cap, ?_⟩
  rcases h.row with h0 | ⟨hb, cur, hg, hsz, ht⟩
  · exact .inl h0
  · by_cases he : sBlk v = b
    · obtain ⟨c1, g1, g2, g3⟩ := f.row cur e (0, 0) (he ▸ hg)
      refine .inr ⟨hb, c1, he ▸ g1, by omega, ?_⟩
      conv => rhs; rw [← ht]
      apply List.ext_getElem?
      intro i
      have hnn := hn he
      rw [List.getElem?_take, List.getElem?_take]
      split
      · rw [List.getElem?_drop, List.getElem?_drop, Array.getElem?_toList, Array.getElem?_toList, g3 _ (by omega)]
      · rfl
    · exact .inr ⟨hb, cur, (f.only _ (get_lt hg) he).trans hg, hsz, ht⟩
theorem StO.frb {w w' : World} {B s L b lo hi : Nat} {o : Option (Nat × Value)} (h : StO w B s L o) (f : FrB b lo hi w w') (hr : ∃ cur, w.heap[b]? = some (.cells cur 116 (0, 0))) : StO w' B s L o := by
  obtain ⟨cur, hr⟩ := hr
  have key : ∀ (k : Nat) (cs : Array Value) (T : TypeId), w.heap[k]? = some (.cells cs T (0, 0)) → T ≠ 116 → w'.heap[k]? = some (.cells cs T (0, 0)) := fun k cs T h1 hT => by
    have hne : k ≠ b := fun he => by
      rw [he, hr] at h1
      have h7 := Option.some.inj h1
      injection h7 with _ h8
      exact hT h8.symm
    exact (f.only k (get_lt h1) hne).trans h1
  match o, h with
  | none, ⟨h0, h1, h2⟩ => exact ⟨h0, key _ _ _ h1 (by decide), h2⟩
  | some qv, ⟨h0, h1, h2, h3, xs, h4, h5⟩ =>
    obtain ⟨ys, hy1, hy2⟩ := h4.frb f
    exact ⟨h0, h1, key _ _ _ h2 (by decide), key _ _ _ h3 (by decide), ys, hy2, hy1.trans h5⟩
theorem Own.rowOf {w : World} {B : Nat} {e : TypeId} {v : Value} {xs : List Value} (h : Own w B e v xs) (hc : 0 < sCap v) : ∃ cur, w.heap[sBlk v]? = some (.cells cur e (0, 0)) := by
  rcases h.row with h0 | ⟨-, cur, hg, -⟩
  · omega
  · exact ⟨cur, hg⟩
structure DbC (u q h v : Value) (n : Nat) : Prop where
  uq : sBlk u ≠ sBlk q
  uh : sBlk u ≠ sBlk h
  qh : sBlk q ≠ sBlk h
  vu : sBlk v ≠ sBlk u
  vq : sBlk v ≠ sBlk q
  vh : sBlk v = sBlk h → sOff v + n ≤ sOff h
structure Db (u q h v : Value) (Q V m n B s L : Nat) (o : Option (Nat × Value)) (us : List Nat) (J : Nat) (w wr : World) : Prop where
  ou : Own wr B 116 u (cellsW us)
  lu : us.length = m + n
  bu : ∀ d ∈ us, d < 18446744073709551616
  oq : ∃ qs : List Value, Own wr B 116 q qs ∧ qs.length = m ∧ ∀ k, J ≤ k → k < m → qs[k]? = some (.int .u64 ((wdg Q k : Nat) : Int))
  oh : ∃ hs : List Value, Own wr B 116 h hs ∧ hs.length = n + 1
  rv : RW wr v (wdsN V n)
  st : StO wr B s L o
  below : Below B w wr
  fr : ∀ k, k < w.heap.size → k ≠ sBlk u → k ≠ sBlk q → k ≠ sBlk h → wr.heap[k]? = w.heap[k]?
theorem Db.drewN {u q h v : Value} {Q V m n B s L J : Nat} {o : Option (Nat × Value)} {us : List Nat} {w wr : World} (d : Db u q h v Q V m n B s L o us J w wr) (k : Nat) : Db u q h v Q V m n B s L o us J w (wr.drewN k) := by
  obtain ⟨qs, q1, q2, q3⟩ := d.oq
  obtain ⟨hs, h1, h2⟩ := d.oh
  refine ⟨d.ou.drewN k, d.lu, d.bu, ⟨qs, q1.drewN k, q2, q3⟩, ⟨hs, h1.drewN k, h2⟩, d.rv.drewN k, ?_, undrewN' d.below, d.fr⟩
  match o, d.st with
  | none, h => exact h
  | some qv, ⟨a, b, c, e, xs, f, g⟩ => exact ⟨a, b, c, e, xs, f.drewN k, g⟩
theorem Db.inH {u q h v : Value} {Q V m n B s L J lo hi : Nat} {o : Option (Nat × Value)} {us : List Nat} {w wr w' : World} (C : DbC u q h v n) (d : Db u q h v Q V m n B s L o us J w wr) {hs : List Value}
    (ho : Own w' B 116 h hs) (hl : hs.length = n + 1) (hb : Below B wr w') (f : FrB (sBlk h) lo hi wr w') (hlo : sOff h ≤ lo) : Db u q h v Q V m n B s L o us J w w' := by
  obtain ⟨qs, q1, q2, q3⟩ := d.oq
  obtain ⟨hs0, h1, h2⟩ := d.oh
  have hc : 0 < sCap h := by have := h1.isS.le; have := h1.len; omega
  refine ⟨d.ou.frbx f (fun he => absurd he C.uh), d.lu, d.bu, ⟨qs, q1.frbx f (fun he => absurd he C.qh), q2, q3⟩, ⟨hs, ho, hl⟩, f.rw d.rv (fun he => .inl ?_), d.st.frb f (h1.rowOf hc), d.below.trans hb, fun k hk a b c => (f.only k (Nat.lt_of_lt_of_le hk d.below.size) c).trans (d.fr k hk a b c)⟩
  have := C.vh he
  rw [wdsN_length]; omega
theorem Db.inU {u q h v : Value} {Q V m n B s L J l r Z : Nat} {o : Option (Nat × Value)} {us : List Nat} {w wr w' : World} (C : DbC u q h v n) (d : Db u q h v Q V m n B s L o us J w wr) (hlr : l ≤ r) (hr : r ≤ m + n) (hp : 0 < m + n)
    (hv : VvP (subS u l r) (r - l) B Z wr w') :
    Db u q h v Q V m n B s L o (us.take l ++ (wdsN Z (r - l) ++ us.drop r)) J w w' ∧ (∀ hs, Own wr B 116 h hs → Own w' B 116 h hs) := by
  have hl := d.lu
  obtain ⟨g1, g2, g3⟩ := VvP.patch d.ou hlr (by rw [cellsW_length]; omega) hv
  rw [show (cellsW us).take l = cellsW (us.take l) by simp [cellsW, List.map_take], show (cellsW us).drop r = cellsW (us.drop r) by simp [cellsW, List.map_drop], cellsW_append, cellsW_append] at g1
  obtain ⟨qs, q1, q2, q3⟩ := d.oq
  obtain ⟨hs0, h1, h2⟩ := d.oh
  have hc : 0 < sCap u := by have := d.ou.isS.le; have := d.ou.len; rw [cellsW_length] at this; omega
  refine ⟨⟨g1, by simp [wdsN_length]; omega, ?_, ⟨qs, q1.frbx g3 (fun he => absurd he.symm C.uq), q2, q3⟩, ⟨hs0, h1.frbx g3 (fun he => absurd he.symm C.uh), h2⟩, g3.rw d.rv (fun he => absurd he C.vu), d.st.frb g3 (d.ou.rowOf hc), d.below.trans g2, fun k hk a b c => (g3.only k (Nat.lt_of_lt_of_le hk d.below.size) a).trans (d.fr k hk a b c)⟩, fun hs ho => ho.frbx g3 (fun he => absurd he.symm C.uh)⟩
  intro x hx
  rcases List.mem_append.1 hx with h | h
  · exact d.bu x (List.mem_of_mem_take h)
  · rcases List.mem_append.1 h with h | h
    · exact wdsN_lt x h
    · exact d.bu x (List.mem_of_mem_drop h)
theorem FrB.one (w : World) (b i : Nat) (u : Value) : FrB b i (i + 1) w (w.setCell ⟨b, i, none⟩ u) := (FrB.refl b i (i + 1) w).set (Nat.le_refl _) (Nat.lt_succ_self _) u
theorem Db.setU {u q h v : Value} {Q V m n B s L J i x : Nat} {o : Option (Nat × Value)} {us : List Nat} {w wr : World} (C : DbC u q h v n) (d : Db u q h v Q V m n B s L o us J w wr) (hi : i < m + n) (hx : x < 18446744073709551616) :
    Db u q h v Q V m n B s L o (us.set i x) J w (wr.setCell ⟨sBlk u, sOff u + i, none⟩ (.int .u64 (x : Int))) := by
  have hl := d.lu
  have hc : 0 < sCap u := by have := d.ou.isS.le; have := d.ou.len; rw [cellsW_length] at this; omega
  have g1 := d.ou.set (i := i) (by rw [cellsW_length]; omega) (.int .u64 (x : Int))
  rw [cellsW_set] at g1
  have g3 := FrB.one wr (sBlk u) (sOff u + i) (.int .u64 (x : Int))
  obtain ⟨qs, q1, q2, q3⟩ := d.oq
  obtain ⟨hs0, h1, h2⟩ := d.oh
  refine ⟨g1, by simpa using hl, ?_, ⟨qs, q1.frbx g3 (fun he => absurd he.symm C.uq), q2, q3⟩, ⟨hs0, h1.frbx g3 (fun he => absurd he.symm C.uh), h2⟩, g3.rw d.rv (fun he => absurd he C.vu), d.st.frb g3 (d.ou.rowOf hc), bset d.below (d.ou.lt hc).1, fun k hk a b c => (g3.only k (Nat.lt_of_lt_of_le hk d.below.size) a).trans (d.fr k hk a b c)⟩
  intro y hy
  rcases List.mem_or_eq_of_mem_set hy with h | h
  · exact d.bu y h
  · rw [h]; exact hx
theorem Db.setQ {u q h v : Value} {Q V m n B s L j : Nat} {o : Option (Nat × Value)} {us : List Nat} {w wr : World} (C : DbC u q h v n) (d : Db u q h v Q V m n B s L o us (j + 1) w wr) (hj : j < m) :
    Db u q h v Q V m n B s L o us j w (wr.setCell ⟨sBlk q, sOff q + j, none⟩ (.int .u64 ((wdg Q j : Nat) : Int))) := by
  obtain ⟨qs, q1, q2, q3⟩ := d.oq
  obtain ⟨hs0, h1, h2⟩ := d.oh
  have hc : 0 < sCap q := by have := q1.isS.le; have := q1.len; omega
  have g1 := q1.set (i := j) (by omega) (.int .u64 ((wdg Q j : Nat) : Int))
  have g3 := FrB.one wr (sBlk q) (sOff q + j) (.int .u64 ((wdg Q j : Nat) : Int))
  refine ⟨d.ou.frbx g3 (fun he => absurd he C.uq), d.lu, d.bu, ⟨_, g1, by simpa using q2, fun k hk hkm => ?_⟩, ⟨hs0, h1.frbx g3 (fun he => absurd he.symm C.qh), h2⟩, g3.rw d.rv (fun he => absurd he C.vq), d.st.frb g3 (q1.rowOf hc), bset d.below (q1.lt hc).1, fun k hk a b c => (g3.only k (Nat.lt_of_lt_of_le hk d.below.size) b).trans (d.fr k hk a b c)⟩
  rw [List.getElem?_set]
  by_cases he : j = k
  · rw [if_pos he, if_pos (by omega), he]
  · rw [if_neg he]; exact q3 k (by omega) hkm
theorem wtop {V k : Nat} (hV : V < 18446744073709551616 ^ (k + 1)) : V / 18446744073709551616 ^ k = wdg V k := by
  unfold wdg
  rw [Nat.mod_eq_of_lt (Nat.div_lt_of_lt_mul (by rw [← Nat.pow_succ]; exact hV))]
theorem dg_top {R V k : Nat} (hR : R < 18446744073709551616 * V) (hV : V < 18446744073709551616 ^ (k + 2)) : R < 18446744073709551616 ^ (k + 3) ∧ wdg R (k + 2) ≤ wdg V (k + 1) := by
  have h1 : R < 18446744073709551616 ^ (k + 3) := by
    rw [Nat.pow_succ, Nat.mul_comm]
    exact Nat.lt_of_lt_of_le hR (Nat.mul_le_mul_left _ (Nat.le_of_lt hV))
  refine ⟨h1, ?_⟩
  rw [← wtop h1, ← wtop hV, show 18446744073709551616 ^ (k + 2) = 18446744073709551616 * 18446744073709551616 ^ (k + 1) by rw [Nat.pow_succ 18446744073709551616 (k + 1), Nat.mul_comm], ← Nat.div_div_eq_div_mul]
  exact Nat.div_le_div_right (Nat.le_of_lt (Nat.div_lt_of_lt_mul hR))
theorem dg_guess {R V k qh rh : Nat} (hR : R < 18446744073709551616 ^ (k + 3)) (hV : V < 18446744073709551616 ^ (k + 2)) (hv1 : 0 < wdg V (k + 1)) (inv : qh * wdg V (k + 1) + rh = wdg R (k + 2) * 18446744073709551616 + wdg R (k + 1))
    (up : (wdg R (k + 2) * 18446744073709551616 + wdg R (k + 1)) * 18446744073709551616 + wdg R k < (qh + 1) * (wdg V (k + 1) * 18446744073709551616 + wdg V k)) (stop : qh * wdg V k ≤ rh * 18446744073709551616 + wdg R k) (hq : qh ≤ 18446744073709551616) :
    R / V ≤ qh ∧ qh ≤ R / V + 1 :=
  kd_guess (T := 18446744073709551616 ^ k) (wtop2 hV) (wtop3 hR) (Nat.mod_lt _ (wpow_pos k)) (Nat.mod_lt _ (wpow_pos k)) hv1 (by decide) inv up stop hq
theorem dg_max {R V k : Nat} (hR : R < 18446744073709551616 * V) (hV : V < 18446744073709551616 ^ (k + 2)) (he : wdg R (k + 2) = wdg V (k + 1)) (hv : 9223372036854775808 ≤ wdg V (k + 1)) (hVp : 0 < V) :
    R / V ≤ 18446744073709551615 ∧ 18446744073709551615 ≤ R / V + 1 := by
  have h3 := wtop3 (dg_top hR hV).1
  rw [he] at h3
  exact kd_max (b := 18446744073709551616) (T := 18446744073709551616 ^ k) (wtop2 hV) h3 (Nat.mod_lt _ (wpow_pos k)) (wdg_lt _ _) (by omega) hVp hR
theorem wdsN_succ (X n : Nat) : wdsN X (n + 1) = wdsN X n ++ [wdg X n] := by simp [wdsN, List.range_succ]
theorem list_fix {us : List Nat} {j n Z A L : Nat} (hl : j + n + 1 ≤ us.length) (hA : wdsN A n = wdsN L n) (hL : L < 18446744073709551616 ^ n) :
    ((us.take j ++ (wdsN Z (n + 1) ++ us.drop (j + n + 1))).take j ++ (wdsN A n ++ (us.take j ++ (wdsN Z (n + 1) ++ us.drop (j + n + 1))).drop (j + n))).set (j + n) 0 = us.take j ++ (wdsN L (n + 1) ++ us.drop (j + n + 1)) := by
  have l1 : (us.take j).length = j := by rw [List.length_take]; omega
  have e1 : (us.take j ++ (wdsN Z (n + 1) ++ us.drop (j + n + 1))).take j = us.take j := List.take_left' l1
  have e2 : (us.take j ++ (wdsN Z (n + 1) ++ us.drop (j + n + 1))).drop (j + n) = wdg Z n :: us.drop (j + n + 1) := by
    rw [← List.drop_drop, List.drop_left' l1, wdsN_succ, List.append_assoc, List.drop_left' (wdsN_length _ _)]; rfl
  rw [e1, e2, hA, List.set_append_right _ _ (by omega), l1, show j + n - j = n by omega, List.set_append_right _ _ (by rw [wdsN_length]; exact Nat.le_refl _), wdsN_length, Nat.sub_self, wdsN_succ, wdg_small hL (Nat.le_refl _), List.append_assoc]
  rfl
theorem round_words {U V m n j : Nat} (hV : 0 < V) (hVn : V ≤ 18446744073709551616 ^ n) (hj : j < m) :
    (wdsN (U % (V * 18446744073709551616 ^ (j + 1))) (m + n)).take j ++ (wdsN (U % (V * 18446744073709551616 ^ (j + 1)) / 18446744073709551616 ^ j % V) (n + 1) ++ (wdsN (U % (V * 18446744073709551616 ^ (j + 1))) (m + n)).drop (j + n + 1)) = wdsN (U % (V * 18446744073709551616 ^ j)) (m + n) := by
  have h1 : U % (V * 18446744073709551616 ^ (j + 1)) < 18446744073709551616 ^ (j + (n + 1)) := by
    refine Nat.lt_of_lt_of_le (Nat.mod_lt _ (Nat.mul_pos hV (wpow_pos _))) ?_
    rw [show j + (n + 1) = n + (j + 1) by omega, Nat.pow_add 18446744073709551616 n (j + 1)]
    exact Nat.mul_le_mul_right _ hVn
  have h2 : U % (V * 18446744073709551616 ^ (j + 1)) / 18446744073709551616 ^ j % V < 18446744073709551616 ^ (n + 1) :=
    Nat.lt_of_lt_of_le (Nat.mod_lt _ hV) (Nat.le_trans hVn (Nat.pow_le_pow_right (by decide) (Nat.le_succ n)))
  rw [(dd_step (U := U) (V := V) (j := j) hV).2.2]
  exact wdsN_patch (n := n + 1) (by omega) h1 h2
theorem q_lt {u2 u1 v1 : Nat} (h : u2 < v1) (h1 : u1 < 18446744073709551616) : (u2 * 18446744073709551616 + u1) / v1 < 18446744073709551616 := by
  refine Nat.div_lt_of_lt_mul ?_
  have := Nat.mul_le_mul_right 18446744073709551616 (Nat.succ_le_of_lt h)
  rw [Nat.succ_mul] at this
  omega
theorem q_zero {u2 u1 v1 : Nat} (h0 : u2 = 0) (h : u1 < v1) : (u2 * 18446744073709551616 + u1) / v1 = 0 := by
  rw [h0, Nat.zero_mul, Nat.zero_add]; exact Nat.div_eq_of_lt h
theorem q_over {b qq v2 x u0 : Nat} (hq : qq ≤ b) (hv : v2 ≤ b) (h : b ≤ x) : qq * v2 ≤ x * b + u0 :=
  Nat.le_trans (Nat.mul_le_mul (Nat.le_trans hq h) hv) (Nat.le_add_right _ _)
theorem q_borrow {b z y2 v2 P Q : Nat} (h3 : z * b + b + y2 = P) (e1 : P = Q + v2) (_h : y2 < v2) (hv : v2 ≤ b) : (z + 1 - 1) * b + (y2 + b - v2) = Q := by
  rw [Nat.add_sub_cancel]
  generalize z * b = t at *
  omega
theorem q_hi {b x y : Nat} (hx : x < b) (hy : y < b) : x * y / b < b := Nat.div_lt_of_lt_mul (Nat.mul_lt_mul'' hx hy)
theorem q_step {qq rr v1 v2 y1 y2 u0 N2 : Nat} (h1 : (qq + 1) * v1 + rr = N2) (h3 : y1 * 18446744073709551616 + y2 = (qq + 1) * v2) (_h4 : y2 < 18446744073709551616) (hv2 : v2 < 18446744073709551616) (_hr : rr < 18446744073709551616) (_hv1 : v1 < 18446744073709551616) (_hv1p : 0 < v1) (hq : qq + 1 < 18446744073709551616)
    (go : rr * 18446744073709551616 + u0 < (qq + 1) * v2) :
    qq * v1 + (rr + v1) = N2 ∧ N2 * 18446744073709551616 + u0 < (qq + 1) * (v1 * 18446744073709551616 + v2) ∧
    (18446744073709551616 ≤ rr + v1 → qq * v2 ≤ (rr + v1) * 18446744073709551616 + u0) ∧
    (v2 ≤ y2 → y1 * 18446744073709551616 + (y2 - v2) = qq * v2) ∧ (y2 < v2 → 0 < y1 ∧ (y1 - 1) * 18446744073709551616 + (y2 + 18446744073709551616 - v2) = qq * v2) := by
  obtain ⟨k1, k2⟩ := kd_step h1 go
  have e1 : (qq + 1) * v2 = qq * v2 + v2 := by rw [Nat.add_mul, Nat.one_mul]
  refine ⟨k2, k1, fun h => ?_, fun h => by omega, fun h => ?_⟩
  · exact q_over (Nat.le_of_lt (by omega)) (Nat.le_of_lt hv2) h
  · have hy : 0 < y1 := by
      rcases Nat.eq_zero_or_pos y1 with h0 | h0
      · subst h0; omega
      · exact h0
    refine ⟨hy, ?_⟩
    obtain ⟨z, rfl⟩ : ∃ z, y1 = z + 1 := ⟨y1 - 1, by omega⟩
    rw [Nat.add_mul, Nat.one_mul] at h3
    exact q_borrow h3 e1 h (Nat.le_of_lt hv2)
theorem Vv.srcd {v x : Value} {n B i Z : Nat} {xs : List Nat} {w wr : World} (h : Vv v n B i Z w wr) (hx : RW w x xs) (hal : sBlk x = sBlk v → sOff x + xs.length ≤ sOff v) {j : Nat} (hj : j < xs.length) : wr.cell? ⟨sBlk x, sOff x + j, none⟩ = some (.int .u64 ((xs.getD j 0 : Nat) : Int)) := by
  obtain ⟨os, ds, h1, h2, h3, h4, h5, h6, h7, h8⟩ := h
  exact h8.cell (hx.cell j hj) (fun hb => by have := hal hb; omega)
set_option maxRecDepth 100000 in
set_option maxHeartbeats 1600000 in
theorem mulAddVWW_g_dis (v x : Value) (os : List Value) (xs : List Nat) (y r B : Nat) (w : World) (ho : Own w B 116 v os) (hx : RW w x xs) (hlx : xs.length = os.length)
    (hax : sBlk x = sBlk v → sOff x + xs.length ≤ sOff v) (hy : y < 18446744073709551616) (hr : r < 18446744073709551616) (hl : os.length ≤ 1000000000) :
    Calls Tryz.prog 226 #[v, x, .int .u64 y, .int .u64 r] w fun e w' => ∃ c : Nat, e = .returned (.int .u64 c) ∧ (c < 18446744073709551616 ∧ wv xs * y + r = wv (wdsN (wv xs * y + r) os.length) + 18446744073709551616 ^ os.length * c) ∧ VvP v os.length B (wv xs * y + r) w w' := by
  have hS := ho.isS
  have hSx := hx.isS
  obtain ⟨L, hLw⟩ : ∃ L, L = os.length := ⟨_, rfl⟩
  have hL : sLen v = L := by rw [hLw]; exact ho.len
  have hLx : sLen x = L := by rw [hx.len, hlx, hLw]
  have R0 := Lib.hid (Vv.start ho hLw.symm)
  have HB0 : Hid (0 < L → 0 < sCap v ∧ B ≤ sBlk v) := Lib.hid (fun h => by
    have := hS.le
    have hc : 0 < sCap v := by omega
    exact ⟨hc, (ho.lt hc).1⟩)
  have HXL : Hid (xs.length = L) := Lib.hid (by omega)
  rw [← hLw] at hl ⊢
  have HX := Lib.hid hx
  have HAX := Lib.hid hax
  clear ho hLw hx hlx hax
  go_enter Tryz.func226, Tryz.ntmps226
  go_wp2
  go_loopw [8, 19] (fun c i wr => ∃ k d Z : Nat, k ≤ L ∧ i = .int .i64 k ∧ c = .int .u64 d ∧ (d < 18446744073709551616 ∧ wv (xs.take k) * y + r = Z + 18446744073709551616 ^ k * d) ∧ Vv v L B k Z w wr) (fun c i _ => L - (intOf i).toNat)
  case atStart => exact ⟨0, r, 0, Nat.zero_le _, rfl, rfl, ⟨hr, by simp [wv]⟩, R0.out⟩
  case round =>
    obtain ⟨k, d, Z, hk, rfl, rfl, ⟨hd, hZ⟩, hrel⟩ := hrel
    have HREL := Lib.hid hrel
    by_cases hkL : k < L
    · obtain ⟨hcap, hB⟩ := HB0.out (by omega)
      have cx := hrel.srcd HX.out HAX.out (by rw [HXL.out]; exact hkL)
      obtain ⟨u, cv⟩ := hrel.own hkL
      have fz := hrel.frozen hcap (sOff v + k)
      have hxl := getD_ltW HX.out.lt k
      have e1 := wv_take_succ (ws := xs) (i := k) (by rw [HXL.out]; exact hkL)
      obtain ⟨a, ha⟩ : ∃ a, a = xs.getD k 0 := ⟨_, rfl⟩
      rw [← ha] at cx hxl e1
      obtain ⟨s, c, hsc, hs⟩ : ∃ s c, a * y + d = s + 18446744073709551616 * c ∧ s < 18446744073709551616 := ⟨(a * y + d) % 18446744073709551616, (a * y + d) / 18446744073709551616, by omega, by omega⟩
      have hc1 := mul_word_lt hxl hy hd hsc
      have HA : Hid (Calls Tryz.prog 235 #[.int .u64 a, .int .u64 y, .int .u64 d] wr fun e w' => e = .returned (.tuple #[.int .u64 c, .int .u64 s]) ∧ w' = wr) := Lib.hid (mulWWW_any a y d c s _ hxl hy hd hsc hs hc1)
      have HZ : Hid (wv (xs.take (k + 1)) * y + r = Z + 18446744073709551616 ^ k * s + 18446744073709551616 ^ (k + 1) * c) := Lib.hid (by
        rw [e1, Nat.pow_succ, Nat.mul_assoc]
        have h1 : 18446744073709551616 ^ k * (a * y + d) = 18446744073709551616 ^ k * s + 18446744073709551616 ^ k * (18446744073709551616 * c) := by rw [hsc, Nat.mul_add]
        rw [Nat.mul_add, ← Nat.mul_assoc] at h1
        rw [Nat.add_mul]
        omega)
      have PUT := Lib.hid (HREL.out.put hkL hB hs)
      clear hrel e1 ha hZ hsc
      go_wp2_with fail
      refine HA.out.mono ?_
      rintro _ _ ⟨rfl, rfl⟩
      go_wp2
      exact ⟨⟨k + 1, c, _, by omega, by go_num, rfl, ⟨hc1, HZ.out⟩, PUT.out⟩, by simp [intOf]; omega⟩
    · have hkk : k = L := by omega
      have HD : Hid ((d < 18446744073709551616 ∧ wv xs * y + r = wv (wdsN (wv xs * y + r) L) + 18446744073709551616 ^ L * d) ∧ VvP v L B (wv xs * y + r) w wr) := Lib.hid (by
        subst hkk
        rw [List.take_of_length_le (by rw [HXL.out]; exact Nat.le_refl _)] at hZ
        have hZl : Z < 18446744073709551616 ^ k := by
          obtain ⟨os', ds, g1, g2, g3, g4, g5, g6, g7, g8⟩ := hrel
          have := wv_lt g5
          rw [g4] at this; omega
        refine ⟨⟨hd, ?_⟩, hrel.done d hZ⟩
        rw [wdsN_wv, hZ, Nat.add_mul_mod_self_left, Nat.mod_eq_of_lt hZl])
      clear hrel hZ HREL
      go_wp2
      go_ret
      exact ⟨d, rfl, HD.out⟩
set_option maxRecDepth 100000 in
theorem mulAddVWW_dis (v x : Value) (os : List Value) (xs : List Nat) (y r B : Nat) (w : World) (ho : Own w B 116 v os) (hx : RW w x xs) (hlx : xs.length = os.length)
    (hax : sBlk x = sBlk v → sOff x + xs.length ≤ sOff v) (hy : y < 18446744073709551616) (hr : r < 18446744073709551616) (hl : os.length ≤ 1000000000) :
    Calls Tryz.prog 207 #[v, x, .int .u64 y, .int .u64 r] w fun e w' => ∃ c : Nat, e = .returned (.int .u64 c) ∧ (c < 18446744073709551616 ∧ wv xs * y + r = wv (wdsN (wv xs * y + r) os.length) + 18446744073709551616 ^ os.length * c) ∧ VvP v os.length B (wv xs * y + r) w w' := by
  have hS := ho.isS
  have hSx := hx.isS
  have H := Lib.hid (mulAddVWW_g_dis v x os xs y r B w ho hx hlx hax hy hr hl)
  clear ho hx hlx hax hl
  go_enter Tryz.func207, Tryz.ntmps207
  go_wp2_with fail
  refine H.out.mono ?_
  rintro _ w1 ⟨c, rfl, h1, h2⟩
  have H1 := Lib.hid (And.intro h1 h2)
  clear h1 h2
  go_wp2
  go_ret
  exact ⟨c, rfl, H1.out⟩
theorem prod_lt {V n qh : Nat} (hV : V < 18446744073709551616 ^ n) (hq : qh < 18446744073709551616) : V * qh < 18446744073709551616 ^ (n + 1) := by
  rw [Nat.pow_succ]; exact Nat.mul_lt_mul'' hV hq
structure HaP (u q h v : Value) (Q V m n B s L : Nat) (o : Option (Nat × Value)) (us : List Nat) (J qh c : Nat) (w w1 : World) : Prop where
  db : Db u q h v Q V m n B s L o us J w (w1.setCell ⟨sBlk h, sOff h + n, none⟩ (.int .u64 (c : Int)))
  own : Own (w1.setCell ⟨sBlk h, sOff h + n, none⟩ (.int .u64 (c : Int))) B 116 h (cellsW (wdsN (V * qh) (n + 1)))
  lt : c < 18446744073709551616
  zero : qh = 0 → c = 0
  cell : ∃ x, w1.cell? ⟨sBlk h, sOff h + n, none⟩ = some x
  fz : w1.frozen? ⟨sBlk h, sOff h + n, none⟩ = false
theorem ha_call {u q h v : Value} {Q V m n B s L J qh : Nat} {o : Option (Nat × Value)} {us : List Nat} {w wr : World} (C : DbC u q h v n) (d : Db u q h v Q V m n B s L o us J w wr) (hV : V < 18446744073709551616 ^ n) (hq : qh < 18446744073709551616) (hn : n ≤ 1000000) :
    Calls Tryz.prog 207 #[subS h 0 n, v, .int .u64 qh, .int .u64 0] wr fun e w1 => ∃ c : Nat, e = .returned (.int .u64 c) ∧ HaP u q h v Q V m n B s L o us J qh c w w1 := by
  obtain ⟨hs, h1, h2⟩ := d.oh
  have hS := h1.isS
  have hLh := h1.len
  have hC := hS.le
  have hc : 0 < sCap h := by omega
  have hsub := h1.sub (l := 0) (n := n) (Nat.zero_le _) (by omega)
  have hsl : ((hs.take n).drop 0).length = n := by simp; omega
  have hvl : (wdsN V n).length = n := wdsN_length _ _
  have hwv : wv (wdsN V n) = V := wv_wdsN_lt hV
  have hcall := mulAddVWW_dis (subS h 0 n) v _ (wdsN V n) qh 0 B wr hsub d.rv (by rw [hvl, hsl]) (by rw [(sub0 hS).1, (sub0 hS).2, hvl]; exact C.vh) hq (by decide) (by rw [hsl]; omega)
  rw [hsl, hwv, Nat.add_zero] at hcall
  refine hcall.mono ?_
  rintro _ w1 ⟨c, rfl, ⟨hcl, hcs⟩, hvp⟩
  have hpt := VvP.patch (l := 0) (n := n) h1 (Nat.zero_le _) (by omega) (by rw [Nat.sub_zero]; exact hvp)
  rw [List.take_zero, List.nil_append, Nat.sub_zero, Nat.add_zero] at hpt
  obtain ⟨g1, g2, g3⟩ := hpt
  have hll : (cellsW (wdsN (V * qh) n) ++ hs.drop n).length = n + 1 := by rw [List.length_append, cellsW_length, wdsN_length, List.length_drop]; omega
  have gs := g1.set (i := n) (by omega) (.int .u64 (c : Int))
  have hcw : c = wdg (V * qh) n := by
    rw [wdsN_wv] at hcs
    have h5 := wmod_succ (V * qh) n
    rw [Nat.mod_eq_of_lt (prod_lt hV hq)] at h5
    exact Nat.eq_of_mul_eq_mul_left (wpow_pos n) (by omega)
  have es : (cellsW (wdsN (V * qh) n) ++ hs.drop n).set n (.int .u64 (c : Int)) = cellsW (wdsN (V * qh) (n + 1)) := by
    obtain ⟨x, hx⟩ : ∃ x, hs.drop n = [x] := List.length_eq_one_iff.1 (by rw [List.length_drop]; omega)
    rw [hx, List.set_append_right _ _ (by rw [cellsW_length, wdsN_length]; exact Nat.le_refl _), cellsW_length, wdsN_length, Nat.sub_self, wdsN_succ, ← cellsW_append, hcw]
    rfl
  rw [es] at gs
  have hB := (g1.lt hc).1
  have hfr : FrB (sBlk h) (sOff h) (sOff h + n + 1) wr (w1.setCell ⟨sBlk h, sOff h + n, none⟩ (.int .u64 (c : Int))) := ((g3.mono (Nat.le_refl _) (Nat.le_succ _)).set (by omega) (by omega) _)
  refine ⟨c, rfl, ?_, gs, hcl, fun h0 => ?_, ⟨_, g1.cell (List.getElem?_eq_getElem (by rw [hll]; omega))⟩, g1.frozen hc _⟩
  · exact d.inH C gs (by rw [cellsW_length, wdsN_length]) (bset g2 hB) hfr (Nat.le_refl _)
  · rw [hcw, h0, Nat.mul_zero]; simp [wdg]
structure SbP (u q h v : Value) (Q V m n B s L : Nat) (o : Option (Nat × Value)) (us : List Nat) (hs : List Value) (J j r P c Z : Nat) (w w1 : World) : Prop where
  db : Db u q h v Q V m n B s L o (us.take j ++ (wdsN Z r ++ us.drop (j + r))) J w w1
  own : Own w1 B 116 h hs
  le : c ≤ 1
  lt : Z < 18446744073709551616 ^ r
  eq : wv ((us.take (j + r)).drop j) + 18446744073709551616 ^ r * c = Z + P % 18446744073709551616 ^ r
theorem Own.win {w : World} {B : Nat} {v : Value} {us : List Nat} (h : Own w B 116 v (cellsW us)) (hd : ∀ d ∈ us, d < 18446744073709551616) {l r : Nat} (h1 : l ≤ r) (h2 : r ≤ us.length) : RW w (subS v l r) ((us.take r).drop l) := by
  have := h.sub h1 (by rw [cellsW_length]; exact h2)
  rw [show (cellsW us).take r = cellsW (us.take r) by simp [cellsW, List.map_take], show (cellsW (us.take r)).drop l = cellsW ((us.take r).drop l) by simp [cellsW, List.map_drop]] at this
  exact this.rw' fun d hd' => hd d (List.mem_of_mem_take (List.mem_of_mem_drop hd'))
theorem sb_call {u q h v : Value} {Q V m n B s L J j r P : Nat} {o : Option (Nat × Value)} {us : List Nat} {w wr : World} (C : DbC u q h v n) (d : Db u q h v Q V m n B s L o us J w wr) (ho : Own wr B 116 h (cellsW (wdsN P (n + 1)))) (hr0 : 0 < r) (hr : r ≤ n + 1) (hjr : j + r ≤ m + n) (hn : n ≤ 1000000) :
    Calls Tryz.prog 188 #[subS u j (j + r), subS u j (j + r), subS h 0 r] wr fun e w1 => ∃ c : Nat, e = .returned (.int .u64 c) ∧ ∃ Z, SbP u q h v Q V m n B s L o us (cellsW (wdsN P (n + 1))) J j r P c Z w w1 := by
  have hSu := d.ou.isS
  have hSh := ho.isS
  have hl := d.lu
  have hwin := d.ou.win d.bu (l := j) (r := j + r) (by omega) (by omega)
  have hwl : ((us.take (j + r)).drop j).length = r := by rw [List.length_drop, List.length_take]; omega
  have hsub := d.ou.sub (l := j) (n := j + r) (by omega) (by rw [cellsW_length]; omega)
  have hsl : (((cellsW us).take (j + r)).drop j).length = r := by rw [List.length_drop, List.length_take, cellsW_length]; omega
  have hhw := ho.win wdsN_lt (l := 0) (r := r) (Nat.zero_le _) (by rw [wdsN_length]; omega)
  have hhe : ((wdsN P (n + 1)).take r).drop 0 = wdsN P r := by
    have := wdsN_window P (n + 1) (j := 0) (n := r) (by omega)
    rw [Nat.zero_add, Nat.pow_zero, Nat.div_one] at this
    exact this
  rw [hhe] at hhw
  have hcall := subVV_any (subS u j (j + r)) (subS u j (j + r)) (subS h 0 r) _ _ _ B wr hsub hwin hhw (by rw [hwl, hsl]) (by rw [wdsN_length, hsl]) (fun _ => Nat.le_refl _) (by rw [subS_blk hSu, (sub0 hSh).1]; intro he; exact absurd he.symm C.uh) (by rw [hsl]; omega)
  rw [hsl, wdsN_wv] at hcall
  refine hcall.mono ?_
  rintro _ w1 ⟨c, rfl, Z, g1, g2, g3, g4⟩
  obtain ⟨k1, k2⟩ := d.inU C (l := j) (r := j + r) (by omega) hjr (by omega) (by rw [show j + r - j = r by omega]; exact g4)
  rw [show j + r - j = r by omega] at k1
  exact ⟨c, rfl, Z, k1, k2 _ ho, g1, g2, g3⟩
structure AdP (u q h v : Value) (Q V m n B s L : Nat) (o : Option (Nat × Value)) (us : List Nat) (J j c A : Nat) (w w1 : World) : Prop where
  db : Db u q h v Q V m n B s L o (us.take j ++ (wdsN A n ++ us.drop (j + n))) J w w1
  le : c ≤ 1
  sum : A = wv ((us.take (j + n)).drop j) + V
  eq : A = A % 18446744073709551616 ^ n + 18446744073709551616 ^ n * c
theorem ad_call {u q h v : Value} {Q V m n B s L J j : Nat} {o : Option (Nat × Value)} {us : List Nat} {w wr : World} (C : DbC u q h v n) (d : Db u q h v Q V m n B s L o us J w wr) (hV : V < 18446744073709551616 ^ n) (hn0 : 0 < n) (hjr : j + n ≤ m + n) (hn : n ≤ 1000000) :
    Calls Tryz.prog 187 #[subS u j (j + n), subS u j (j + n), v] wr fun e w1 => ∃ c : Nat, e = .returned (.int .u64 c) ∧ ∃ A, AdP u q h v Q V m n B s L o us J j c A w w1 := by
  have hSu := d.ou.isS
  have hl := d.lu
  have hwin := d.ou.win d.bu (l := j) (r := j + n) (by omega) (by omega)
  have hwl : ((us.take (j + n)).drop j).length = n := by rw [List.length_drop, List.length_take]; omega
  have hsub := d.ou.sub (l := j) (n := j + n) (by omega) (by rw [cellsW_length]; omega)
  have hsl : (((cellsW us).take (j + n)).drop j).length = n := by rw [List.length_drop, List.length_take, cellsW_length]; omega
  have hwv : wv (wdsN V n) = V := wv_wdsN_lt hV
  have hcall := addVV_any (subS u j (j + n)) (subS u j (j + n)) v _ _ _ B wr hsub hwin d.rv (by rw [hwl, hsl]) (by rw [wdsN_length, hsl]) (fun _ => Nat.le_refl _) (by rw [subS_blk hSu]; intro he; exact absurd he C.vu) (by rw [hsl]; omega)
  rw [hsl, hwv, wdsN_wv] at hcall
  refine hcall.mono ?_
  rintro _ w1 ⟨c, rfl, ⟨g1, g2⟩, g4⟩
  obtain ⟨k1, k2⟩ := d.inU C (l := j) (r := j + n) (by omega) hjr (by omega) (by rw [show j + n - j = n by omega]; exact g4)
  rw [show j + n - j = n by omega] at k1
  exact ⟨c, rfl, _, k1, g1, rfl, g2⟩
theorem win_val {X R m n j r : Nat} (hR : R = X / 18446744073709551616 ^ j) (hjr : j + r ≤ m + n) : wv (((wdsN X (m + n)).take (j + r)).drop j) = R % 18446744073709551616 ^ r := by
  rw [wdsN_window X (m + n) hjr, wdsN_wv, ← hR]
theorem wdsN_low (A n : Nat) : wdsN (A % 18446744073709551616 ^ n) n = wdsN A n :=
  wdsN_of (wdsN_length _ _) fun i hi => by rw [wdsN_getD hi, wdg_lowmod _ _ _ hi]
theorem fin0 {u q h v : Value} {Q U V m n B s L j X R qh Z : Nat} {o : Option (Nat × Value)} {hs : List Value} {w w1 : World} (hX : X = U % (V * 18446744073709551616 ^ (j + 1))) (hR : R = X / 18446744073709551616 ^ j) (hVp : 0 < V) (hVn : V < 18446744073709551616 ^ n) (hj : j < m)
    (g1 : R < 18446744073709551616 ^ (n + 1)) (p1 : R / V ≤ qh) (p2 : qh ≤ R / V + 1) (hq : qh < 18446744073709551616) (sp : SbP u q h v Q V m n B s L o (wdsN X (m + n)) hs (j + 1) j (n + 1) (V * qh) 0 Z w w1) :
    qh = R / V ∧ Db u q h v Q V m n B s L o (wdsN (U % (V * 18446744073709551616 ^ j)) (m + n)) (j + 1) w w1 := by
  have he := sp.eq
  rw [win_val hR (by omega), Nat.mod_eq_of_lt g1, Nat.mul_zero, Nat.add_zero, Nat.mod_eq_of_lt (prod_lt hVn hq), Nat.add_comm, Nat.mul_comm] at he
  obtain ⟨k1, k2⟩ := kd_sub0 hVp p1 he p2
  refine ⟨k1, ?_⟩
  have hd := sp.db
  rw [k2, hR, hX, show j + (n + 1) = j + n + 1 by omega, round_words hVp (Nat.le_of_lt hVn) hj] at hd
  exact hd
theorem fin1 {u q h v : Value} {Q U V m n B s L j X R qh Z A c : Nat} {o : Option (Nat × Value)} {hs : List Value} {w w1 w2 : World} (hX : X = U % (V * 18446744073709551616 ^ (j + 1))) (hR : R = X / 18446744073709551616 ^ j) (hVp : 0 < V) (hVn : V < 18446744073709551616 ^ n) (hj : j < m)
    (g1 : R < 18446744073709551616 ^ (n + 1)) (p1 : R / V ≤ qh) (p2 : qh ≤ R / V + 1) (hq : qh < 18446744073709551616) (sp : SbP u q h v Q V m n B s L o (wdsN X (m + n)) hs (j + 1) j (n + 1) (V * qh) 1 Z w w1)
    (ap : AdP u q h v Q V m n B s L o ((wdsN X (m + n)).take j ++ (wdsN Z (n + 1) ++ (wdsN X (m + n)).drop (j + (n + 1)))) (j + 1) j c A w w2) :
    0 < qh ∧ qh - 1 = R / V ∧ wdg Z n + c = 18446744073709551616 ∧
    (((wdsN X (m + n)).take j ++ (wdsN Z (n + 1) ++ (wdsN X (m + n)).drop (j + (n + 1)))).take j ++ (wdsN A n ++ ((wdsN X (m + n)).take j ++ (wdsN Z (n + 1) ++ (wdsN X (m + n)).drop (j + (n + 1)))).drop (j + n))).getD (j + n) 0 = wdg Z n ∧
    (((wdsN X (m + n)).take j ++ (wdsN Z (n + 1) ++ (wdsN X (m + n)).drop (j + (n + 1)))).take j ++ (wdsN A n ++ ((wdsN X (m + n)).take j ++ (wdsN Z (n + 1) ++ (wdsN X (m + n)).drop (j + (n + 1)))).drop (j + n))).set (j + n) 0 = wdsN (U % (V * 18446744073709551616 ^ j)) (m + n) := by
  have he := sp.eq
  rw [win_val hR (by omega), Nat.mod_eq_of_lt g1, Nat.mul_one, Nat.mod_eq_of_lt (prod_lt hVn hq), Nat.add_comm Z, Nat.mul_comm V, Nat.pow_succ] at he
  have l1 : ((wdsN X (m + n)).take j).length = j := by rw [List.length_take, wdsN_length]; omega
  have ea : ((wdsN X (m + n)).take j ++ (wdsN Z (n + 1) ++ (wdsN X (m + n)).drop (j + (n + 1)))).take j = (wdsN X (m + n)).take j := List.take_left' l1
  have ew : (((wdsN X (m + n)).take j ++ (wdsN Z (n + 1) ++ (wdsN X (m + n)).drop (j + (n + 1)))).take (j + n)).drop j = wdsN Z n := by
    rw [List.take_append, l1, List.take_of_length_le (by omega), show j + n - j = n by omega, List.drop_left' l1, wdsN_succ, List.append_assoc, List.take_left' (wdsN_length _ _)]
  have eb : ((wdsN X (m + n)).take j ++ (wdsN Z (n + 1) ++ (wdsN X (m + n)).drop (j + (n + 1)))).drop (j + n) = wdg Z n :: (wdsN X (m + n)).drop (j + (n + 1)) := by
    rw [← List.drop_drop, List.drop_left' l1, wdsN_succ, List.append_assoc, List.drop_left' (wdsN_length _ _)]; rfl
  have hs := ap.sum
  rw [ew, wdsN_wv] at hs
  have hz := wmod_succ Z n
  rw [Nat.mod_eq_of_lt sp.lt] at hz
  have haeq := ap.eq
  obtain ⟨k1, k2, k3, k4⟩ := kd_sub1 (bn := 18446744073709551616 ^ n) (b := 18446744073709551616) hVp p1 p2 he hz (Nat.mod_lt _ (wpow_pos n)) (wdg_lt _ _) (hs.symm.trans haeq) (Nat.mod_lt _ (wpow_pos n)) (Nat.le_of_lt hVn)
  refine ⟨k1, k2, k4, ?_, ?_⟩
  · rw [eb, ea, List.getD_eq_getElem?_getD, List.getElem?_append_right (by omega), l1, List.getElem?_append_right (by rw [wdsN_length]; omega), wdsN_length, show j + n - j - n = 0 by omega]; rfl
  · have hL : R % V < 18446744073709551616 ^ n := Nat.lt_trans (Nat.mod_lt _ hVp) hVn
    have hA : wdsN A n = wdsN (R % V) n := by rw [← k3, wdsN_low]
    have := list_fix (us := wdsN X (m + n)) (j := j) (n := n) (Z := Z) (A := A) (L := R % V) (by rw [wdsN_length]; omega) hA hL
    rw [show j + (n + 1) = j + n + 1 by omega, this, hR, hX, round_words hVp (Nat.le_of_lt hVn) hj]
theorem finm {u q h v : Value} {Q U V m n B s L X R c Z : Nat} {o : Option (Nat × Value)} {hs : List Value} {w w1 : World} (hX : X = U % (V * 18446744073709551616 ^ (m + 1))) (hR : R = X / 18446744073709551616 ^ m) (hU : U < V * 18446744073709551616 ^ m) (hVn : V < 18446744073709551616 ^ n) (hRV : R < V)
    (sp : SbP u q h v Q V m n B s L o (wdsN X (m + n)) hs (m + 1) m n (V * 0) c Z w w1) :
    c = 0 ∧ Db u q h v Q V m n B s L o (wdsN (U % (V * 18446744073709551616 ^ m)) (m + n)) m w w1 := by
  obtain ⟨d1, d2, d3, d4⟩ := dd_start hU
  have hXU : X = U := hX.trans d2
  have he := sp.eq
  have hRn : R < 18446744073709551616 ^ n := Nat.lt_trans hRV hVn
  rw [win_val hR (Nat.le_refl _), Nat.mod_eq_of_lt hRn, Nat.mul_zero, Nat.zero_mod, Nat.add_zero] at he
  have hc : c = 0 := by
    rcases Nat.eq_zero_or_pos c with h0 | h0
    · exact h0
    · have := Nat.le_mul_of_pos_right (18446744073709551616 ^ n) h0
      have := sp.lt
      omega
  subst hc
  rw [Nat.mul_zero, Nat.add_zero] at he
  have hd := sp.db
  have hw : (wdsN X (m + n)).take m ++ (wdsN Z n ++ (wdsN X (m + n)).drop (m + n)) = wdsN (U % (V * 18446744073709551616 ^ m)) (m + n) := by
    have h1 := wdsN_patch (X := X) (L := m + n) (j := m) (n := n) (R := Z) (Nat.le_refl _) (by
      rw [hXU]
      refine Nat.lt_of_lt_of_le hU ?_
      rw [Nat.pow_add, Nat.mul_comm]
      exact Nat.mul_le_mul_left _ (Nat.le_of_lt hVn)) sp.lt
    rw [h1, ← he, hR, hXU, d1, Nat.add_comm, Nat.div_add_mod]
  rw [hw] at hd
  obtain ⟨qs, q1, q2, q3⟩ := hd.oq
  exact ⟨rfl, ⟨hd.ou, hd.lu, hd.bu, ⟨qs, q1, q2, fun k a b => by omega⟩, hd.oh, hd.rv, hd.st, hd.below, hd.fr⟩⟩
theorem fm_call {u q h v : Value} {Q U V m n N B s L X R qh jn : Nat} {o : Option (Nat × Value)} {w wr : World} (C : DbC u q h v n) (d : Db u q h v Q V m n B s L o (wdsN X N) (m + 1) w wr) (ho : Own wr B 116 h (cellsW (wdsN (V * qh) (n + 1))))
    (hX : X = U % (V * 18446744073709551616 ^ (m + 1))) (hR : R = X / 18446744073709551616 ^ m) (hU : U < V * 18446744073709551616 ^ m) (hVn : V < 18446744073709551616 ^ n) (hRV : R < V) (hN : N = m + n) (hjn : jn = m + n) (hq : qh = 0) (hn0 : 0 < n) (hn : n ≤ 1000000) :
    Calls Tryz.prog 188 #[subS u m jn, subS u m jn, subS h 0 n] wr fun e w' => ∃ c2 : Nat, e = .returned (.int .u64 c2) ∧ c2 = 0 ∧ Db u q h v Q V m n B s L o (wdsN (U % (V * 18446744073709551616 ^ m)) N) m w w' := by
  subst hN
  subst hjn
  refine (sb_call (J := m + 1) (j := m) (r := n) C d ho hn0 (Nat.le_succ n) (Nat.le_refl _) hn).mono ?_
  rintro _ w' ⟨c2, rfl, Z, hsp⟩
  subst hq
  obtain ⟨f1, f2⟩ := finm hX hR hU hVn hRV hsp
  exact ⟨c2, rfl, f1, f2⟩
end Go.Proofs.YtllhnjpnkmjopaaGreatDoor
