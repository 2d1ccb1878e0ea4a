/-
Texts of this proof, joined: SkD DdD GcD. No condition.
-/
import Derived.Test.YtkhhoamcnocjlaaGreatDoorK10
import Derived.Test.YtkhhoamcnocjlaaGreatDoorK11
import Derived.Test.YtkhhoamcnocjlaaGreatDoorK15
/-
The stack of the numbers: nat of a stack without words. No condition.
-/
namespace Go.Proofs.YtkhhoamcnocjlaaGreatDoor
open Go.RowKit

set_option maxRecDepth 100000 in
set_option maxHeartbeats 800000 in
theorem nat_small (s n B L : Nat) (w : World) (h : StO w B s L none) (hB : B ≤ w.heap.size) (hn0 : 0 < n) (hn : n ≤ 4) :
    Calls Tryz.prog 168 #[.pointer (some ⟨s, 0, none⟩), .int .i64 n] w fun e w' => ∃ x o' L', e = .returned x ∧ NtP s n B L none x o' L' w w' := by
  obtain ⟨h0, h1, h2⟩ := h
  have c0 : w.cell? ⟨s, 0, none⟩ = some (.pointer none) := (row_at (i := 0) h1 rfl).1
  have t1 : decide ((n : Int) ≤ 4) = true := decide_eq_true (by omega)
  have t2 : decide ((n : Int) > 0) = true := decide_eq_true (by omega)
  have t2' : decide (0 < n) = true := decide_eq_true hn0
  have HG := Lib.hid (growN_any (.slice none 0 0) [] n B w (Own.nil _ _ _) (by omega) (by simp) hB)
  have HR := Lib.hid h1
  have HL := Lib.hid h2
  clear h1 h2
  go_enter Tryz.func168, Tryz.ntmps168
  go_wp2_with fail
  refine HG.out.mono ?_
  rintro _ w1 ⟨r, rfl, hg⟩
  have hroom := hg.room
  simp only [List.length_nil, Nat.zero_add] at hroom
  obtain ⟨hbk, hb1⟩ : w.heap.size ≤ sBlk r ∧ Below w.heap.size w w1 := by
    rcases hg.how with ⟨-, rfl⟩ | ⟨a, -, b⟩
    · simp at hroom; omega
    · exact ⟨a, b⟩
  obtain ⟨ys, -, ho⟩ := hg.own
  have hSr := ho.isS
  obtain ⟨zs, hzs, hoz⟩ := ho.grow hroom
  have hSz := hoz.isS
  have hLz : sLen (subS r 0 n) = n := by rw [hoz.len, hzs]
  have hCz := hSz.le
  have hc0 : 0 < sCap (subS r 0 n) := by omega
  obtain ⟨u0, hu0⟩ : ∃ u, zs[0]? = some u := ⟨_, List.getElem?_eq_getElem (by omega)⟩
  have cx := hoz.cell hu0
  have fx := hoz.frozen hc0 (sOff (subS r 0 n))
  have hxs := hoz.set (i := 0) (by omega) (.int .u64 11259375)
  have hBx := (hoz.lt hc0).1
  rw [Nat.add_zero] at cx hxs
  have hbx : sBlk (subS r 0 n) = sBlk r := (sub0 hSr).1
  have Q : Hid (NtP s n B L none (subS r 0 n) none 0 w (w1.setCell ⟨sBlk (subS r 0 n), sOff (subS r 0 n), none⟩ (.int .u64 11259375))) := Lib.hid (by
    have hb2 : Below w.heap.size w (w1.setCell ⟨sBlk (subS r 0 n), sOff (subS r 0 n), none⟩ (.int .u64 11259375)) := bset hb1 (by rw [hbx]; exact hbk)
    refine ⟨⟨h0, keep_row hb2 HR.out, rfl⟩, ⟨by rw [HL.out]; exact Nat.le_refl _, by omega⟩, fun k hk => .inl hk, ⟨_, by rw [List.length_set]; exact hzs, hxs⟩, (fun _ h => by cases h), hb2.mono hB, fun k hk _ => hb2.block k hk, fun y ys hy _ => ⟨hy.below hb2, fun _ h => (by cases h), fun hc he => ?_⟩, fun _ => .inr (by rw [hbx]; exact hbk)⟩
    have := (hy.lt hc).2
    omega)
  clear hg ho hoz hu0 hxs hb1 hbk hbx
  go_wp2
  go_ret
  exact ⟨_, _, _, rfl, Q.out⟩
set_option maxRecDepth 100000 in
set_option maxHeartbeats 800000 in
theorem nat_big (s n B L : Nat) (w : World) (h : StO w B s L none) (hB : B ≤ w.heap.size) (hn0 : 4 < n) (hn : n ≤ 1000000) :
    Calls Tryz.prog 168 #[.pointer (some ⟨s, 0, none⟩), .int .i64 n] w fun e w' => ∃ x o' L', e = .returned x ∧ NtP s n B L none x o' L' w w' := by
  obtain ⟨h0, h1, h2⟩ := h
  have c0 : w.cell? ⟨s, 0, none⟩ = some (.pointer none) := (row_at (i := 0) h1 rfl).1
  have t1 : decide ((n : Int) ≤ 4) = false := decide_eq_false (by omega)
  have t1' : decide (n ≤ 4) = false := decide_eq_false (by omega)
  have hsl := get_lt h1
  obtain ⟨W, hW⟩ : ∃ W, W = (w.setCell ⟨s, 0, none⟩ (.pointer (some ⟨w.heap.size, 0, none⟩))).alloc (.cells #[.slice none 0 0] 205) := ⟨_, rfl⟩
  have hsz : (w.setCell ⟨s, 0, none⟩ (.pointer (some ⟨w.heap.size, 0, none⟩))).heap.size = w.heap.size := by simp [World.setCell]
  have hbA : Below w.heap.size (w.setCell ⟨s, 0, none⟩ (.pointer (some ⟨w.heap.size, 0, none⟩))) W := by rw [hW]; exact (Below.refl _ _).alloc (by omega) _
  have rs0 : (w.setCell ⟨s, 0, none⟩ (.pointer (some ⟨w.heap.size, 0, none⟩))).heap[s]? = some (.cells #[.pointer (some ⟨w.heap.size, 0, none⟩)] 184 (0, 0)) := rowset (i := 0) _ h1
  have rs : W.heap[s]? = some (.cells #[.pointer (some ⟨w.heap.size, 0, none⟩)] 184 (0, 0)) := (hbA.block s hsl).trans rs0
  have rq : W.heap[w.heap.size]? = some (.cells #[.slice none 0 0] 205 (0, 0)) := by
    have := heap_alloc_new (w.setCell ⟨s, 0, none⟩ (.pointer (some ⟨w.heap.size, 0, none⟩))) (.cells #[.slice none 0 0] 205)
    rw [hsz, ← hW] at this
    exact this
  have f0 : w.frozen? ⟨s, 0, none⟩ = false := (row_at (i := 0) h1 rfl).2
  have hWs : W.heap.size = w.heap.size + 1 := by rw [hW]; simp [World.setCell]
  have hbW : Below B w W := (bset (Below.refl _ _) h0).trans (hbA.mono hB)
  have hother : ∀ k, k < w.heap.size → k ≠ s → W.heap[k]? = w.heap[k]? := fun k hk hne =>
    (hbA.block k hk).trans (heap_setCell_other _ _ _ _ (by simp only; exact hne))
  have HS := Lib.hid (sinat_any w.heap.size n B 0 (.slice none 0 0) [] W rq (Own.nil _ _ _) rfl (by omega) hB (by omega) hn (by omega))
  have HF : Hid (∀ x v' w', SiP w.heap.size n B 0 (.slice none 0 0) x v' W w' → NtP s n B L none x (some (w.heap.size, v')) (sLen v') w w') := Lib.hid (fun x v' w' p => by
    obtain ⟨ys, hy1, hy2, hyo⟩ := p.own
    have hlv : sLen v' = ys.length := hyo.len
    obtain ⟨p1, p2, p3, p4⟩ := p.pos
    have hv' : W.heap.size ≤ sBlk v' := by
      rcases p.at' with ⟨-, -, h⟩ | h
      · simp at h
      · exact h
    have hn0' : 0 < sCap v' := by have := hyo.isS.le; omega
    have hrs : w'.heap[s]? = some (.cells #[.pointer (some ⟨w.heap.size, 0, none⟩)] 184 (0, 0)) := (p.frame s (by omega) (by omega) (fun h => by simp at h)).trans rs
    refine ⟨⟨h0, hB, hrs, p.row, ys, hyo, hlv.symm⟩, ⟨by omega, by omega⟩, ?_, p.ownx, ?_, hbW.trans p.below, ?_, ?_, fun _ => .inl (.inr ⟨_, rfl, .inr ⟨hn0', p1⟩⟩)⟩
    · rintro k (rfl | ⟨qv, hqv, hk⟩)
      · exact .inl (.inl rfl)
      · cases hqv
        rcases hk with hk | ⟨hk1, hk2⟩
        · exact .inr (by simp only at hk; omega)
        · exact .inr (by simp only at hk2; omega)
    · rintro qv hqv - - -
      cases hqv
      simp only
      omega
    · intro k hk hnk
      rw [p.frame k (by omega) (by omega) (fun h => by simp at h)]
      exact hother k hk (fun he => hnk (.inl he))
    · intro y ys' hy hcl
      by_cases hc0 : 0 < sCap y
      · have hyl := (hy.lt hc0).2
        have hys : sBlk y ≠ s := fun he => by
          rcases hy.row with h | ⟨-, cur, hg, -⟩
          · omega
          · rw [he, h1] at hg
            have h7 := Option.some.inj hg
            injection h7 with _ h8
            exact absurd h8 (by decide)
        have hyW : Own W B 147 y ys' := hy.same fun _ => hother _ hyl hys
        refine ⟨p.live y ys' hyW (fun h => by simp at h), ?_, fun hc he => by omega⟩
        rintro qv hqv - hc he
        cases hqv
        simp only at he
        omega
      · refine ⟨⟨hy.isS, hy.len, hy.cap, .inl (by omega)⟩, fun _ _ _ h => absurd h hc0, fun h => absurd h hc0⟩)
  clear h1 h2 rs0 rs rq hbA hbW hother hWs hsz
  go_enter Tryz.func168, Tryz.ntmps168
  go_upto_region 11 with fail
  rw [← hW]
  clear hW
  go_wp2_with fail
  refine HS.out.mono ?_
  rintro _ w1 ⟨x, v', rfl, p⟩
  obtain ⟨zs, -, hzo⟩ := p.ownx
  have hSx := hzo.isS
  have Q := Lib.hid (HF.out x v' w1 p)
  clear p hzo
  go_wp2
  go_ret
  exact ⟨_, _, _, rfl, Q.out⟩
theorem nat_any (s n B L : Nat) (o : Option (Nat × Value)) (w : World) (h : StO w B s L o) (hB : B ≤ w.heap.size) (hn0 : 0 < n) (hn : n ≤ 1000000) (hl : L ≤ 1000000) :
    Calls Tryz.prog 168 #[.pointer (some ⟨s, 0, none⟩), .int .i64 n] w fun e w' => ∃ x o' L', e = .returned x ∧ NtP s n B L o x o' L' w w' := by
  match o, h with
  | none, h =>
    by_cases h4 : n ≤ 4
    · exact nat_small s n B L w h hB hn0 h4
    · exact nat_big s n B L w h hB (by omega) hn
  | some (q, v), h => exact nat_some s n B L q v w h hB hn0 hn hl
end Go.Proofs.YtkhhoamcnocjlaaGreatDoor

/-
Long division of words: the state of divBasic's loop, and its steps. No condition.
-/
namespace Go.Proofs.YtkhhoamcnocjlaaGreatDoor
open Go.RowKit

theorem Own.frb {w w' : World} {B : Nat} {e : TypeId} {v : Value} {xs : List Value} {b lo hi : Nat} (h : Own w B e v xs) (f : FrB b lo hi w w') : ∃ ys : List Value, ys.length = xs.length ∧ Own w' B e v ys := by
  have hl := h.len
  have hcap := h.isS.le
  rcases h.row with h0 | ⟨hb, cur, hg, hsz, ht⟩
  · exact ⟨xs, rfl, h.isS, h.len, h.cap, .inl h0⟩
  · by_cases he : sBlk v = b
    · obtain ⟨c1, g1, g2, g3⟩ := f.row cur e (0, 0) (he ▸ hg)
      have hlen : ((c1.toList.drop (sOff v)).take xs.length).length = xs.length := by simp; omega
      exact ⟨(c1.toList.drop (sOff v)).take xs.length, hlen, h.isS, by omega, h.cap, .inr ⟨hb, c1, he ▸ g1, by omega, by rw [hlen]⟩⟩
    · exact ⟨xs, rfl, h.isS, h.len, h.cap, .inr ⟨hb, cur, (f.only _ (get_lt hg) he).trans hg, hsz, ht⟩⟩
/-- Owned words that lie beside what was written. -/
theorem Own.frbx {w w' : World} {B : Nat} {e : TypeId} {v : Value} {xs : List Value} {b lo hi : Nat} (h : Own w B e v xs) (f : FrB b lo hi w w') (hn : sBlk v = b → sOff v + sCap v ≤ lo) : Own w' B e v xs := by
  have hl := h.len
  have hcap := h.isS.le
  refine ⟨h.isS, h.len, h.cap, ?_⟩
  rcases h.row with h0 | ⟨hb, cur, hg, hsz, ht⟩
  · exact .inl h0
  · by_cases he : sBlk v = b
    · obtain ⟨c1, g1, g2, g3⟩ := f.row cur e (0, 0) (he ▸ hg)
      refine .inr ⟨hb, c1, he ▸ g1, by omega, ?_⟩
      conv => rhs; rw [← ht]
      apply List.ext_getElem?
      intro i
      have hnn := hn he
      rw [List.getElem?_take, List.getElem?_take]
      split
      · rw [List.getElem?_drop, List.getElem?_drop, Array.getElem?_toList, Array.getElem?_toList, g3 _ (by omega)]
      · rfl
    · exact .inr ⟨hb, cur, (f.only _ (get_lt hg) he).trans hg, hsz, ht⟩
theorem StO.frb {w w' : World} {B s L b lo hi : Nat} {o : Option (Nat × Value)} (h : StO w B s L o) (f : FrB b lo hi w w') (hr : ∃ cur, w.heap[b]? = some (.cells cur 147 (0, 0))) : StO w' B s L o := by
  obtain ⟨cur, hr⟩ := hr
  have key : ∀ (k : Nat) (cs : Array Value) (T : TypeId), w.heap[k]? = some (.cells cs T (0, 0)) → T ≠ 147 → w'.heap[k]? = some (.cells cs T (0, 0)) := fun k cs T h1 hT => by
    have hne : k ≠ b := fun he => by
      rw [he, hr] at h1
      have h7 := Option.some.inj h1
      injection h7 with _ h8
      exact hT h8.symm
    exact (f.only k (get_lt h1) hne).trans h1
  match o, h with
  | none, ⟨h0, h1, h2⟩ => exact ⟨h0, key _ _ _ h1 (by decide), h2⟩
  | some qv, ⟨h0, h1, h2, h3, xs, h4, h5⟩ =>
    obtain ⟨ys, hy1, hy2⟩ := h4.frb f
    exact ⟨h0, h1, key _ _ _ h2 (by decide), key _ _ _ h3 (by decide), ys, hy2, hy1.trans h5⟩
theorem Own.rowOf {w : World} {B : Nat} {e : TypeId} {v : Value} {xs : List Value} (h : Own w B e v xs) (hc : 0 < sCap v) : ∃ cur, w.heap[sBlk v]? = some (.cells cur e (0, 0)) := by
  rcases h.row with h0 | ⟨-, cur, hg, -⟩
  · omega
  · exact ⟨cur, hg⟩
/-- Where the parts of a division lie. -/
structure DbC (u q h v : Value) (n : Nat) : Prop where
  uq : sBlk u ≠ sBlk q
  uh : sBlk u ≠ sBlk h
  qh : sBlk q ≠ sBlk h
  vu : sBlk v ≠ sBlk u
  vq : sBlk v ≠ sBlk q
  vh : sBlk v = sBlk h → sOff v + n ≤ sOff h
/-- The state: u's words, the digits of the quotient from J on, a place for a product, the divisor, the stack. -/
structure Db (u q h v : Value) (Q V m n B s L : Nat) (o : Option (Nat × Value)) (us : List Nat) (J : Nat) (w wr : World) : Prop where
  ou : Own wr B 147 u (cellsW us)
  lu : us.length = m + n
  bu : ∀ d ∈ us, d < 18446744073709551616
  oq : ∃ qs : List Value, Own wr B 147 q qs ∧ qs.length = m ∧ ∀ k, J ≤ k → k < m → qs[k]? = some (.int .u64 ((wdg Q k : Nat) : Int))
  oh : ∃ hs : List Value, Own wr B 147 h hs ∧ hs.length = n + 1
  rv : RW wr v (wdsN V n)
  st : StO wr B s L o
  below : Below B w wr
  fr : ∀ k, k < w.heap.size → k ≠ sBlk u → k ≠ sBlk q → k ≠ sBlk h → wr.heap[k]? = w.heap[k]?
theorem Db.drewN {u q h v : Value} {Q V m n B s L J : Nat} {o : Option (Nat × Value)} {us : List Nat} {w wr : World} (d : Db u q h v Q V m n B s L o us J w wr) (k : Nat) : Db u q h v Q V m n B s L o us J w (wr.drewN k) := by
  obtain ⟨qs, q1, q2, q3⟩ := d.oq
  obtain ⟨hs, h1, h2⟩ := d.oh
  refine ⟨d.ou.drewN k, d.lu, d.bu, ⟨qs, q1.drewN k, q2, q3⟩, ⟨hs, h1.drewN k, h2⟩, d.rv.drewN k, ?_, undrewN' d.below, d.fr⟩
  match o, d.st with
  | none, h => exact h
  | some qv, ⟨a, b, c, e, xs, f, g⟩ => exact ⟨a, b, c, e, xs, f.drewN k, g⟩
/-- What is written in h. -/
theorem Db.inH {u q h v : Value} {Q V m n B s L J lo hi : Nat} {o : Option (Nat × Value)} {us : List Nat} {w wr w' : World} (C : DbC u q h v n) (d : Db u q h v Q V m n B s L o us J w wr) {hs : List Value}
    (ho : Own w' B 147 h hs) (hl : hs.length = n + 1) (hb : Below B wr w') (f : FrB (sBlk h) lo hi wr w') (hlo : sOff h ≤ lo) : Db u q h v Q V m n B s L o us J w w' := by
  obtain ⟨qs, q1, q2, q3⟩ := d.oq
  obtain ⟨hs0, h1, h2⟩ := d.oh
  have hc : 0 < sCap h := by have := h1.isS.le; have := h1.len; omega
  refine ⟨d.ou.frbx f (fun he => absurd he C.uh), d.lu, d.bu, ⟨qs, q1.frbx f (fun he => absurd he C.qh), q2, q3⟩, ⟨hs, ho, hl⟩, f.rw d.rv (fun he => .inl ?_), d.st.frb f (h1.rowOf hc), d.below.trans hb, fun k hk a b c => (f.only k (Nat.lt_of_lt_of_le hk d.below.size) c).trans (d.fr k hk a b c)⟩
  have := C.vh he
  rw [wdsN_length]; omega
/-- A part of u that is written anew. -/
theorem Db.inU {u q h v : Value} {Q V m n B s L J l r Z : Nat} {o : Option (Nat × Value)} {us : List Nat} {w wr w' : World} (C : DbC u q h v n) (d : Db u q h v Q V m n B s L o us J w wr) (hlr : l ≤ r) (hr : r ≤ m + n) (hp : 0 < m + n)
    (hv : VvP (subS u l r) (r - l) B Z wr w') :
    Db u q h v Q V m n B s L o (us.take l ++ (wdsN Z (r - l) ++ us.drop r)) J w w' ∧ (∀ hs, Own wr B 147 h hs → Own w' B 147 h hs) := by
  have hl := d.lu
  obtain ⟨g1, g2, g3⟩ := VvP.patch d.ou hlr (by rw [cellsW_length]; omega) hv
  rw [show (cellsW us).take l = cellsW (us.take l) by simp [cellsW, List.map_take], show (cellsW us).drop r = cellsW (us.drop r) by simp [cellsW, List.map_drop], cellsW_append, cellsW_append] at g1
  obtain ⟨qs, q1, q2, q3⟩ := d.oq
  obtain ⟨hs0, h1, h2⟩ := d.oh
  have hc : 0 < sCap u := by have := d.ou.isS.le; have := d.ou.len; rw [cellsW_length] at this; omega
  refine ⟨⟨g1, by simp [wdsN_length]; omega, ?_, ⟨qs, q1.frbx g3 (fun he => absurd he.symm C.uq), q2, q3⟩, ⟨hs0, h1.frbx g3 (fun he => absurd he.symm C.uh), h2⟩, g3.rw d.rv (fun he => absurd he C.vu), d.st.frb g3 (d.ou.rowOf hc), d.below.trans g2, fun k hk a b c => (g3.only k (Nat.lt_of_lt_of_le hk d.below.size) a).trans (d.fr k hk a b c)⟩, fun hs ho => ho.frbx g3 (fun he => absurd he.symm C.uh)⟩
  intro x hx
  rcases List.mem_append.1 hx with h | h
  · exact d.bu x (List.mem_of_mem_take h)
  · rcases List.mem_append.1 h with h | h
    · exact wdsN_lt x h
    · exact d.bu x (List.mem_of_mem_drop h)
theorem FrB.one (w : World) (b i : Nat) (u : Value) : FrB b i (i + 1) w (w.setCell ⟨b, i, none⟩ u) := (FrB.refl b i (i + 1) w).set (Nat.le_refl _) (Nat.lt_succ_self _) u
/-- A word of u that is written. -/
theorem Db.setU {u q h v : Value} {Q V m n B s L J i x : Nat} {o : Option (Nat × Value)} {us : List Nat} {w wr : World} (C : DbC u q h v n) (d : Db u q h v Q V m n B s L o us J w wr) (hi : i < m + n) (hx : x < 18446744073709551616) :
    Db u q h v Q V m n B s L o (us.set i x) J w (wr.setCell ⟨sBlk u, sOff u + i, none⟩ (.int .u64 (x : Int))) := by
  have hl := d.lu
  have hc : 0 < sCap u := by have := d.ou.isS.le; have := d.ou.len; rw [cellsW_length] at this; omega
  have g1 := d.ou.set (i := i) (by rw [cellsW_length]; omega) (.int .u64 (x : Int))
  rw [cellsW_set] at g1
  have g3 := FrB.one wr (sBlk u) (sOff u + i) (.int .u64 (x : Int))
  obtain ⟨qs, q1, q2, q3⟩ := d.oq
  obtain ⟨hs0, h1, h2⟩ := d.oh
  refine ⟨g1, by simpa using hl, ?_, ⟨qs, q1.frbx g3 (fun he => absurd he.symm C.uq), q2, q3⟩, ⟨hs0, h1.frbx g3 (fun he => absurd he.symm C.uh), h2⟩, g3.rw d.rv (fun he => absurd he C.vu), d.st.frb g3 (d.ou.rowOf hc), bset d.below (d.ou.lt hc).1, fun k hk a b c => (g3.only k (Nat.lt_of_lt_of_le hk d.below.size) a).trans (d.fr k hk a b c)⟩
  intro y hy
  rcases List.mem_or_eq_of_mem_set hy with h | h
  · exact d.bu y h
  · rw [h]; exact hx
/-- A digit of the quotient. -/
theorem Db.setQ {u q h v : Value} {Q V m n B s L j : Nat} {o : Option (Nat × Value)} {us : List Nat} {w wr : World} (C : DbC u q h v n) (d : Db u q h v Q V m n B s L o us (j + 1) w wr) (hj : j < m) :
    Db u q h v Q V m n B s L o us j w (wr.setCell ⟨sBlk q, sOff q + j, none⟩ (.int .u64 ((wdg Q j : Nat) : Int))) := by
  obtain ⟨qs, q1, q2, q3⟩ := d.oq
  obtain ⟨hs0, h1, h2⟩ := d.oh
  have hc : 0 < sCap q := by have := q1.isS.le; have := q1.len; omega
  have g1 := q1.set (i := j) (by omega) (.int .u64 ((wdg Q j : Nat) : Int))
  have g3 := FrB.one wr (sBlk q) (sOff q + j) (.int .u64 ((wdg Q j : Nat) : Int))
  refine ⟨d.ou.frbx g3 (fun he => absurd he C.uq), d.lu, d.bu, ⟨_, g1, by simpa using q2, fun k hk hkm => ?_⟩, ⟨hs0, h1.frbx g3 (fun he => absurd he.symm C.qh), h2⟩, g3.rw d.rv (fun he => absurd he C.vq), d.st.frb g3 (q1.rowOf hc), bset d.below (q1.lt hc).1, fun k hk a b c => (g3.only k (Nat.lt_of_lt_of_le hk d.below.size) b).trans (d.fr k hk a b c)⟩
  rw [List.getElem?_set]
  by_cases he : j = k
  · rw [if_pos he, if_pos (by omega), he]
  · rw [if_neg he]; exact q3 k (by omega) hkm
end Go.Proofs.YtkhhoamcnocjlaaGreatDoor

/-
The greatest common divisor: mulW, QuoRem of boxes. No condition but the threshold of recursive division.
-/
namespace Go.Proofs.YtkhhoamcnocjlaaGreatDoor
open Go.RowKit

set_option maxRecDepth 100000 in
set_option maxHeartbeats 800000 in
theorem mulAddWW_gen (z x : Value) (zs : List Value) (X y B : Nat) (w : World) (hz : Own w B 147 z zs) (hx : RO w x (wds X)) (ax : Al z x) (hy : y < 18446744073709551616) (hl : nw X ≤ 100000000) (hB : B ≤ w.heap.size) :
    Calls Tryz.prog 163 #[z, x, .int .u64 y, .int .u64 0] w fun e w' => ∃ q, e = .returned q ∧ NatR z q (X * y) B w w' := by
  have hS := hz.isS
  have hSx := hx.rw.isS
  by_cases h : 0 < X ∧ 0 < y
  · have := mulAddWW_any z x zs X y 0 B w hz hx ax h.1 h.2 hy (by decide) hl hB
    rw [Nat.add_zero] at this
    exact this
  · have hXY : X * y = 0 := by
      rcases Nat.eq_zero_or_pos X with h1 | h1
      · rw [h1, Nat.zero_mul]
      · rcases Nat.eq_zero_or_pos y with h2 | h2
        · rw [h2, Nat.mul_zero]
        · exact absurd ⟨h1, h2⟩ h
    have HS := Lib.hid (setWord_gen z zs 0 B w hz (by decide) hB)
    rw [hXY]
    obtain ⟨m, hm⟩ : ∃ m, m = nw X := ⟨_, rfl⟩
    have hLx : sLen x = m := by rw [hx.rw.len, wds_length, hm]
    rw [← hm] at hl
    rcases Nat.eq_zero_or_pos m with h1 | h1
    · subst h1
      clear hz hx ax hB hm hXY h
      go_enter Tryz.func163, Tryz.ntmps163
      go_wp2_with fail
      refine HS.out.mono ?_
      rintro _ w1 ⟨r, rfl, hr⟩
      have hSr := hr.own.isS
      have Q := Lib.hid hr
      clear hr
      go_wp2
      go_ret
      exact ⟨_, rfl, Q.out⟩
    · have hy0 : y = 0 := by
        have hX : 0 < X := by rcases Nat.eq_zero_or_pos X with h2 | h2; (rw [h2, nw_zero] at hm; omega); exact h2
        rcases Nat.eq_zero_or_pos y with h2 | h2
        · exact h2
        · exact absurd ⟨hX, h2⟩ h
      subst hy0
      have t1 : ((m : Int) == 0) = false := by rw [beq_eq_false_iff_ne]; omega
      clear hz hx ax hB hm hXY h
      go_enter Tryz.func163, Tryz.ntmps163
      go_wp2_with fail
      refine HS.out.mono ?_
      rintro _ w1 ⟨r, rfl, hr⟩
      have hSr := hr.own.isS
      have Q := Lib.hid hr
      clear hr
      go_wp2
      go_ret
      exact ⟨_, rfl, Q.out⟩
/-- An integer's box that was written: its number lies in the old one's place, or anew. -/
structure IntR (b : Nat) (vz : Value) (neg : Bool) (N B : Nat) (w w' : World) : Prop where
  row : ∃ r, w'.heap[b]? = some (.cells #[.bool neg, r] 96 (0, 0)) ∧ Own w' B 147 r (cellsW (wds N)) ∧ (0 < sCap r → (0 < sCap vz ∧ sBlk r = sBlk vz) ∨ w.heap.size ≤ sBlk r)
  below : Below B w w'
  fr : ∀ k, k < w.heap.size → k ≠ b → (0 < sCap vz → k ≠ sBlk vz) → w'.heap[k]? = w.heap[k]?
theorem Own.neRow {w : World} {B b T : Nat} {v : Value} {xs : List Value} {cs : Array Value} (h : Own w B 147 v xs) (hr : w.heap[b]? = some (.cells cs T (0, 0))) (hT : T ≠ 147) (hc : 0 < sCap v) : b ≠ sBlk v := fun he => by
  obtain ⟨cur, hg⟩ := h.rowOf hc
  rw [← he, hr] at hg
  have h7 := Option.some.inj hg
  injection h7 with _ h8
  exact hT h8
theorem IntR.of {b : Nat} {vz r : Value} {neg zneg : Bool} {v : Value} {N B : Nat} {w w1 : World} (hz : w.heap[b]? = some (.cells #[.bool zneg, v] 96 (0, 0))) (hb : B ≤ b) (hne : 0 < sCap vz → b ≠ sBlk vz) (h : NatR vz r N B w w1) :
    IntR b vz neg N B w ((w1.setCell ⟨b, 1, none⟩ r).setCell ⟨b, 0, none⟩ (.bool neg)) := by
  have hr1 := h.fr.row hz hne
  have r1 := rowset (i := 1) r hr1
  have r2 := rowset (i := 0) (.bool neg) r1
  refine ⟨⟨r, r2, (h.own.away hr1 (by decide) 1 r).away r1 (by decide) 0 (.bool neg), h.at'⟩, bset (bset h.below hb) hb, fun k hk h1 h2 => ?_⟩
  rw [heap_setCell_other _ _ _ _ (by simpa using h1), heap_setCell_other _ _ _ _ (by simpa using h1)]
  exact h.fr k hk h2
set_option maxRecDepth 100000 in
set_option maxHeartbeats 1600000 in
theorem mulW_any (b c : Nat) (zneg xneg neg : Bool) (vz vx : Value) (zs : List Value) (X y B : Nat) (w : World) (hz : w.heap[b]? = some (.cells #[.bool zneg, vz] 96 (0, 0))) (hx : w.heap[c]? = some (.cells #[.bool xneg, vx] 96 (0, 0)))
    (ho : Own w B 147 vz zs) (hox : RO w vx (wds X)) (ax : Al vz vx) (hy : y < 18446744073709551616) (hl : nw X ≤ 100000000) (hb : B ≤ b) :
    Calls Tryz.prog 156 #[.pointer (some ⟨b, 0, none⟩), .pointer (some ⟨c, 0, none⟩), .bool neg, .int .u64 y] w fun e w' => e = .returned (.tuple #[]) ∧ IntR b vz (xneg != neg) (X * y) B w w' := by
  have hSz := ho.isS
  have hSx := hox.rw.isS
  have hbs := get_lt hz
  have z1 : w.cell? ⟨b, 1, none⟩ = some vz := (row_at (i := 1) hz rfl).1
  have x1 : w.cell? ⟨c, 1, none⟩ = some vx := (row_at (i := 1) hx rfl).1
  have HM := Lib.hid (fun k => mulAddWW_gen vz vx zs X y B (w.drewN k) (ho.drewN k) (hox.below (undrewN' (Below.refl _ _))) ax hy hl (show B ≤ (w.drewN k).heap.size from Nat.le_trans hb (Nat.le_of_lt hbs)))
  have hneb : 0 < sCap vz → b ≠ sBlk vz := ho.neRow hz (by decide)
  have hnec : 0 < sCap vz → c ≠ sBlk vz := ho.neRow hx (by decide)
  have HF : Hid (∀ k r w1, NatR vz r (X * y) B (w.drewN k) w1 → (w1.heap[b]? = some (.cells #[.bool zneg, vz] 96 (0, 0)) ∧ w1.heap[c]? = some (.cells #[.bool xneg, vx] 96 (0, 0))) ∧ IntR b vz (xneg != neg) (X * y) B w ((w1.setCell ⟨b, 1, none⟩ r).setCell ⟨b, 0, none⟩ (.bool (xneg != neg)))) := Lib.hid (fun k r w1 h => by
    have h' : NatR vz r (X * y) B w w1 := ⟨h.own, undrewN h.below, fun t ht hn => h.fr t ht hn, h.at'⟩
    exact ⟨⟨h'.fr.row hz hneb, h'.fr.row hx hnec⟩, .of hz hb hneb h'⟩)
  by_cases hbc : b = c
  · subst hbc
    have hxz : xneg = zneg ∧ vx = vz := by
      rw [hz] at hx
      have h7 := Option.some.inj hx
      injection h7 with h8 _ _
      simp at h8
      exact ⟨h8.1.symm, h8.2.symm⟩
    obtain ⟨rfl, rfl⟩ := hxz
    clear hz hx ho hox ax hl hb hneb hnec
    go_enter Tryz.func156, Tryz.ntmps156
    go_wp2_with fail
    (refine wp_region_hoist 10 (by kernel_rfl) (by kernel_rfl) ⟨fun _ _ _ h => (by first | exact (hQp _ _ _ h).elim | cases h.2.1 | (obtain ⟨_, h3, _⟩ := h.2; cases h3)), fun _ _ h => (by first | exact (hQo _ _ h).elim | cases h.1 | (obtain ⟨_, h3, _⟩ := h; cases h3))⟩ ?_; simp only [List.take_succ_cons, List.take_zero, List.drop_succ_cons, List.drop_zero]; (repeat (go_big_quiet_step (fail))); refine wpQuiet_nil ?_; rintro _ ⟨nq, rfl⟩)
    go_wp2_with fail
    refine (HM.out _).mono ?_
    rintro _ w1 ⟨r, rfl, hr⟩
    obtain ⟨⟨g1, -⟩, g3⟩ := HF.out _ r w1 hr
    have hSr := hr.own.isS
    obtain ⟨a0, f0⟩ : w1.cell? ⟨b, 0, none⟩ = some (.bool xneg) ∧ w1.frozen? ⟨b, 0, none⟩ = false := ⟨(row_at (i := 0) g1 rfl).1, (row_at (i := 0) g1 rfl).2⟩
    obtain ⟨a1, f1⟩ : w1.cell? ⟨b, 1, none⟩ = some vx ∧ w1.frozen? ⟨b, 1, none⟩ = false := ⟨(row_at (i := 1) g1 rfl).1, (row_at (i := 1) g1 rfl).2⟩
    have Q := Lib.hid g3
    clear hr g1 g3
    go_wp2
    go_end0
    exact ⟨rfl, Q.out⟩
  · have hcb : ¬ c = b := fun h => hbc h.symm
    clear hz hx ho hox ax hl hb hneb hnec
    go_enter Tryz.func156, Tryz.ntmps156
    go_wp2_with fail
    (refine wp_region_hoist 10 (by kernel_rfl) (by kernel_rfl) ⟨fun _ _ _ h => (by first | exact (hQp _ _ _ h).elim | cases h.2.1 | (obtain ⟨_, h3, _⟩ := h.2; cases h3)), fun _ _ h => (by first | exact (hQo _ _ h).elim | cases h.1 | (obtain ⟨_, h3, _⟩ := h; cases h3))⟩ ?_; simp only [List.take_succ_cons, List.take_zero, List.drop_succ_cons, List.drop_zero]; (repeat (go_big_quiet_step (fail))); refine wpQuiet_nil ?_; rintro _ ⟨nq, rfl⟩)
    go_wp2_with fail
    refine (HM.out _).mono ?_
    rintro _ w1 ⟨r, rfl, hr⟩
    obtain ⟨⟨g1, g2⟩, g3⟩ := HF.out _ r w1 hr
    have hSr := hr.own.isS
    obtain ⟨a0, f0⟩ : w1.cell? ⟨b, 0, none⟩ = some (.bool zneg) ∧ w1.frozen? ⟨b, 0, none⟩ = false := ⟨(row_at (i := 0) g1 rfl).1, (row_at (i := 0) g1 rfl).2⟩
    obtain ⟨a1, f1⟩ : w1.cell? ⟨b, 1, none⟩ = some vz ∧ w1.frozen? ⟨b, 1, none⟩ = false := ⟨(row_at (i := 1) g1 rfl).1, (row_at (i := 1) g1 rfl).2⟩
    have c0 : w1.cell? ⟨c, 0, none⟩ = some (.bool xneg) := (row_at (i := 0) g2 rfl).1
    have Q := Lib.hid g3
    clear hr g1 g2 g3
    go_wp2
    go_end0
    exact ⟨rfl, Q.out⟩
end Go.Proofs.YtkhhoamcnocjlaaGreatDoor
