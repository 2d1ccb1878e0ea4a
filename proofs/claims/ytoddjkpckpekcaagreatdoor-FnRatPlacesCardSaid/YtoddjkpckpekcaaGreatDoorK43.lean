/-
Texts of this proof, joined: PlC PlA TzA TzB PlD PlE. No condition.
-/
import Derived.Test.YtoddjkpckpekcaaGreatDoorK01
import Derived.Test.YtoddjkpckpekcaaGreatDoorK02
import Derived.Test.YtoddjkpckpekcaaGreatDoorK03
import Derived.Test.YtoddjkpckpekcaaGreatDoorK04
import Derived.Test.YtoddjkpckpekcaaGreatDoorK05
import Derived.Test.YtoddjkpckpekcaaGreatDoorK06
import Derived.Test.YtoddjkpckpekcaaGreatDoorK07
import Derived.Test.YtoddjkpckpekcaaGreatDoorK08
import Derived.Test.YtoddjkpckpekcaaGreatDoorK09
import Derived.Test.YtoddjkpckpekcaaGreatDoorK10
import Derived.Test.YtoddjkpckpekcaaGreatDoorK11
import Derived.Test.YtoddjkpckpekcaaGreatDoorK12
import Derived.Test.YtoddjkpckpekcaaGreatDoorK13
import Derived.Test.YtoddjkpckpekcaaGreatDoorK14
import Derived.Test.YtoddjkpckpekcaaGreatDoorK15
import Derived.Test.YtoddjkpckpekcaaGreatDoorK16
import Derived.Test.YtoddjkpckpekcaaGreatDoorK17
import Derived.Test.YtoddjkpckpekcaaGreatDoorK18
import Derived.Test.YtoddjkpckpekcaaGreatDoorK19
import Derived.Test.YtoddjkpckpekcaaGreatDoorK20
import Derived.Test.YtoddjkpckpekcaaGreatDoorK21
import Derived.Test.YtoddjkpckpekcaaGreatDoorK22
import Derived.Test.YtoddjkpckpekcaaGreatDoorK23
import Derived.Test.YtoddjkpckpekcaaGreatDoorK24
import Derived.Test.YtoddjkpckpekcaaGreatDoorK25
import Derived.Test.YtoddjkpckpekcaaGreatDoorK26
import Derived.Test.YtoddjkpckpekcaaGreatDoorK27
import Derived.Test.YtoddjkpckpekcaaGreatDoorK28
import Derived.Test.YtoddjkpckpekcaaGreatDoorK29
import Derived.Test.YtoddjkpckpekcaaGreatDoorK30
import Derived.Test.YtoddjkpckpekcaaGreatDoorK31
import Derived.Test.YtoddjkpckpekcaaGreatDoorK32
import Derived.Test.YtoddjkpckpekcaaGreatDoorK33
import Derived.Test.YtoddjkpckpekcaaGreatDoorK34
import Derived.Test.YtoddjkpckpekcaaGreatDoorK35
import Derived.Test.YtoddjkpckpekcaaGreatDoorK36
import Derived.Test.YtoddjkpckpekcaaGreatDoorK37
import Derived.Test.YtoddjkpckpekcaaGreatDoorK38
import Derived.Test.YtoddjkpckpekcaaGreatDoorK39
import Derived.Test.YtoddjkpckpekcaaGreatDoorK40
import Derived.Test.YtoddjkpckpekcaaGreatDoorK41
import Derived.Test.YtoddjkpckpekcaaGreatDoorK42
import Derived.Laws.Bits64b
import Derived.WalkKit
import Derived.WalkSpells
import Derived.WalkLawsBesides
import Derived.Lib.Hide
import Derived.Deep.QuietTactic
import Derived.BigQuiet
import Derived.Deep.DeepFit
import Derived.Deep.AppendSrc
import Derived.Laws.CopyOwn
import Derived.Outline
import Derived.Deep.RegionHeld3
import Derived.Deep.DeepCutAuto
import Derived.Deep.CutRange
import Derived.Lib.Builder
import Derived.Shelf.Small.Bits
import Derived.Shelf.Strconv.Itoa0
import Derived.Shelf.Bits.Mul64
import Derived.Test.YtoddjkpckpekcaaGreatDoorProg
import Derived.Lib.BitFns
import Derived.Laws.BitsAllLaws
import Derived.Lib.AppendZeros
import Derived.Lib.TrailingZeros
import Derived.Shelf.Spec.TrailingZeros
namespace Go.Proofs.YtoddjkpckpekcaaGreatDoor
open Go.RowKit

structure DvQ (z z2 q r : Value) (N D B s : Nat) (o o' : Option (Nat × Value)) (w w' : World) : Prop where
  oq : Own w' B 98 q (cellsW (wds (N / D)))
  or_ : Own w' B 98 r (cellsW (wds (N % D)))
  atq : 0 < sCap q → (0 < sCap z ∧ sBlk q = sBlk z) ∨ w.heap.size ≤ sBlk q
  atr : 0 < sCap r → (0 < sCap z2 ∧ sBlk r = sBlk z2) ∨ w.heap.size ≤ sBlk r
  ne : 0 < sCap q → 0 < sCap r → sBlk q ≠ sBlk r
  st : StO w' B s 0 o'
  sb : ∀ k, SBk s o' k → SBk s o k ∨ w.heap.size ≤ k
  nsq : 0 < sCap q → ¬ SBk s o' (sBlk q)
  nsr : 0 < sCap r → ¬ SBk s o' (sBlk r)
  below : Below B w w'
  fr : ∀ k, k < w.heap.size → ¬ SBk s o k → (0 < sCap z → k ≠ sBlk z) → (0 < sCap z2 → k ≠ sBlk z2) → w'.heap[k]? = w.heap[k]?
theorem DvQ.of {z z2 q r : Value} {N D B s : Nat} {o : Option (Nat × Value)} {w w' : World} (hst : StO w B s 0 o) (hzS : 0 < sCap z → ¬ SBk s o (sBlk z)) (hz2S : 0 < sCap z2 → ¬ SBk s o (sBlk z2))
    (h : NdP z z2 q r N D B w w' ∨ ∃ k o', DlP z z2 q r N D B s 0 o o' (w.drewN k) w') : ∃ o', DvQ z z2 q r N D B s o o' w w' := by
  rcases h with h | ⟨k, o', h⟩
  · refine ⟨o, h.oq, h.or_, h.atq, h.atr, h.ne, hst.keep fun k hk => h.fr k (hst.base hk).2 (fun hc he => hzS hc (he ▸ hk)) (fun hc he => hz2S hc (he ▸ hk)), fun k hk => .inl hk, fun hc hk => ?_, fun hc hk => ?_, h.below, fun k hk _ h1 h2 => h.fr k hk h1 h2⟩
    · rcases h.atq hc with ⟨a, b⟩ | a
      · exact hzS a (b ▸ hk)
      · have := (hst.base hk).2; omega
    · rcases h.atr hc with ⟨a, b⟩ | a
      · exact hz2S a (b ▸ hk)
      · have := (hst.base hk).2; omega
  · exact ⟨o', h.oq, h.or_, h.atq, h.atr, h.ne, h.st, h.sb, h.nsq, h.nsr, undrewN h.below, fun k hk h0 h1 h2 => h.fr k hk h0 h1 h2⟩
def W3 (s : Nat) (o : Option (Nat × Value)) (q t r : Value) (k : Nat) : Prop := (0 < sCap q ∧ k = sBlk q) ∨ (0 < sCap t ∧ k = sBlk t) ∨ (0 < sCap r ∧ k = sBlk r) ∨ SBk s o k
def FpF (B s : Nat) (o : Option (Nat × Value)) (q t r tab : Value) (wr : World) (p : Value × Nat) : Prop :=
  Own wr B 98 p.1 (cellsW (wds p.2)) ∧ 0 < p.2 ∧ ¬ W3 s o q t r (sBlk p.1) ∧ (0 < sCap tab → sBlk p.1 ≠ sBlk tab)
structure FpS (B s : Nat) (o : Option (Nat × Value)) (q t r tab : Value) (Q T R : Nat) (fs : List (Value × Nat)) (w0 wr : World) : Prop where
  st : StO wr B s 0 o
  oq : Own wr B 98 q (cellsW (wds Q))
  ot : Own wr B 98 t (cellsW (wds T))
  or_ : Own wr B 98 r (cellsW (wds R))
  qt : 0 < sCap q → 0 < sCap t → sBlk q ≠ sBlk t
  qr : 0 < sCap q → 0 < sCap r → sBlk q ≠ sBlk r
  tr : 0 < sCap t → 0 < sCap r → sBlk t ≠ sBlk r
  nq : 0 < sCap q → ¬ SBk s o (sBlk q)
  nt : 0 < sCap t → ¬ SBk s o (sBlk t)
  nr : 0 < sCap r → ¬ SBk s o (sBlk r)
  otab : Own wr B 85 tab (fs.map Prod.fst)
  ntab : 0 < sCap tab → ¬ W3 s o q t r (sBlk tab)
  tz : 0 < sCap tab ∨ tab = .slice none 0 0
  fs : ∀ p ∈ fs, FpF B s o q t r tab wr p
  bl : Below B w0 wr
  hB : B ≤ wr.heap.size
theorem own_cap {w : World} {B X : Nat} {v : Value} (h : Own w B 98 v (cellsW (wds X))) (h0 : 0 < X) : 0 < sCap v := by
  have a := h.len
  have b := h.isS.le
  rw [cellsW_length, wds_length] at a
  have := nw_pos h0
  omega
section
variable {B s Q T R F : Nat} {o : Option (Nat × Value)} {q t r tab f : Value} {fs : List (Value × Nat)} {w0 wr : World}
theorem FpS.drewN (h : FpS B s o q t r tab Q T R fs w0 wr) (k : Nat) : FpS B s o q t r tab Q T R fs w0 (wr.drewN k) :=
  ⟨h.st.below (undrewN' (Below.refl _ _)), h.oq.drewN k, h.ot.drewN k, h.or_.drewN k, h.qt, h.qr, h.tr, h.nq, h.nt, h.nr, h.otab.drewN k, h.ntab, h.tz, fun p hp => ⟨(h.fs p hp).1.drewN k, (h.fs p hp).2⟩, undrewN' h.bl, h.hB⟩
theorem FpS.grow {w' : World} (h : FpS B s o q t r tab Q T R fs w0 wr) (hb : Below wr.heap.size wr w') : FpS B s o q t r tab Q T R fs w0 w' :=
  ⟨h.st.below hb, h.oq.below hb, h.ot.below hb, h.or_.below hb, h.qt, h.qr, h.tr, h.nq, h.nt, h.nr, h.otab.below hb, h.ntab, h.tz, fun p hp => ⟨(h.fs p hp).1.below hb, (h.fs p hp).2⟩, h.bl.trans (hb.mono h.hB), Nat.le_trans h.hB hb.size⟩
theorem FpS.drop (h : FpS B s o q t r tab Q T R fs w0 wr) : FpS B s o q (.slice none 0 0) r tab Q 0 R fs w0 wr := by
  have n0 : ¬ 0 < sCap (.slice none 0 0) := nil_cap
  have hw : ∀ k, W3 s o q (.slice none 0 0) r k → W3 s o q t r k := fun k hk => by
    rcases hk with hk | ⟨hk, -⟩ | hk | hk
    · exact .inl hk
    · exact absurd hk n0
    · exact .inr (.inr (.inl hk))
    · exact .inr (.inr (.inr hk))
  exact ⟨h.st, h.oq, .nil _ _ _, h.or_, fun _ hc => absurd hc n0, h.qr, fun hc => absurd hc n0, h.nq, fun hc => absurd hc n0, h.nr, h.otab, fun hc hk => h.ntab hc (hw _ hk), h.tz, fun p hp => ⟨(h.fs p hp).1, (h.fs p hp).2.1, fun hk => (h.fs p hp).2.2.1 (hw _ hk), (h.fs p hp).2.2.2⟩, h.bl, h.hB⟩
theorem FpS.div (h : FpS B s o q t r tab Q T R fs w0 wr) (hf : Own wr B 98 f (cellsW (wds F))) (hF : 0 < F) (hF40 : nw F < 40) (hnf : ¬ W3 s o q t r (sBlk f)) (hQ0 : 0 < Q) (hQ : nw Q ≤ 90000) (hT : DivW wr) (hg : 3 < B) :
    Calls Tryz.prog 61 #[t, .pointer (some ⟨s, 0, none⟩), r, q, f] wr fun e w' => ∃ t' r' o', e = .returned (.tuple #[t', r']) ∧ IsS t' ∧ IsS r' ∧ sLen r' = nw (Q % F) ∧ FpS B s o' q t' r' tab Q (Q / F) (Q % F) fs w0 w' ∧ FpF B s o' q t' r' (.slice none 0 0) w' (f, F) := by
  have cq := own_cap h.oq hQ0
  have cf := own_cap hf hF
  refine (div_stk t r q f _ _ Q F B s 0 o wr h.st (by decide) h.nt h.nr (h.nq cq) (fun hk => hnf (.inr (.inr (.inr hk)))) h.ot h.or_ (h.oq.ro (wds_all _)) (hf.ro (wds_all _)) (fun hc he => absurd he (h.qt cq hc)) hF hF40 hQ h.tr (fun hc he => absurd he (h.qr cq hc)) (fun hc he => hnf (.inr (.inr (.inl ⟨hc, he⟩)))) h.hB hT hg).mono ?_
  rintro e w' ⟨t', r', he, hd⟩
  obtain ⟨o', d⟩ := DvQ.of h.st h.nt h.nr hd
  have hsz := d.below.size
  -- an old block that is not written again
  have hkeep : ∀ k, k < wr.heap.size → ¬ W3 s o q t r k → w'.heap[k]? = wr.heap[k]? := fun k hk hn => d.fr k hk (fun hc => hn (.inr (.inr (.inr hc)))) (fun hc he => hn (.inr (.inl ⟨hc, he⟩))) (fun hc he => hn (.inr (.inr (.inl ⟨hc, he⟩))))
  have hnew : ∀ k, k < wr.heap.size → ¬ W3 s o q t r k → ¬ W3 s o' q t' r' k := fun k hk hn hc => by
    rcases hc with hc | ⟨hc, he⟩ | ⟨hc, he⟩ | hc
    · exact hn (.inl hc)
    · rcases d.atq hc with ⟨a, b⟩ | a
      · exact hn (.inr (.inl ⟨a, he.trans b⟩))
      · omega
    · rcases d.atr hc with ⟨a, b⟩ | a
      · exact hn (.inr (.inr (.inl ⟨a, he.trans b⟩)))
      · omega
    · rcases d.sb k hc with a | a
      · exact hn (.inr (.inr (.inr a)))
      · omega
  have hqb := (h.oq.lt cq).2
  have hoq : Own w' B 98 q (cellsW (wds Q)) := h.oq.same fun hc => d.fr _ hqb (h.nq cq) (fun hc => h.qt cq hc) (fun hc => h.qr cq hc)
  refine ⟨t', r', o', he, d.oq.isS, d.or_.isS, by rw [d.or_.len, cellsW_length, wds_length], ⟨d.st, hoq, d.oq, d.or_, fun _ hc he => ?_, fun _ hc he => ?_, d.ne, fun _ hk => ?_, d.nsq, d.nsr, ?_, ?_, h.tz, ?_, h.bl.trans d.below, Nat.le_trans h.hB hsz⟩, ?_⟩
  · rcases d.atq hc with ⟨a, b⟩ | a
    · exact h.qt cq a (he.trans b)
    · omega
  · rcases d.atr hc with ⟨a, b⟩ | a
    · exact h.qr cq a (he.trans b)
    · omega
  · rcases d.sb _ hk with a | a
    · exact h.nq cq a
    · omega
  · exact h.otab.same fun hc => hkeep _ (h.otab.lt hc).2 (h.ntab hc)
  · exact fun hc => hnew _ (h.otab.lt hc).2 (h.ntab hc)
  · intro p hp
    obtain ⟨p1, p2, p3, p4⟩ := h.fs p hp
    have hl := (p1.lt (own_cap p1 p2)).2
    exact ⟨p1.same fun _ => hkeep _ hl p3, p2, hnew _ hl p3, p4⟩
  · have hl := (hf.lt cf).2
    exact ⟨hf.same fun _ => hkeep _ hl hnf, hF, hnew _ hl hnf, fun hc => absurd hc nil_cap⟩
theorem FpS.setq (h : FpS B s o q t r tab Q T R fs w0 wr) (hQ0 : 0 < Q) (hT : nw T ≤ 1000000) :
    Calls Tryz.prog 63 #[q, t] wr fun e w' => ∃ q', e = .returned q' ∧ IsS q' ∧ FpS B s o q' t r tab T T R fs w0 w' := by
  have cq := own_cap h.oq hQ0
  refine (set_at q t _ (wds T) B wr h.oq (h.ot.rw' (wds_all _)) (by rw [wds_length]; omega) h.hB).mono ?_
  rintro e w' ⟨q', he, ho, hb, hf, hat⟩
  have hsz := hb.size
  have hnew : ∀ k, k < wr.heap.size → ¬ W3 s o q t r k → ¬ W3 s o q' t r k := fun k hk hn hc => by
    rcases hc with ⟨hc, he⟩ | hc
    · rcases hat hc with ⟨a, b⟩ | a
      · exact hn (.inl ⟨a, he.trans b⟩)
      · omega
    · exact hn (.inr hc)
  have hkeep : ∀ k, k < wr.heap.size → ¬ W3 s o q t r k → w'.heap[k]? = wr.heap[k]? := fun k hk hn => hf k hk (fun hc he => hn (.inl ⟨hc, he⟩))
  have hqn : ∀ k, k < wr.heap.size → k ≠ sBlk q → 0 < sCap q' → sBlk q' ≠ k := fun k hk hn hc he => by
    rcases hat hc with ⟨a, b⟩ | a
    · exact hn (he.symm.trans b)
    · omega
  refine ⟨q', he, ho.isS, ⟨h.st.keep fun k hk => hf k (h.st.base hk).2 (fun hc he => h.nq hc (he ▸ hk)), ho, h.ot.same fun hc => hf _ (h.ot.lt hc).2 (fun _ he => h.qt cq hc he.symm), h.or_.same fun hc => hf _ (h.or_.lt hc).2 (fun _ he => h.qr cq hc he.symm),
    fun hc ht => hqn _ (h.ot.lt ht).2 (fun he => h.qt cq ht he.symm) hc, fun hc ht => hqn _ (h.or_.lt ht).2 (fun he => h.qr cq ht he.symm) hc, h.tr, fun hc hk => ?_, h.nt, h.nr, h.otab.same fun hc => hkeep _ (h.otab.lt hc).2 (h.ntab hc), fun hc => hnew _ (h.otab.lt hc).2 (h.ntab hc), h.tz, ?_, h.bl.trans hb, Nat.le_trans h.hB hsz⟩⟩
  · exact hqn _ (h.st.base hk).2 (fun he => h.nq cq (he ▸ hk)) hc rfl
  · intro p hp
    obtain ⟨p1, p2, p3, p4⟩ := h.fs p hp
    have hl := (p1.lt (own_cap p1 p2)).2
    exact ⟨p1.same fun _ => hkeep _ hl p3, p2, hnew _ hl p3, p4⟩
theorem FpS.push {tab' : Value} {w' : World} (h : FpS B s o q t r tab Q T R fs w0 wr) (hf : FpF B s o q t r tab wr (f, F)) (ho : Own w' B 85 tab' (fs.map Prod.fst ++ [f])) (hb : Below B wr w') (hon : Only (sBlk tab) wr w') (hat : sBlk tab' = sBlk tab ∨ wr.heap.size ≤ sBlk tab') (hc0 : 0 < sCap tab') (hB0 : 0 < B) :
    FpS B s o q t r tab' Q T R (fs ++ [(f, F)]) w0 w' := by
  have hsz := hb.size
  have hfr : ∀ k, k < wr.heap.size → (0 < sCap tab → k ≠ sBlk tab) → w'.heap[k]? = wr.heap[k]? := fun k hk hn => by
    by_cases he : k = sBlk tab
    · rcases h.tz with hz | hz
      · exact absurd he (hn hz)
      · rw [hz] at he
        have e0 : sBlk (.slice none 0 0) = 0 := rfl
        exact hb.block k (by omega)
    · exact hon k hk he
  have hw : ∀ k, W3 s o q t r k → (0 < sCap tab → k ≠ sBlk tab) := fun k hk hc he => h.ntab hc (he ▸ hk)
  have hnt : ∀ k, k < wr.heap.size → B ≤ k → (0 < sCap tab → k ≠ sBlk tab) → k ≠ sBlk tab' := fun k hk hBk hn he => by
    rcases hat with a | a
    · rcases h.tz with hz | hz
      · exact hn hz (he.trans a)
      · rw [hz] at a
        have e0 : sBlk (.slice none 0 0) = 0 := rfl
        omega
    · omega
  have keepF : ∀ p, FpF B s o q t r tab wr p → FpF B s o q t r tab' w' p := fun p ⟨p1, p2, p3, p4⟩ => by
    have hl := p1.lt (own_cap p1 p2)
    exact ⟨p1.same fun _ => hfr _ hl.2 p4, p2, p3, fun _ => hnt _ hl.2 hl.1 p4⟩
  refine ⟨h.st.keep fun k hk => hfr k (h.st.base hk).2 (hw k (.inr (.inr (.inr hk)))), h.oq.same fun hc => hfr _ (h.oq.lt hc).2 (hw _ (.inl ⟨hc, rfl⟩)), h.ot.same fun hc => hfr _ (h.ot.lt hc).2 (hw _ (.inr (.inl ⟨hc, rfl⟩))), h.or_.same fun hc => hfr _ (h.or_.lt hc).2 (hw _ (.inr (.inr (.inl ⟨hc, rfl⟩)))),
    h.qt, h.qr, h.tr, h.nq, h.nt, h.nr, by rw [List.map_append]; exact ho, fun _ hk => ?_, .inl hc0, fun p hp => ?_, h.bl.trans hb, Nat.le_trans h.hB hsz⟩
  · rcases hk with ⟨hc, he⟩ | ⟨hc, he⟩ | ⟨hc, he⟩ | hk
    · exact hnt _ (h.oq.lt hc).2 (h.oq.lt hc).1 (hw _ (.inl ⟨hc, rfl⟩)) he.symm
    · exact hnt _ (h.ot.lt hc).2 (h.ot.lt hc).1 (hw _ (.inr (.inl ⟨hc, rfl⟩))) he.symm
    · exact hnt _ (h.or_.lt hc).2 (h.or_.lt hc).1 (hw _ (.inr (.inr (.inl ⟨hc, rfl⟩)))) he.symm
    · exact hnt _ (h.st.base hk).2 (h.st.base hk).1 (hw _ (.inr (.inr (.inr hk)))) rfl
  · rcases List.mem_append.1 hp with hp | hp
    · exact keepF p (h.fs p hp)
    · rw [List.mem_singleton] at hp
      subst hp
      exact keepF _ hf
end
def fvF (p : Nat) : Nat → Nat → Nat
  | 0, _ => 0
  | n + 1, a => if a % p = 0 then fvF p n (a / p) + 1 else 0
def fv (p a : Nat) : Nat := fvF p a a
theorem fvF_spec {p : Nat} (hp : 2 ≤ p) : ∀ n a, 0 < a → a ≤ n → ∃ m, a = m * p ^ fvF p n a ∧ m % p ≠ 0
  | 0, a, h0, h => by omega
  | n + 1, a, h0, h => by
    unfold fvF
    by_cases hd : a % p = 0
    · rw [if_pos hd]
      have h1 : a = a / p * p := (Nat.div_mul_cancel (Nat.dvd_of_mod_eq_zero hd)).symm
      have h2 : 0 < a / p := Nat.div_pos (Nat.le_of_dvd h0 (Nat.dvd_of_mod_eq_zero hd)) (by omega)
      have h3 : a / p < a := Nat.div_lt_self h0 (by omega)
      obtain ⟨m, k1, k2⟩ := fvF_spec hp n (a / p) h2 (by omega)
      refine ⟨m, ?_, k2⟩
      rw [Nat.pow_succ, ← Nat.mul_assoc, ← k1]; exact h1
    · rw [if_neg hd]; exact ⟨a, by rw [Nat.pow_zero, Nat.mul_one], hd⟩
theorem fv_spec {p a : Nat} (hp : 2 ≤ p) (h : 0 < a) : ∃ m, a = m * p ^ fv p a ∧ m % p ≠ 0 := fvF_spec hp a a h (Nat.le_refl _)
theorem fv_le {p k d m m' : Nat} (hp : 2 ≤ p) (h : m * p ^ k = m' * p ^ (k + d)) (hm : m % p ≠ 0) : d = 0 := by
  refine Nat.eq_zero_of_not_pos fun hd => hm ?_
  rw [Nat.pow_add, Nat.mul_comm (p ^ k), ← Nat.mul_assoc] at h
  have h1 := Nat.eq_of_mul_eq_mul_right (Nat.pow_pos (by omega)) h
  obtain ⟨e, rfl⟩ : ∃ e, d = e + 1 := ⟨d - 1, by omega⟩
  rw [h1, Nat.pow_succ, ← Nat.mul_assoc]
  exact Nat.mul_mod_left _ _
theorem fac_uniq {p a k m k' m' : Nat} (hp : 2 ≤ p) (h : a = m * p ^ k) (hm : m % p ≠ 0) (h' : a = m' * p ^ k') (hm' : m' % p ≠ 0) : k = k' := by
  rcases Nat.le_total k k' with c | c
  · obtain ⟨d, rfl⟩ := Nat.exists_eq_add_of_le c
    have := fv_le hp (h.symm.trans h') hm
    omega
  · obtain ⟨d, rfl⟩ := Nat.exists_eq_add_of_le c
    have := fv_le hp (h'.symm.trans h) hm'
    omega
theorem fv_of {p a k m : Nat} (hp : 2 ≤ p) (h0 : 0 < a) (h : a = m * p ^ k) (hm : m % p ≠ 0) : fv p a = k := by
  obtain ⟨m', k1, k2⟩ := fv_spec hp h0
  exact fac_uniq hp k1 k2 h hm
theorem fv_bl {p a k c : Nat} (hp : 2 ≤ p) (hc : 0 < c) (h : a = c * p ^ k) : k < bl a + 1 := by
  have h1 : 2 ^ k ≤ a := by
    rw [h]
    exact Nat.le_trans (Nat.pow_le_pow_left hp k) (Nat.le_mul_of_pos_left _ hc)
  have h2 := Nat.lt_of_le_of_lt h1 (lt_bl a)
  have := (Nat.pow_lt_pow_iff_right (a := 2) (by decide)).1 h2
  omega
set_option maxRecDepth 100000 in
set_option maxHeartbeats 1600000 in
theorem spFactors (a : Value) (x p : Nat) (w : World) (ha : NatV w a x) (h0 : 0 < x) (hx : bl x ≤ 100000) (hp : 2 ≤ p) (hp2 : p < 65536) :
    Calls Tryz.prog 31 #[a, .int .i64 p] w fun e w' => e = .returned (.int .i64 (fv p x)) ∧ Below w.heap.size w w' := by
  have hS := ha.isS
  have hnx : nl x ≤ 100000 := nl_of_bl hx
  have H1 := Lib.hid (spByDigit a x p w ha (by omega) (by omega) hp2)
  have HB : Hid (∀ q c w1, NatV w1 q c → c ≤ x → Calls Tryz.prog 67 #[q, .int .i64 p] w1 fun e w' => ∃ q, e = .returned (.tuple #[q, .int .i64 ((c % p : Nat) : Int)]) ∧ NatV w' q (c / p) ∧ Below w1.heap.size w1 w') := Lib.hid (fun q c w1 hq hc => by
    refine (spByDigit q c p w1 hq (Nat.le_trans (nl_of_bl (Nat.le_trans (bl_mono hc) hx)) (by decide)) (by omega) hp2).mono ?_
    rintro e w' ⟨q', h1, h2⟩
    exact ⟨q', h1, h2.1, h2.2⟩)
  obtain ⟨L, hL⟩ : ∃ L, L = bl x := ⟨_, rfl⟩
  have HL := Lib.hid hL
  rw [← hL] at hx
  have HX := Lib.hid h0
  clear ha hnx hL
  go_enter Tryz.func31, Tryz.ntmps31
  go_wp2_with fail
  refine H1.out.mono ?_
  rintro _ w1 ⟨q, rfl, hq⟩
  have hSq := hq.1.isS
  have HQ := Lib.hid hq
  clear hq
  go_wp2
  go_loopw [5, 6, 7] (fun n v r wr => ∃ k c : Nat, n = .int .i64 k ∧ r = .int .i64 ((c % p : Nat) : Int) ∧ IsS v ∧ NatV wr v (c / p) ∧ x = c * p ^ k ∧ 0 < c ∧ Below w.heap.size w wr) (fun n _ _ _ => L + 1 - (intOf n).toNat)
  case atStart => exact ⟨0, x, rfl, rfl, hSq, HQ.out.1, by rw [Nat.pow_zero, Nat.mul_one], HX.out, HQ.out.2⟩
  case round =>
    obtain ⟨k, c, rfl, rfl, hSv, hv, hc, hc0, hbl⟩ := hrel
    have hkb := fv_bl hp hc0 hc
    rw [← HL.out] at hkb
    have HV := Lib.hid hv
    have HC := Lib.hid hc
    have HBL := Lib.hid hbl
    obtain ⟨r, hr⟩ : ∃ r, r = c % p := ⟨_, rfl⟩
    rw [← hr]
    have HR := Lib.hid hr
    clear hv hc hbl hr
    by_cases hz : r = 0
    · have t1 : ((r : Int) == 0) = true := by rw [beq_iff_eq]; omega
      have hd : p ∣ c := Nat.dvd_of_mod_eq_zero (by rw [← HR.out]; exact hz)
      have hc1 : 0 < c / p := Nat.div_pos (Nat.le_of_dvd hc0 hd) (by omega)
      have hc2 : x = c / p * p ^ (k + 1) := by
        rw [Nat.pow_succ, Nat.mul_comm (p ^ k), ← Nat.mul_assoc, Nat.div_mul_cancel hd]; exact HC.out
      have hk2 := fv_bl hp hc1 hc2
      rw [← HL.out] at hk2
      have hle : c / p ≤ x := by rw [hc2]; exact Nat.le_mul_of_pos_right _ (Nat.pow_pos (by omega))
      have HN := Lib.hid (HB.out _ (c / p) wr HV.out hle)
      have HC2 := Lib.hid (And.intro hc2 hc1)
      clear hz hd hc1 hc2 hle
      go_wp2_with fail
      refine HN.out.mono ?_
      rintro _ w2 ⟨v2, rfl, hv2, hb2⟩
      have hS2 := hv2.isS
      have HV2 := Lib.hid hv2
      have HB2 := Lib.hid (HBL.out.trans (hb2.mono HBL.out.size))
      clear hv2 hb2
      go_wp2
      go_roundw
      case rel => exact ⟨k + 1, c / p, by go_num, rfl, hS2, HV2.out, HC2.out.1, HC2.out.2, HB2.out⟩
      case measure => simp [intOf]; omega
    · have t1 : ((r : Int) == 0) = false := by rw [beq_eq_false_iff_ne]; omega
      have HF : Hid (fv p x = k) := Lib.hid (fv_of hp HX.out HC.out (by rw [← HR.out]; exact hz))
      clear hz
      go_wp2
      go_ret
      exact ⟨by rw [HF.out]; rfl, HBL.out⟩
def TabW (w : World) : Prop := TabAt 5 Lib.deBruijn64tab w
theorem TabW.below {w w' : World} (h : TabW w) (hb : Below w.heap.size w w') : TabW w' := fun j hj => by
  have h1 := h j hj
  have hlt := World.block_lt_of_cell? w _ h1
  rw [hb.cell (p := ⟨5, j, none⟩) hlt]; exact h1
theorem TabW.drewN {w : World} (h : TabW w) (n : Nat) : TabW (w.drewN n) := h
theorem ctz_tz {x : Nat} (h0 : 0 < x) (hx : x < 18446744073709551616) : Lib.ctz 64 x = tz x := by
  obtain ⟨m, hm, -⟩ := Lib.ctzFrom_spec 64 x h0 (by simpa using hx)
  have e : Lib.ctz 64 x = Lib.ctzFrom 64 x := by simp [Lib.ctz]; omega
  rw [e]
  exact ((od_of (n := x) (o := 2 * m + 1) (t := Lib.ctzFrom 64 x) (by rw [Nat.mul_comm]; exact hm) (by omega)).2).symm
set_option maxRecDepth 100000 in
theorem tz64_any (x : Nat) (w : World) (h0 : 0 < x) (hx : x < 18446744073709551616) (hT : TabW w) :
    Calls Tryz.prog 124 #[.int .u64 x] w fun e w' => e = .returned (.int .i64 (tz x : Nat)) ∧ w = w' := by
  obtain ⟨hlow, hk⟩ := Lib.lowest_bit 64 x (by omega) (by simpa using hx)
  obtain ⟨hi, htab⟩ := Lib.deBruijn64_at _ hk
  have hcell := hT _ hi
  rw [htab, ctz_tz h0 hx] at hcell
  have key := tz64_key x _ hx (by omega) hlow
  rw [ctz_tz h0 hx] at key hi
  rw [ctz_tz h0 hx] at hk
  obtain ⟨i, hii⟩ : ∃ i, i = 2 ^ tz x * 285870213051353865 % 18446744073709551616 / 288230376151711744 := ⟨_, rfl⟩
  rw [← hii] at key hi hcell
  have t0 : ((x : Int) == 0) = false := by rw [beq_eq_false_iff_ne]; omega
  obtain ⟨k, hkk⟩ : ∃ k, k = tz x := ⟨_, rfl⟩
  rw [← hkk] at hcell hk ⊢
  clear hlow htab hii hkk hT
  go_enter Tryz.func124, Tryz.ntmps124
  go_wp2_with (simp only [key])
  go_ret
  exact ⟨rfl, rfl⟩
set_option maxRecDepth 100000 in
theorem tzc_any (x : Nat) (w : World) (h0 : 0 < x) (hx : x < 18446744073709551616) (hT : TabW w) :
    Calls Tryz.prog 91 #[.int .u64 x] w fun e w' => e = .returned (.int .i64 (tz x : Nat)) ∧ w = w' := by
  have H := Lib.hid (tz64_any x w h0 hx hT)
  have hk : tz x < 64 := by have := tz_le h0; have := bl_le64 hx; omega
  obtain ⟨k, hkk⟩ : ∃ k, k = tz x := ⟨_, rfl⟩
  rw [← hkk] at hk H ⊢
  clear hkk h0 hT
  go_enter Tryz.func91, Tryz.ntmps91
  go_wp2_with fail
  refine H.out.mono ?_
  rintro _ _ ⟨rfl, rfl⟩
  go_wp2
  go_ret
  exact ⟨rfl, rfl⟩
theorem tz_words {N k : Nat} (h : ∀ j, j < k → wdg N j = 0) (hk : wdg N k ≠ 0) : tz N = 64 * k + tz (wdg N k) := by
  have h1 := (wlow_zero (n := N) k).2 h
  have hd := Nat.pos_of_ne_zero hk
  have hN : N = 18446744073709551616 ^ k * (N / 18446744073709551616 ^ k) := by have := Nat.div_add_mod N (18446744073709551616 ^ k); omega
  obtain ⟨o1, o2⟩ := od_tz hd
  have hq : N / 18446744073709551616 ^ k = 18446744073709551616 * (N / 18446744073709551616 ^ k / 18446744073709551616) + wdg N k := by
    unfold wdg; exact (Nat.div_add_mod _ _).symm
  have ht : tz (wdg N k) < 64 := by have := tz_le hd; have := bl_le64 (wdg_lt N k); omega
  obtain ⟨Y, hY⟩ : ∃ Y, Y = N / 18446744073709551616 ^ k / 18446744073709551616 := ⟨_, rfl⟩
  rw [← hY] at hq
  have e : (18446744073709551616 : Nat) = 2 ^ (63 - tz (wdg N k)) * 2 * 2 ^ tz (wdg N k) := by
    rw [← Nat.pow_succ, ← Nat.pow_add, show 63 - tz (wdg N k) + 1 + tz (wdg N k) = 64 by omega]
  have h2 : N / 18446744073709551616 ^ k = (2 * (2 ^ (63 - tz (wdg N k)) * Y) + od (wdg N k)) * 2 ^ tz (wdg N k) := by
    rw [hq, Nat.add_mul, ← o1]
    congr 1
    conv => lhs; rw [e]
    simp only [Nat.mul_comm, Nat.mul_left_comm]
  refine (od_of (n := N) (o := 2 * (2 ^ (63 - tz (wdg N k)) * Y) + od (wdg N k)) (t := 64 * k + tz (wdg N k)) ?_ (by omega)).2
  conv => lhs; rw [hN, h2, w_two]
  rw [Nat.mul_comm (2 ^ (64 * k)), Nat.mul_assoc, ← Nat.pow_add, Nat.add_comm (tz _)]
set_option maxRecDepth 100000 in
set_option maxHeartbeats 800000 in
theorem tzb_any (v : Value) (ws : List Nat) (w : World) (hv : RW w v ws) (h0 : 0 < wv ws) (hl : ws.length ≤ 1000000000) (hT : TabW w) :
    Calls Tryz.prog 59 #[v] w fun e w' => e = .returned (.int .u64 (tz (wv ws) : Nat)) ∧ w = w' := by
  have hS := hv.isS
  have hL : sLen v = ws.length := hv.len
  have hget : ∀ j, ws.getD j 0 = wdg (wv ws) j := fun j => by rw [wv_dig hv.lt]
  have hne : 0 < ws.length := by
    rcases Nat.eq_zero_or_pos ws.length with h | h
    · have := List.eq_nil_of_length_eq_zero h; subst this; simp [wv] at h0
    · exact h
  obtain ⟨L, hLw⟩ : ∃ L, L = ws.length := ⟨_, rfl⟩
  rw [← hLw] at hL hl hne
  have hNl : wv ws < 18446744073709551616 ^ L := by rw [hLw]; exact wv_lt hv.lt
  obtain ⟨N, hN⟩ : ∃ N, N = wv ws := ⟨_, rfl⟩
  rw [← hN] at h0 hget hNl ⊢
  have t0 : ((L : Int) == 0) = false := by rw [beq_eq_false_iff_ne]; omega
  have HV := Lib.hid hv
  have HG := Lib.hid hget
  have HL := Lib.hid hLw
  have HT := Lib.hid hT
  have HNL := Lib.hid hNl
  clear hv hget hLw hT hN hNl
  go_enter Tryz.func59, Tryz.ntmps59
  go_wp2
  go_loopw [3] (fun i wr => ∃ k : Nat, k < L ∧ (∀ j, j < k → wdg N j = 0) ∧ i = .int .u64 k ∧ w = wr) (fun i _ => L - (intOf i).toNat)
  case atStart => exact ⟨0, hne, fun j hj => absurd hj (by omega), rfl, rfl⟩
  case round =>
    obtain ⟨k, hk, hz, rfl, rfl⟩ := hrel
    have c := HV.out.cell k (by rw [← HL.out]; exact hk)
    rw [HG.out] at c
    have HZ := Lib.hid hz
    have hdl := wdg_lt N k
    obtain ⟨d, hd⟩ : ∃ d, d = wdg N k := ⟨_, rfl⟩
    rw [← hd] at c hdl
    have HD := Lib.hid hd
    clear hz hd
    by_cases hd0 : d = 0
    · subst hd0
      have hk1 : k + 1 < L := by
        refine Nat.lt_of_not_le fun hc => ?_
        have : N % 18446744073709551616 ^ L = 0 := (wlow_zero (n := N) L).2 fun j hj => by
          by_cases hjk : j < k
          · exact HZ.out j hjk
          · rw [show j = k by omega]; exact HD.out.symm
        rw [Nat.mod_eq_of_lt HNL.out] at this
        omega
      go_wp2
      refine ⟨⟨k + 1, hk1, fun j hj => ?_, by simp, trivial⟩, by simp [intOf]; omega⟩
      by_cases hjk : j < k
      · exact HZ.out j hjk
      · rw [show j = k by omega]; exact HD.out.symm
    · have t1 : ((d : Int) == 0) = false := by rw [beq_eq_false_iff_ne]; omega
      have hdp : 0 < d := by omega
      have ht := tz_words HZ.out (by rw [← HD.out]; exact hd0)
      rw [← HD.out] at ht
      have htl : tz d < 64 := by have := tz_le hdp; have := bl_le64 hdl; omega
      have HTD := Lib.hid ht
      clear ht hd0
      go_wp2_with fail
      refine (tzc_any d w hdp hdl HT.out).mono ?_
      rintro _ _ ⟨rfl, rfl⟩
      obtain ⟨q, hq⟩ : ∃ q, q = tz d := ⟨_, rfl⟩
      rw [← hq] at htl HTD ⊢
      clear hq
      go_wp2
      go_ret
      rw [HTD.out]
      exact ⟨ret_u64 (by push_cast; omega), rfl⟩
set_option maxRecDepth 100000 in
set_option maxHeartbeats 1600000 in
theorem rsh_nil (v : Value) (ws : List Nat) (s : Nat) (w : World) (hv : RW w v ws) (hl : ws.length ≤ 1000000) (hs0 : 0 < s) (hs : s < 64 * ws.length) :
    Calls Tryz.prog 60 #[.slice none 0 0, v, .int .u64 s] w fun e w' => ∃ r, e = .returned r ∧ Own w' w.heap.size 98 r (cellsW (wds (wv ws / 2 ^ s))) ∧ Below w.heap.size w w' := by
  have hS := hv.isS
  have hLv := hv.len
  obtain ⟨L, hL⟩ : ∃ L, L = ws.length := ⟨_, rfl⟩
  rw [← hL] at hLv hl hs
  have t0 : ((s : Int) == 0) = false := by rw [beq_eq_false_iff_ne]; omega
  obtain ⟨n, hn⟩ : ∃ n, n = L - s / 64 := ⟨_, rfl⟩
  obtain ⟨k, hk⟩ : ∃ k, k = s / 64 := ⟨_, rfl⟩
  obtain ⟨t, ht⟩ : ∃ t, t = s % 64 := ⟨_, rfl⟩
  have hn1 : 0 < n := by omega
  have hnl : n ≤ 1000000 := by omega
  have ek : (s : Int) / 64 = (k : Int) := by omega
  have et : (s : Int) % 64 = (t : Int) := by omega
  have en : (L : Int) - (k : Int) = (n : Int) := by omega
  have en2 : (L : Int) - (n : Int) = (k : Int) := by omega
  have hkL : k ≤ L := by omega
  have hkl2 : k < L := by omega
  have ht64 : t < 64 := by omega
  have tn : decide ((n : Int) ≤ 0) = false := decide_eq_false (by omega)
  have HD := Lib.hid (hv.dropW (k := k) (by omega))
  have hdl : (ws.drop k).length = n := by rw [List.length_drop]; omega
  have HDL := Lib.hid hdl
  have HQ : Hid (wv ws / 2 ^ s = wv (ws.drop k) / 2 ^ t) := Lib.hid (by
    rw [wv_drop hv.lt (by omega), w_two, Nat.div_div_eq_div_mul, ← Nat.pow_add]; congr 2; omega)
  have HV := Lib.hid hv
  have HLt := Lib.hid (show ∀ d ∈ ws.drop k, d < 18446744073709551616 from fun d hd => hv.lt d (List.mem_of_mem_drop hd))
  have hblk : sBlk (subS v k L) < w.heap.size := by
    rw [subS_blk hS]; exact hv.ri.lt (by rw [ints_length]; omega)
  have hLx : sLen (subS v k L) = n := by rw [subS_len hS]; omega
  have hSx : IsS (subS v k L) := subS_isS hS hkL (by have := hS.le; omega)
  have HL := Lib.hid hL
  clear hv hL hn hk ht hdl
  go_enter Tryz.func60, Tryz.ntmps60
  go_wp2_with fail
  refine (make_nil n w (by omega)).mono ?_
  rintro _ w1 ⟨z, rfl, ho, hb, hcz⟩
  have hSz := ho.isS
  have hLz : sLen z = n := by rw [ho.len]; simp
  have hcap := hcz hn1
  have hzB := (ho.lt hcap).1
  have HO := Lib.hid ho
  have HB := Lib.hid hb
  have HX := HD.out.below hb
  rw [← HL.out] at HX
  have HX1 := Lib.hid HX
  have hbz := hb.size
  clear ho hb hcz HX
  have fin : ∀ (os : List Nat) (w2 : World), Own w2 w.heap.size 98 z (cellsW os) → (∀ d ∈ os, d < 18446744073709551616) → wv os = wv ws / 2 ^ s → Own w2 w.heap.size 98 (subS z 0 (nw (wv os))) (cellsW (wds (wv ws / 2 ^ s))) :=
    fun os w2 h1 h2 h3 => by rw [← h3]; exact h1.takeW h2
  have FIN := Lib.hid fin
  clear fin
  by_cases ht0 : t = 0
  · have t1 : ((t : Int) == 0) = true := by rw [ht0]; rfl
    have HT0 := Lib.hid ht0
    clear ht0
    go_wp2_with (refine wpList_copy_O (o := ⟨some 46, _, _, _, _, _⟩) rfl (.tmp 40) (.tmp 45) 85 85 rfl 98 Tryz.underlying85 sizeW z (subS v k L) rfl (by simp [Act.eval]) w.heap.size (List.replicate n (.int .u64 0)) HO.out (cellsW (ws.drop k)) ?d1 hSx ?d2 ?d3 (cellsW_one _) ?_)
    case d1 => rw [cellsW_length, HDL.out]; simp
    case d2 => rw [cellsW_length, HDL.out]; exact hLx
    case d3 => exact HX1.out.at
    intro w2 ho2 hb2 _
    have hSz2 := ho2.isS
    have HO2 := Lib.hid ho2
    have HB2 := Lib.hid (HB.out.trans (hb2.mono (Nat.le_refl _)))
    clear ho2 hb2
    go_wp2_with fail
    refine (norm_any z (ws.drop k) w2 (HO2.out.rw' HLt.out) (by rw [HDL.out]; omega)).mono ?_
    rintro _ _ ⟨rfl, rfl⟩
    have F := Lib.hid (FIN.out (ws.drop k) w2 HO2.out HLt.out (by rw [HQ.out, HT0.out, Nat.pow_zero, Nat.div_one]))
    have hSr := F.out.isS
    go_wp2
    go_ret
    exact ⟨_, rfl, F.out, HB2.out⟩
  · have t1 : ((t : Int) == 0) = false := by rw [beq_eq_false_iff_ne]; omega
    have ht1 : 0 < t := by omega
    have HOZ : Hid (Own w1 w.heap.size 98 z (cellsW (List.replicate n 0))) := Lib.hid (by rw [← cellsW_zeros]; exact HO.out)
    clear ht0
    go_wp2_with fail
    refine (rshVU_any z (subS v k L) (List.replicate n 0) (ws.drop k) (wv (ws.drop k)) t w.heap.size w1 HOZ.out (fun d hd => by rw [List.eq_of_mem_replicate hd]; decide) HX1.out rfl (by rw [HDL.out]; simp) (fun h => by omega) (by rw [HDL.out]; exact hn1) (by rw [HDL.out]; omega) ht1 ht64).mono ?_
    rintro _ w2 ⟨c, rfl, ho2, hb2, _⟩
    rw [HDL.out] at ho2
    have hwv : wv (wdsN (wv (ws.drop k) / 2 ^ t) n) = wv (ws.drop k) / 2 ^ t := by
      rw [wdsN_wv]
      refine Nat.mod_eq_of_lt (Nat.lt_of_le_of_lt (Nat.div_le_self _ _) ?_)
      have := wv_lt HLt.out
      rw [HDL.out] at this; exact this
    have HWV := Lib.hid hwv
    have HO2 := Lib.hid ho2
    have HB2 := Lib.hid (HB.out.trans (hb2.mono (Nat.le_refl _)))
    clear ho2 hb2 hwv
    go_wp2_with fail
    refine (norm_any z (wdsN (wv (ws.drop k) / 2 ^ t) n) w2 (HO2.out.rw' wdsN_lt) (by rw [wdsN_length]; omega)).mono ?_
    rintro _ _ ⟨rfl, rfl⟩
    have F := Lib.hid (FIN.out _ w2 HO2.out wdsN_lt (by rw [HWV.out, HQ.out]))
    have hSr := F.out.isS
    go_wp2
    go_ret
    exact ⟨_, rfl, F.out, HB2.out⟩
theorem elemT2 : ElemT Tryz.prog 105 85 24 (.slice none 0 0) := .of (z := .slice none 0 0) Tryz.underlying105 rfl (by kernel_rfl)
set_option maxRecDepth 100000 in
theorem rsh_zero (v : Value) (ws : List Nat) (w : World) (hv : RW w v ws) (hl : ws.length ≤ 1000000) (h0 : 0 < ws.length) :
    Calls Tryz.prog 60 #[.slice none 0 0, v, .int .u64 0] w fun e w' => ∃ r, e = .returned r ∧ Own w' w.heap.size 98 r (cellsW ws) ∧ Below w.heap.size w w' := by
  have hS := hv.isS
  have hLv := hv.len
  obtain ⟨L, hL⟩ : ∃ L, L = ws.length := ⟨_, rfl⟩
  rw [← hL] at hLv h0
  have HA := Lib.hid (fun W => alias_nil v W hS)
  have HS : Hid (∀ k, Calls Tryz.prog 63 #[.slice none 0 0, v] (w.drewN k) fun e w' => ∃ r, e = .returned r ∧ Own w' w.heap.size 98 r (cellsW ws) ∧ Below w.heap.size w w') := Lib.hid (fun k => by
    refine (set_nil v ws (w.drewN k) (hv.below (undrewN' (Below.refl _ _))) (by omega)).mono ?_
    rintro e w' ⟨r, h1, h2, h3⟩
    exact ⟨r, h1, h2, undrewN h3⟩)
  have t1 : decide (0 = L) = false := decide_eq_false (by omega)
  have t2 : ((0 : Int) == (L : Int)) = false := by rw [beq_eq_false_iff_ne]; omega
  have HSM : Hid (∀ k, Calls Tryz.prog 92 #[.slice none 0 0, v] (w.drewN k) fun e w' => e = .returned (.bool false) ∧ ∃ m, w' = w.drewN m) := Lib.hid (fun k => by
    clear HA HS hv hL
    go_enter Tryz.func92, Tryz.ntmps92
    go_wp2_with fail
    go_quiet (fail)
    go_wp2
    go_ret
    exact ⟨rfl, _, by rw [World.drewN_drewN]⟩)
  clear hv hL
  go_enter Tryz.func60, Tryz.ntmps60
  go_wp2_with fail
  refine (HSM.out 0).mono ?_
  rintro _ _ ⟨rfl, m1, rfl⟩
  go_wp2_with fail
  refine (HA.out _).mono ?_
  rintro _ _ ⟨rfl, m2, rfl⟩
  go_wp2_with fail
  refine (HS.out _).mono ?_
  rintro _ w1 ⟨r, rfl, h1, h2⟩
  have Q := Lib.hid (And.intro h1 h2)
  have hSr := h1.isS
  clear h1 h2
  go_wp2
  go_ret
  exact ⟨_, rfl, Q.out⟩
theorem rsh_all (v : Value) (N s : Nat) (w : World) (hv : RW w v (wds N)) (hN : 0 < N) (hl : nw N ≤ 100000) (hs : s < bl N) :
    Calls Tryz.prog 60 #[.slice none 0 0, v, .int .u64 s] w fun e w' => ∃ r, e = .returned r ∧ Own w' w.heap.size 98 r (cellsW (wds (N / 2 ^ s))) ∧ Below w.heap.size w w' := by
  rcases Nat.eq_zero_or_pos s with h0 | h0
  · subst h0
    rw [Nat.pow_zero, Nat.div_one]
    exact rsh_zero v (wds N) w hv (by rw [wds_length]; omega) (by rw [wds_length]; exact nw_pos hN)
  · have h1 : bl N ≤ 64 * nw N := by
      have := lt_nw N
      rw [show (18446744073709551616 : Nat) = 2 ^ 64 from rfl, ← Nat.pow_mul] at this
      exact bl_le this
    have := rsh_nil v (wds N) s w hv (by rw [wds_length]; omega) h0 (by rw [wds_length]; omega)
    rw [wv_wds] at this
    exact this
set_option maxRecDepth 100000 in
theorem natFive_any (w : World) : Calls Tryz.prog 64 #[] w fun e w' => ∃ r, e = .returned r ∧ Own w' w.heap.size 98 r (cellsW (wds 5)) ∧ Below w.heap.size w w' := by
  have ho : Own (w.alloc (.cells #[.int .u64 5] 98)) w.heap.size 98 (.slice (some ⟨w.heap.size, 0, none⟩) 1 1) (cellsW (wds 5)) := by
    rw [show wds 5 = [5] by decide]
    exact ⟨IsS.mk (Nat.le_refl _), rfl, by rw [sCap_mk]; unfold maxLen; omega, .inr ⟨Nat.le_refl _, _, heap_alloc_new w _, by simp, by simp [cellsW]⟩⟩
  have HO := Lib.hid ho
  clear ho
  go_enter Tryz.func64, Tryz.ntmps64
  go_wp2
  go_ret
  exact ⟨_, rfl, HO.out, (Below.refl _ _).alloc (Nat.le_refl _) _⟩
theorem first_pow (w : World) : Own (w.alloc (.cells #[.int .u64 1220703125] 98)) w.heap.size 98 (.slice (some ⟨w.heap.size, 0, none⟩) 1 1) (cellsW (wds (5 ^ (13 * 2 ^ 0)))) := by
  rw [show wds (5 ^ (13 * 2 ^ 0)) = [1220703125] by decide]
  exact ⟨IsS.mk (Nat.le_refl _), rfl, by rw [sCap_mk]; unfold maxLen; omega, .inr ⟨Nat.le_refl _, _, heap_alloc_new w _, by simp, by simp [cellsW]⟩⟩
theorem pow_lt_bits (n : Nat) : 5 ^ n < 2 ^ (3 * n + 1) := by
  have h1 : 5 ^ n ≤ 8 ^ n := Nat.pow_le_pow_left (by decide) n
  have h2 : (8 : Nat) ^ n = 2 ^ (3 * n) := by rw [show (8 : Nat) = 2 ^ 3 from rfl, ← Nat.pow_mul]
  have h3 : 2 ^ (3 * n) < 2 ^ (3 * n + 1) := Nat.pow_lt_pow_right (by decide) (by omega)
  omega
theorem tab_bd {Q k : Nat} (hQ0 : 0 < Q) (hQ : bl Q ≤ 640) (h : Q % 5 ^ (13 * 2 ^ k) = 0) : k ≤ 4 ∧ nw (5 ^ (13 * 2 ^ k)) ≤ 10 := by
  have h1 : 5 ^ (13 * 2 ^ k) ≤ Q := Nat.le_of_dvd hQ0 (Nat.dvd_of_mod_eq_zero h)
  have h2 : 2 ^ (2 * (13 * 2 ^ k)) ≤ 5 ^ (13 * 2 ^ k) := by
    rw [Nat.pow_mul]; exact Nat.pow_le_pow_left (by decide) _
  have h3 := Nat.lt_of_le_of_lt (Nat.le_trans h2 h1) (lt_bl Q)
  have h4 := (Nat.pow_lt_pow_iff_right (a := 2) (by decide)).1 h3
  refine ⟨Nat.le_of_not_lt fun hk => ?_, nw_b (Nat.le_trans (bl_mono h1) (by omega))⟩
  have h5 : 2 ^ 5 ≤ 2 ^ k := Nat.pow_le_pow_right (by decide) (by omega)
  have h6 : (2 : Nat) ^ 5 = 32 := rfl
  omega
theorem pow_nw {k : Nat} (h : k ≤ 5) : nw (5 ^ (13 * 2 ^ k)) < 40 := by
  have h1 : 2 ^ k ≤ 2 ^ 5 := Nat.pow_le_pow_right (by decide) h
  have h2 := bl_le (pow_lt_bits (13 * 2 ^ k))
  have h6 : (2 : Nat) ^ 5 = 32 := rfl
  have := nw_b (n := 5 ^ (13 * 2 ^ k)) (k := 20) (by omega)
  omega
theorem pow_sq (k : Nat) : 5 ^ (13 * 2 ^ k) * 5 ^ (13 * 2 ^ k) = 5 ^ (13 * 2 ^ (k + 1)) := by
  rw [← Nat.pow_add]; congr 1; rw [Nat.pow_succ]; omega
def Fp1 (s : Nat) (q : Value) (Q : Nat) (W : World) (tab f r : Value) (k : Nat) (wr : World) : Prop :=
  ∃ (fs : List (Value × Nat)) (R : Nat) (o : Option (Nat × Value)), fs.length = k ∧ (∀ j p, fs[j]? = some p → p.2 = 5 ^ (13 * 2 ^ j)) ∧ FpS s s o q (.slice none 0 0) r tab Q 0 R fs W wr ∧ FpF s s o q (.slice none 0 0) r tab wr (f, 5 ^ (13 * 2 ^ k))
def Fp2 (s : Nat) (Q0 : Nat) (W : World) (tab : Value) (k : Nat) (q t r : Value) (P : Nat) (wr : World) : Prop :=
  ∃ (fs : List (Value × Nat)) (Q T R : Nat) (o : Option (Nat × Value)), fs.length = k ∧ (∀ j p, fs[j]? = some p → p.2 = 5 ^ (13 * 2 ^ j)) ∧ FpS s s o q t r tab Q T R fs W wr ∧ Q0 = Q * 5 ^ P ∧ 0 < Q
theorem Fp1.first {s : Nat} {q : Value} {Q : Nat} {w0 W : World} (hs : s ≤ W.heap.size) (hst : StO W s s 0 none) (hq : Own W s 98 q (cellsW (wds Q))) (hqs : 0 < sCap q → sBlk q ≠ s) (hb : Below s w0 W) :
    Fp1 s q Q w0 (.slice none 0 0) (.slice (some ⟨W.heap.size, 0, none⟩) 1 1) (.slice none 0 0) 0 (W.alloc (.cells #[.int .u64 1220703125] 98)) := by
  have hbx : Below W.heap.size W (W.alloc (.cells #[.int .u64 1220703125] 98)) := fbone _
  have n0 : ¬ 0 < sCap (.slice none 0 0) := nil_cap
  have hS : ∀ k, SBk s none k → k = s := fun k hk => by
    rcases hk with h | ⟨_, h, _⟩
    · exact h
    · cases h
  have h0 : FpS s s none q (.slice none 0 0) (.slice none 0 0) (.slice none 0 0) Q 0 0 [] w0 W :=
    ⟨hst, hq, .nil _ _ _, .nil _ _ _, fun _ h => absurd h n0, fun _ h => absurd h n0, fun h => absurd h n0, fun hc hk => hqs hc (hS _ hk), fun h => absurd h n0, fun h => absurd h n0, .nil _ _ _, fun h => absurd h n0, .inr rfl, fun p hp => absurd hp (by simp), hb, hs⟩
  refine ⟨[], 0, none, rfl, fun j p h => by simp at h, h0.grow hbx, (first_pow W).mono hs, Nat.pow_pos (by decide), fun hk => ?_, fun h => absurd h n0⟩
  have e : sBlk (.slice (some ⟨W.heap.size, 0, none⟩) 1 1) = W.heap.size := rfl
  have hsl : s < W.heap.size := get_lt hst.2.1
  rcases hk with ⟨hc, he⟩ | ⟨hc, -⟩ | ⟨hc, -⟩ | hk
  · have he2 : sBlk (.slice (some ⟨W.heap.size, 0, none⟩) 1 1) = sBlk q := he
    have := (hq.lt hc).2; omega
  · exact absurd hc n0
  · exact absurd hc n0
  · have he2 : sBlk (.slice (some ⟨W.heap.size, 0, none⟩) 1 1) = s := hS _ hk
    omega
section
variable {s k Q P : Nat} {q t r tab f : Value} {W wr : World}
theorem Fp1.div (h : Fp1 s q Q W tab f r k wr) (hk : k ≤ 5) (hQ0 : 0 < Q) (hQ : bl Q ≤ 640) (hT : DivW W) (dg : 3 < s) :
    IsS tab ∧ IsS f ∧ IsS r ∧ sLen tab = k ∧ sLen f = nw (5 ^ (13 * 2 ^ k)) ∧
    Calls Tryz.prog 61 #[.slice none 0 0, .pointer (some ⟨s, 0, none⟩), r, q, f] wr fun e w' => ∃ t' r', e = .returned (.tuple #[t', r']) ∧ IsS t' ∧ IsS r' ∧ sLen r' = nw (Q % 5 ^ (13 * 2 ^ k)) ∧ Fp1 s q Q W tab f r' k w' := by
  obtain ⟨fs, R, o, h1, h2, h3, h4⟩ := h
  refine ⟨h3.otab.isS, h4.1.isS, h3.or_.isS, by rw [h3.otab.len, List.length_map, h1], by rw [h4.1.len, cellsW_length, wds_length], ?_⟩
  refine (h3.div h4.1 h4.2.1 (pow_nw hk) h4.2.2.1 hQ0 (Nat.le_trans (nw_b (k := 10) (by omega)) (by decide)) (hT.belowB h3.bl dg) dg).mono ?_
  rintro e w' ⟨t', r', o', he, i1, i2, i3, i4, i5⟩
  have hl := (h4.1.lt (own_cap h4.1 h4.2.1)).2
  refine ⟨t', r', he, i1, i2, i3, fs, _, o', h1, h2, i4.drop, i5.1, i5.2.1, fun hk => i5.2.2.1 ?_, fun hc => h4.2.2.2 hc⟩
  rcases hk with hk | ⟨hc, -⟩ | hk | hk
  · exact .inl hk
  · exact absurd hc nil_cap
  · exact .inr (.inr (.inl hk))
  · exact .inr (.inr (.inr hk))
theorem Fp1.grow {w' : World} (h : Fp1 s q Q W tab f r k wr) (hb : Below wr.heap.size wr w') : Fp1 s q Q W tab f r k w' := by
  obtain ⟨fs, R, o, h1, h2, h3, h4⟩ := h
  exact ⟨fs, R, o, h1, h2, h3.grow hb, h4.1.below hb, h4.2⟩
theorem Fp1.le (h : Fp1 s q Q W tab f r k wr) : s ≤ wr.heap.size ∧ Below s W wr := by
  obtain ⟨fs, R, o, h1, h2, h3, h4⟩ := h
  exact ⟨h3.hB, h3.bl⟩
theorem Fp1.open (h : Fp1 s q Q W tab f r k wr) : ∃ xs : List Value, xs.length = k ∧ Own wr s 85 tab xs ∧ ∀ tab' w', Own w' s 85 tab' (xs ++ [f]) → Below s wr w' → Only (sBlk tab) wr w' → (sBlk tab' = sBlk tab ∨ wr.heap.size ≤ sBlk tab') → 0 < sCap tab' → 0 < s → nw (5 ^ (13 * 2 ^ k)) ≤ 10 → SqrW w' →
    IsS tab' ∧ sLen tab' = k + 1 ∧ Calls Tryz.prog 62 #[.slice none 0 0, .pointer (some ⟨s, 0, none⟩), f] w' fun e w2 => ∃ f', e = .returned f' ∧ IsS f' ∧ Fp1 s q Q W tab' f' r (k + 1) w2 := by
  obtain ⟨fs, R, o, h1, h2, h3, h4⟩ := h
  refine ⟨fs.map Prod.fst, by rw [List.length_map]; exact h1, h3.otab, fun tab' w' ho hb hon hat hc0 hs0 hk hK => ?_⟩
  have hp : Fp1 s q Q W tab f r k wr := ⟨fs, R, o, h1, h2, h3, h4⟩
  have h5 := h3.push h4 ho hb hon hat hc0 hs0
  have hf : FpF s s o q (.slice none 0 0) r tab' w' (f, 5 ^ (13 * 2 ^ k)) := h5.fs _ (List.mem_append_right _ (List.mem_singleton.2 rfl))
  refine ⟨h5.otab.isS, by rw [ho.len]; simp [h1], (nsqr_gen (.slice none 0 0) f [] (5 ^ (13 * 2 ^ k)) w'.heap.size w' (.nil _ _ _) (.of hf.1) (Av.nil f) (by omega) (Nat.le_refl _) hK).mono ?_⟩
  rintro e w2 ⟨f', he, hS, hn⟩
  rw [pow_sq] at hn
  have hbw : Below w'.heap.size w' w2 := hn.below
  have hp0 : 0 < 5 ^ (13 * 2 ^ (k + 1)) := Nat.pow_pos (by decide)
  have hcf := own_cap hn.own hp0
  have hlt := (hn.own.lt hcf).1
  refine ⟨f', he, hS, fs ++ [(f, 5 ^ (13 * 2 ^ k))], R, o, by simp [h1], fun j p hj => ?_, h5.grow hbw, hn.own.mono h5.hB, hp0, fun hk => ?_, fun hc => ?_⟩
  · rcases Nat.lt_or_ge j fs.length with hl | hl
    · rw [List.getElem?_append_left hl] at hj; exact h2 j p hj
    · rw [List.getElem?_append_right hl] at hj
      have : j - fs.length = 0 := by
        rcases Nat.eq_zero_or_pos (j - fs.length) with h0 | h0
        · exact h0
        · rw [List.getElem?_eq_none (by simp; omega)] at hj; cases hj
      rw [this] at hj
      simp at hj
      rw [← hj, show j = k by omega]
  · rcases hk with ⟨hc, he⟩ | ⟨hc, -⟩ | ⟨hc, he⟩ | hk
    · have := (h5.oq.lt hc).2; simp only at he; omega
    · exact absurd hc nil_cap
    · have := (h5.or_.lt hc).2; simp only at he; omega
    · have := (h5.st.base hk).2; simp only at this; omega
  · have := (h5.otab.lt hc).2; simp only; omega
theorem Fp1.to2 (h : Fp1 s q Q W tab f r k wr) (hQ0 : 0 < Q) : Fp2 s Q W tab k q (.slice none 0 0) r 0 wr := by
  obtain ⟨fs, R, o, h1, h2, h3, -⟩ := h
  exact ⟨fs, Q, 0, R, o, h1, h2, h3, by rw [Nat.pow_zero, Nat.mul_one], hQ0⟩
def FpD (s Q0 k e P : Nat) (q tab : Value) (W : World) (e' : Ending) (w' : World) : Prop :=
  ∃ t' r', e' = .returned (.tuple #[t', r']) ∧ IsS t' ∧ IsS r' ∧ ∃ R, sLen r' = nw R ∧ Fp2 s Q0 W tab k q t' r' P w' ∧
      (R ≠ 0 → e = 1 → Q0 % 5 ^ (P + 1) ≠ 0) ∧ (R = 0 → P + e ≤ 640 ∧ Calls Tryz.prog 63 #[q, t'] w' fun e' w2 => ∃ q', e' = .returned q' ∧ IsS q' ∧ Fp2 s Q0 W tab k q' t' r' (P + e) w2)
theorem fp_divF {Q0 e T R : Nat} {fs : List (Value × Nat)} {o : Option (Nat × Value)} (h1 : fs.length = k) (h2 : ∀ j p, fs[j]? = some p → p.2 = 5 ^ (13 * 2 ^ j)) (h3 : FpS s s o q t r tab Q T R fs W wr) (h4 : Q0 = Q * 5 ^ P) (h5 : 0 < Q)
    (hF : FpF s s o q t r (.slice none 0 0) wr (f, 5 ^ e)) (he : nw (5 ^ e) < 40) (hQ : bl Q0 ≤ 640) (hT : DivW W) (dg : 3 < s) :
    Calls Tryz.prog 61 #[t, .pointer (some ⟨s, 0, none⟩), r, q, f] wr (FpD s Q0 k e P q tab W) := by
  have hQQ : Q ≤ Q0 := by rw [h4]; exact Nat.le_mul_of_pos_right _ (Nat.pow_pos (by decide))
  have hnQ : nw Q ≤ 10 := nw_b (Nat.le_trans (bl_mono hQQ) (by omega))
  refine (h3.div hF.1 hF.2.1 he hF.2.2.1 h5 (by omega) (hT.belowB h3.bl dg) dg).mono ?_
  rintro e' w' ⟨t', r', o', h6, i1, i2, i3, i4, -⟩
  refine ⟨t', r', h6, i1, i2, _, i3, ⟨fs, Q, _, _, o', h1, h2, i4, h4, h5⟩, fun hR h1 => ?_, fun hR => ?_⟩
  · subst h1
    rw [Nat.pow_one] at hR
    rw [h4, Nat.pow_succ, Nat.mul_comm Q, Nat.mul_mod_mul_left]
    exact Nat.ne_of_gt (Nat.mul_pos (Nat.pow_pos (by decide)) (Nat.pos_of_ne_zero hR))
  · have hd : 5 ^ e ∣ Q := Nat.dvd_of_mod_eq_zero hR
    have hq1 : 0 < Q / 5 ^ e := Nat.div_pos (Nat.le_of_dvd h5 hd) (Nat.pow_pos (by decide))
    have hq2 : Q0 = Q / 5 ^ e * 5 ^ (P + e) := by
      rw [Nat.add_comm P e, Nat.pow_add, ← Nat.mul_assoc, Nat.div_mul_cancel hd]; exact h4
    refine ⟨?_, ?_⟩
    · have := fv_bl (p := 5) (by decide) hq1 hq2
      omega
    · refine (i4.setq h5 (Nat.le_trans (nw_mono (Nat.div_le_self _ _)) (by omega))).mono ?_
      rintro e' w2 ⟨q', h7, h8, h9⟩
      exact ⟨q', h7, h8, fs, _, _, _, o', h1, h2, h9, hq2, hq1⟩
theorem Fp2.elem {Q0 j : Nat} (h : Fp2 s Q0 W tab k q t r P wr) (hj : j < k) (hk : k ≤ 5) (hQ : bl Q0 ≤ 640) (hT : DivW W) (dg : 3 < s) :
    ∃ f, IsS f ∧ wr.cell? ⟨sBlk tab, sOff tab + j, none⟩ = some f ∧ Calls Tryz.prog 61 #[t, .pointer (some ⟨s, 0, none⟩), r, q, f] wr (FpD s Q0 k (13 * 2 ^ j) P q tab W) := by
  obtain ⟨fs, Q, T, R, o, h1, h2, h3, h4, h5⟩ := h
  have hl : j < fs.length := by omega
  have hp : fs[j]? = some fs[j] := List.getElem?_eq_getElem hl
  have hF := h3.fs _ (List.getElem_mem hl)
  have hv := h2 j _ hp
  obtain ⟨pr, hpr⟩ : ∃ pr, pr = fs[j] := ⟨_, rfl⟩
  rw [← hpr] at hp hF hv
  clear hpr
  obtain ⟨f, F⟩ := pr
  have hv : F = 5 ^ (13 * 2 ^ j) := hv
  subst hv
  refine ⟨f, hF.1.isS, h3.otab.cell (by rw [List.getElem?_map, hp]; rfl), fp_divF h1 h2 h3 h4 h5 ⟨hF.1, hF.2.1, hF.2.2.1, fun hc => absurd hc nil_cap⟩ (pow_nw (by omega)) hQ hT dg⟩
theorem Fp2.five {Q0 : Nat} {w' : World} (h : Fp2 s Q0 W tab k q t r P wr) (hf : Own w' wr.heap.size 98 f (cellsW (wds 5))) (hb : Below wr.heap.size wr w') (hQ : bl Q0 ≤ 640) (hT : DivW W) (dg : 3 < s) :
    Calls Tryz.prog 61 #[t, .pointer (some ⟨s, 0, none⟩), r, q, f] w' (FpD s Q0 k 1 P q tab W) := by
  obtain ⟨fs, Q, T, R, o, h1, h2, h3, h4, h5⟩ := h
  have hcf := own_cap hf (by decide)
  have hlt := (hf.lt hcf).1
  refine fp_divF h1 h2 (h3.grow hb) h4 h5 ⟨hf.mono h3.hB, Nat.pow_pos (by decide), fun hk => ?_, fun hc => absurd hc nil_cap⟩ (by decide) hQ hT dg
  rcases hk with ⟨hc, he⟩ | ⟨hc, he⟩ | ⟨hc, he⟩ | hk
  · have := (h3.oq.lt hc).2; simp only at he; omega
  · have := (h3.ot.lt hc).2; simp only at he; omega
  · have := (h3.or_.lt hc).2; simp only at he; omega
  · have := (h3.st.base hk).2; simp only at this; omega
theorem Fp2.fin {Q0 : Nat} (h : Fp2 s Q0 W tab k q t r P wr) : ∃ Q o, Q0 = Q * 5 ^ P ∧ 0 < Q ∧ RW wr q (wds Q) ∧ StO wr s s 0 o ∧ Below s W wr ∧ s ≤ wr.heap.size := by
  obtain ⟨fs, Q, T, R, o, h1, h2, h3, h4, h5⟩ := h
  exact ⟨Q, o, h4, h5, h3.oq.rw' (wds_all _), h3.st, h3.bl, h3.hB⟩
theorem mul_two_five {Q : Nat} (h : Q % 5 ≠ 0) (p : Nat) : Q * 2 ^ p % 5 ≠ 0 := by
  induction p with
  | zero => rw [Nat.pow_zero, Nat.mul_one]; exact h
  | succ p ih => rw [Nat.pow_succ, ← Nat.mul_assoc]; omega
theorem fp_law {D Q0 Q p P : Nat} (hD : D = Q0 * 2 ^ p) (hD0 : 0 < D) (h2 : Q0 % 2 = 1) (hQ : Q0 = Q * 5 ^ P) (h5 : Q0 % 5 ^ (P + 1) ≠ 0) : fv 2 D = p ∧ fv 5 D = P ∧ (Q = 1 ↔ D = 2 ^ fv 2 D * 5 ^ fv 5 D) := by
  have hq : Q % 5 ≠ 0 := fun h => h5 (by rw [hQ, Nat.pow_succ, Nat.mul_comm Q, Nat.mul_mod_mul_left, h, Nat.mul_zero])
  have k1 : fv 2 D = p := fv_of (by decide) hD0 hD (by omega)
  have k2 : fv 5 D = P := fv_of (m := Q * 2 ^ p) (by decide) hD0 (by rw [hD, hQ, Nat.mul_right_comm]) (mul_two_five hq p)
  refine ⟨k1, k2, ?_⟩
  rw [k1, k2, hD, hQ]
  have e : Q * 5 ^ P * 2 ^ p = Q * (2 ^ p * 5 ^ P) := by rw [Nat.mul_assoc, Nat.mul_comm (5 ^ P)]
  rw [e]
  constructor
  · intro h; rw [h, Nat.one_mul]
  · intro h
    have h0 : 0 < 2 ^ p * 5 ^ P := Nat.mul_pos (Nat.two_pow_pos _) (Nat.pow_pos (by decide))
    refine Nat.eq_of_mul_eq_mul_right h0 ?_
    rw [Nat.one_mul]; exact h
end
end Go.Proofs.YtoddjkpckpekcaaGreatDoor
