/-
Texts of this proof, joined: Base Own Elems Hoist Nat SpA SpB SpC SpD SpF. No condition.
-/
import Derived.WalkKit
import Derived.WalkSpells
import Derived.WalkLawsBesides
import Derived.Lib.Hide
import Derived.Deep.QuietTactic
import Derived.BigQuiet
import Derived.Deep.DeepFit
import Derived.Deep.AppendSrc
import Derived.Test.YtllhnjpnkmjopaaGreatDoorProg
namespace Go.Proofs.YtllhnjpnkmjopaaGreatDoor
open Go.RowKit

/-! ### Slices as values -/
def IsS : Value → Prop
  | .slice none n c => n = 0 ∧ c = 0
  | .slice (some a) n c => (c ≠ 0 → a.spot = none) ∧ n ≤ c
  | _ => False
def sLen : Value → Nat
  | .slice _ n _ => n
  | _ => 0
def sCap : Value → Nat
  | .slice _ _ c => c
  | _ => 0
def sBlk : Value → Nat
  | .slice (some a) _ _ => a.block
  | _ => 0
def sOff : Value → Nat
  | .slice (some a) _ _ => a.off
  | _ => 0
@[simp] theorem sLen_mk (a : Option Addr) (n c : Nat) : sLen (.slice a n c) = n := rfl
@[simp] theorem sCap_mk (a : Option Addr) (n c : Nat) : sCap (.slice a n c) = c := rfl
@[simp] theorem sBlk_mk (a : Addr) (n c : Nat) : sBlk (.slice (some a) n c) = a.block := rfl
@[simp] theorem sOff_mk (a : Addr) (n c : Nat) : sOff (.slice (some a) n c) = a.off := rfl
def subS (v : Value) (l h : Nat) : Value :=
  match v with
  | .slice a _ c => .slice (if c = l then a else a.map (fun a : Addr => a.add (l * 1))) (h - l) (c - l)
  | v => v

theorem IsS.mk {b off n c : Nat} (h : n ≤ c) : IsS (.slice (some ⟨b, off, none⟩) n c) := ⟨fun _ => rfl, h⟩
theorem IsS.nil : IsS (.slice none 0 0) := ⟨rfl, rfl⟩
theorem IsS.le {v : Value} (h : IsS v) : sLen v ≤ sCap v := by
  match v, h with
  | .slice none n c, h => simp [sLen, sCap]; have := h.1; have := h.2; omega
  | .slice (some a) n c, h => exact h.2
theorem IsS.out {v : Value} (h : IsS v) (hp : 0 < sCap v) : v = .slice (some ⟨sBlk v, sOff v, none⟩) (sLen v) (sCap v) := by
  match v, h with
  | .slice none n c, h => have := h.2; simp [sCap] at hp; omega
  | .slice (some ⟨b, o, s⟩) n c, h => have h1 : s = none := h.1 (by simp only [sCap_mk] at hp; omega); subst h1; rfl
theorem IsS.out0 {v : Value} (h : IsS v) (hp : sCap v = 0) : (∃ a, v = .slice a 0 0) := by
  match v, h with
  | .slice none n c, h => have h1 := h.1; have h2 := h.2; subst h1; subst h2; exact ⟨none, rfl⟩
  | .slice (some a) n c, h => have h2 := h.2; have h3 : c = 0 := hp; subst h3; exact ⟨some a, by rw [show n = 0 by omega]⟩
theorem Addr.add_mk (b o n : Nat) : (⟨b, o, none⟩ : Addr).add n = ⟨b, o + n, none⟩ := by
  unfold Addr.add; split <;> simp_all
theorem subS_isS {v : Value} {l h : Nat} (hv : IsS v) (h1 : l ≤ h) (h2 : h ≤ sCap v) : IsS (subS v l h) := by
  match v, hv with
  | .slice none n c, hv =>
    have a1 := hv.1; have a2 := hv.2; have a3 : h ≤ c := h2
    simp only [subS]
    have : (if c = l then (none : Option Addr) else Option.map (fun a : Addr => a.add (l * 1)) none) = none := by split <;> rfl
    rw [this]; exact ⟨by omega, by omega⟩
  | .slice (some ⟨b, o, s⟩) n c, hv =>
    have a3 : h ≤ c := h2
    simp only [subS]
    split
    · exact ⟨fun hc => by omega, by omega⟩
    · rename_i hc
      have a1 : s = none := hv.1 (by omega)
      subst a1
      simp only [Option.map_some, Addr.add_mk]; exact ⟨fun _ => rfl, by omega⟩
theorem subS_len {v : Value} {l h : Nat} (hv : IsS v) : sLen (subS v l h) = h - l := by
  match v, hv with
  | .slice none n c, hv => rfl
  | .slice (some a) n c, hv => rfl
theorem subS_cap {v : Value} {l h : Nat} (hv : IsS v) : sCap (subS v l h) = sCap v - l := by
  match v, hv with
  | .slice none n c, hv => rfl
  | .slice (some a) n c, hv => rfl
theorem subS_blk {v : Value} {l h : Nat} (hv : IsS v) : sBlk (subS v l h) = sBlk v := by
  match v, hv with
  | .slice none n c, hv => simp only [subS]; split <;> rfl
  | .slice (some ⟨b, o, s⟩) n c, hv =>
    simp only [subS]; split
    · rfl
    · simp only [Option.map_some, sBlk_mk, Addr.add]; split <;> rfl
theorem subS_off {v : Value} {l h : Nat} (hv : IsS v) (hl : l < sCap v) : sOff (subS v l h) = sOff v + l := by
  match v, hv with
  | .slice none n c, hv => have a1 := hv.2; simp [sCap] at hl; omega
  | .slice (some ⟨b, o, s⟩) n c, hv =>
    have a2 : l < c := hl
    have a1 : s = none := hv.1 (by omega)
    subst a1
    simp only [subS, if_neg (show ¬ c = l by omega)]; simp [sOff, Addr.add_mk]
theorem subS_off0 {v : Value} {h : Nat} (hv : IsS v) : sOff (subS v 0 h) = sOff v := by
  by_cases h0 : 0 < sCap v
  · rw [subS_off hv h0]; rfl
  · match v, hv with
    | .slice none n c, hv => simp only [subS]; split <;> rfl
    | .slice (some ⟨b, o, s⟩) n c, hv => have : c = 0 := by simpa using h0
                                         subst this; simp [subS, sOff]

section
variable {P : Program} (w : World)
@[go_sem] theorem run_len_S (t ty : TypeId) (v : Value) (hv : IsS v) (h : P.underlying t = some (.slice (P.elem t))) :
    (Builtin.len_ #[t] ty #[v]).run P w = .ok (goInt (sLen v)) w := by
  match v, hv with
  | .slice a n c, hv => exact run_len_slice w t ty a n c h
@[go_sem] theorem run_cap_S (t ty : TypeId) (v : Value) (hv : IsS v) (h : P.underlying t = some (.slice (P.elem t))) :
    (Builtin.cap_ #[t] ty #[v]).run P w = .ok (goInt (sCap v)) w := by
  match v, hv with
  | .slice a n c, hv => exact run_cap_slice w t ty a n c h
@[go_sem] theorem run_indexAt_S (t : TypeId) (v : Value) (k : IntKind) (i : Int) (hv : IsS v) (h : P.underlying t = some (.slice (P.elem t)))
    (hsz : (sizeOf (P.elem t)).run P w = .ok 1 w) :
    (Instr.indexAt t v (.int k i)).run P w =
      if 0 ≤ i ∧ i < sLen v then .ok (.pointer (some ⟨sBlk v, sOff v + i.toNat, none⟩)) w else (boundsPanic k i (sLen v) .index).run P w := by
  match v, hv with
  | .slice none n c, hv =>
    have h1 : n = 0 := hv.1; subst h1
    rw [if_neg (by simp [sLen])]
    simp [Instr.indexAt, run_underlying h, asIntOf, sLen]
  | .slice (some ⟨b, o, s⟩) n c, hv =>
    rw [run_indexAt_slice (h := h), sLen_mk]
    by_cases hin : 0 ≤ i ∧ i < (n : Int)
    · have h1 : s = none := hv.1 (by have := hv.2; omega)
      subst h1
      rw [if_pos hin, if_pos hin]
      simp only [hsz, Result.andThen_ok, Addr.add_mk, Nat.mul_one]; rfl
    · rw [if_neg hin, if_neg hin]
def sliceRun (P : Program) (t : TypeId) (v : Value) (lo hi : Option Value) (w : World) : Result Value := (Instr.slice t v lo hi none).run P w
@[go_sem] theorem run_slice_S_lh (t : TypeId) (v : Value) (kl kh : IntKind) (l h : Int) (hv : IsS v) (ht : P.underlying t = some (.slice (P.elem t)))
    (hsz : (sizeOf (P.elem t)).run P w = .ok 1 w) :
    (Instr.slice t v (some (.int kl l)) (some (.int kh h)) none).run P w = if 0 ≤ l ∧ l ≤ h ∧ h ≤ sCap v then .ok (subS v l.toNat h.toNat) w else sliceRun P t v (some (.int kl l)) (some (.int kh h)) w := by
  split
  · rename_i hc
    match v, hv with
    | .slice a n c, hv => exact (run_slice_lh (P := P) w t a n c ht kl kh l h hc.1 hc.2.1 hc.2.2).trans (by simp only [hsz, Result.andThen_ok]; rfl)
  · rfl
@[go_sem] theorem run_slice_S_h (t : TypeId) (v : Value) (kh : IntKind) (h : Int) (hv : IsS v) (ht : P.underlying t = some (.slice (P.elem t)))
    (hsz : (sizeOf (P.elem t)).run P w = .ok 1 w) :
    (Instr.slice t v none (some (.int kh h)) none).run P w = if 0 ≤ h ∧ h ≤ sCap v then .ok (subS v 0 h.toNat) w else sliceRun P t v none (some (.int kh h)) w := by
  split
  · rename_i hc
    match v, hv with
    | .slice a n c, hv => exact (run_slice_h (P := P) w t a n c ht kh h hc.1 hc.2).trans (by simp only [hsz, Result.andThen_ok]; rfl)
  · rfl
@[go_sem] theorem run_slice_S_l (t : TypeId) (v : Value) (kl : IntKind) (l : Int) (hv : IsS v) (ht : P.underlying t = some (.slice (P.elem t)))
    (hsz : (sizeOf (P.elem t)).run P w = .ok 1 w) :
    (Instr.slice t v (some (.int kl l)) none none).run P w = if 0 ≤ l ∧ l ≤ sLen v then .ok (subS v l.toNat (sLen v)) w else sliceRun P t v (some (.int kl l)) none w := by
  split
  · rename_i hc
    match v, hv with
    | .slice a n c, hv => exact (run_slice_l (P := P) w t a n c ht kl l hc.1 hc.2).trans (by simp only [hsz, Result.andThen_ok]; rfl)
  · rfl
end

@[go_sem ↓] theorem cells_S {v : Value} (h : IsS v) : v.cells = #[v] := by
  match v, h with
  | .slice a n c, _ => rfl
@[go_sem ↓] theorem oneCell_S {v : Value} (h : IsS v) : v.oneCell' = true := by
  match v, h with
  | .slice a n c, _ => rfl
@[go_sem] theorem run_store_S {P : Program} {w : World} {v : Value} (a : Addr) (m : Mode) (h : IsS v) : (store a v m).run P w = stored P w a v m := run_store P w a _ m (oneCell_S h)

theorem cell_other {w : World} {a b : Addr} {u : Value} (h : a.block ≠ b.block) : (w.setCell a u).cell? b = w.cell? b :=
  World.cell?_setCell_other (h := fun e => h (congrArg Addr.block e)) ..
/-! ### What a slice of integers reads as -/
structure RI (k : IntKind) (w : World) (v : Value) (xs : List Int) : Prop where
  isS : IsS v
  len : sLen v = xs.length
  cell : ∀ i, i < xs.length → w.cell? ⟨sBlk v, sOff v + i, none⟩ = some (.int k (xs.getD i 0))

theorem RI.lt {k : IntKind} {w : World} {v : Value} {xs : List Int} (h : RI k w v xs) (hp : 0 < xs.length) : sBlk v < w.heap.size :=
  World.block_lt_of_cell? w _ (h.cell 0 hp)
theorem RI.below {k : IntKind} {w w' : World} {v : Value} {xs : List Int} (h : RI k w v xs) (hb : Below w.heap.size w w') : RI k w' v xs :=
  ⟨h.isS, h.len, fun i hi => by
    rw [hb.cell (p := ⟨sBlk v, sOff v + i, none⟩) (h.lt (by omega))]; exact h.cell i hi⟩
theorem RI.belowB {k : IntKind} {B : Nat} {w w' : World} {v : Value} {xs : List Int} (h : RI k w v xs) (hb : Below B w w') (hlt : 0 < xs.length → sBlk v < B) : RI k w' v xs :=
  ⟨h.isS, h.len, fun i hi => by
    rw [hb.cell (p := ⟨sBlk v, sOff v + i, none⟩) (hlt (by omega))]; exact h.cell i hi⟩
theorem RI.sub {k : IntKind} {w : World} {v : Value} {xs : List Int} (h : RI k w v xs) {l n : Nat} (h1 : l ≤ n) (h2 : n ≤ xs.length) :
    RI k w (subS v l n) ((xs.take n).drop l) := by
  have hc := h.isS.le
  have hl := h.len
  refine ⟨subS_isS h.isS h1 (by omega), ?_, ?_⟩
  · rw [subS_len h.isS]; simp; omega
  · intro i hi
    simp at hi
    rw [subS_blk h.isS, subS_off h.isS (by omega), Nat.add_assoc, h.cell (l + i) (by omega)]
    simp [List.getD_eq_getElem?_getD, List.getElem?_drop, List.getElem?_take]
    rw [if_pos (by omega)]
structure Own (w : World) (B : Nat) (e : TypeId) (v : Value) (xs : List Value) : Prop where
  isS : IsS v
  len : sLen v = xs.length
  cap : sCap v ≤ maxLen
  row : sCap v = 0 ∨ (B ≤ sBlk v ∧ ∃ cur, w.heap[sBlk v]? = some (.cells cur e (0, 0)) ∧ sOff v + sCap v ≤ cur.size ∧ (cur.toList.drop (sOff v)).take xs.length = xs)

def Only (b : Nat) (w w' : World) : Prop := ∀ k, k < w.heap.size → k ≠ b → w'.heap[k]? = w.heap[k]?

structure ElemT (P : Program) (t e : TypeId) (bytes : Nat) (z : Value) : Prop where
  ht : P.underlying t = some (.slice e)
  info : ∃ i, P.info? e = some i ∧ i.zero = some z ∧ i.size = 1 ∧ i.bytes = bytes ∧ z.cells = #[z]

theorem Own.nil (w : World) (B : Nat) (e : TypeId) : Own w B e (.slice none 0 0) [] := ⟨.nil, rfl, Nat.zero_le _, .inl rfl⟩
theorem Own.zero (w : World) (B : Nat) (e : TypeId) (b o : Nat) : Own w B e (.slice (some ⟨b, o, none⟩) 0 0) [] := ⟨IsS.mk (Nat.le_refl _), rfl, Nat.zero_le _, .inl rfl⟩
theorem Own.lt {w : World} {B : Nat} {e : TypeId} {v : Value} {xs : List Value} (h : Own w B e v xs) (hc : 0 < sCap v) : B ≤ sBlk v ∧ sBlk v < w.heap.size := by
  rcases h.row with h0 | ⟨hb, cur, hg, _⟩
  · omega
  · exact ⟨hb, (Array.getElem?_eq_some_iff.1 hg).1⟩
theorem Own.same {w w' : World} {B : Nat} {e : TypeId} {v : Value} {xs : List Value} (h : Own w B e v xs) (hs : 0 < sCap v → w'.heap[sBlk v]? = w.heap[sBlk v]?) : Own w' B e v xs := by
  refine ⟨h.isS, h.len, h.cap, ?_⟩
  rcases h.row with h0 | ⟨hb, cur, hg, r⟩
  · exact .inl h0
  · by_cases hc : sCap v = 0
    · exact .inl hc
    · exact .inr ⟨hb, cur, by rw [hs (by omega)]; exact hg, r⟩
theorem Own.mono {w : World} {B B' : Nat} {e : TypeId} {v : Value} {xs : List Value} (h : Own w B e v xs) (hB : B' ≤ B) : Own w B' e v xs :=
  ⟨h.isS, h.len, h.cap, h.row.imp id fun ⟨hb, r⟩ => ⟨Nat.le_trans hB hb, r⟩⟩
theorem Own.alloc {w : World} {B : Nat} {e : TypeId} {v : Value} {xs : List Value} (h : Own w B e v xs) (o : Obj) : Own (w.alloc o) B e v xs :=
  h.same fun hc => heap_alloc_old w o (h := (h.lt hc).2)
theorem Own.drew {w : World} {B : Nat} {e : TypeId} {v : Value} {xs : List Value} (h : Own w B e v xs) : Own w.drew B e v xs :=
  h.same fun _ => rfl
theorem Own.drewN {w : World} {B : Nat} {e : TypeId} {v : Value} {xs : List Value} (h : Own w B e v xs) (n : Nat) : Own (w.drewN n) B e v xs :=
  h.same fun _ => rfl
theorem Own.cell {w : World} {B : Nat} {e : TypeId} {v : Value} {xs : List Value} (h : Own w B e v xs) {i : Nat} {u : Value} (hi : xs[i]? = some u) : w.cell? ⟨sBlk v, sOff v + i, none⟩ = some u := by
  have hl := h.len
  have hcap := h.isS.le
  have hlt : i < xs.length := (List.getElem?_eq_some_iff.1 hi).1
  rcases h.row with h0 | ⟨hb, cur, hg, hsz, ht⟩
  · omega
  · rw [cell_of_row w _ _ cur e (0, 0) hg]
    rw [← ht, List.getElem?_take, if_pos hlt, List.getElem?_drop] at hi
    simpa using hi
theorem Own.rd {w : World} {B : Nat} {e : TypeId} {v : Value} {k : IntKind} {xs : List Int} (h : Own w B e v (xs.map (Value.int k))) : RI k w v xs := by
  refine ⟨h.isS, by simpa using h.len, fun i hi => h.cell ?_⟩
  simp [List.getD_eq_getElem?_getD, List.getElem?_eq_getElem hi]
theorem Own.frozen {w : World} {B : Nat} {e : TypeId} {v : Value} {xs : List Value} (h : Own w B e v xs) (hc : 0 < sCap v) (i : Nat) : w.frozen? ⟨sBlk v, i, none⟩ = false := by
  rcases h.row with h0 | ⟨hb, cur, hg, hsz, ht⟩
  · omega
  · exact frozen_of_row w _ _ cur e hg
theorem Own.sub {w : World} {B : Nat} {e : TypeId} {v : Value} {xs : List Value} (h : Own w B e v xs) {l n : Nat} (h1 : l ≤ n) (h2 : n ≤ xs.length) :
    Own w B e (subS v l n) ((xs.take n).drop l) := by
  have hl := h.len
  have hcap := h.isS.le
  have hc2 := h.cap
  refine ⟨subS_isS h.isS h1 (by omega), by rw [subS_len h.isS]; simp; omega, by rw [subS_cap h.isS]; omega, ?_⟩
  rw [subS_cap h.isS, subS_blk h.isS]
  rcases h.row with h0 | ⟨hb, cur, hg, hsz, ht⟩
  · left; omega
  · by_cases hlc : sCap v = l
    · left; omega
    · right
      refine ⟨hb, cur, hg, ?_, ?_⟩
      · rw [subS_off h.isS (by omega)]; omega
      · rw [subS_off h.isS (by omega)]
        have e1 : ((xs.take n).drop l).length = n - l := by simp; omega
        rw [e1]
        conv => rhs; rw [← ht]
        rw [List.take_take, List.drop_take, List.drop_drop, show min n xs.length = n by omega]
theorem Own.set {w : World} {B : Nat} {e : TypeId} {v : Value} {xs : List Value} (h : Own w B e v xs) {i : Nat} (_hi : i < xs.length) (u : Value) :
    Own (w.setCell ⟨sBlk v, sOff v + i, none⟩ u) B e v (xs.set i u) := by
  have hl := h.len
  have hcap := h.isS.le
  refine ⟨h.isS, by simpa using h.len, h.cap, ?_⟩
  rcases h.row with h0 | ⟨hb, cur, hg, hsz, ht⟩
  · exact .inl h0
  · refine .inr ⟨hb, _, heap_setCell_same w _ _ _ _ _ hg, by simpa using hsz, ?_⟩
    rw [Array.toList_setIfInBounds, List.length_set]
    rw [List.drop_set, if_neg (by omega), Nat.add_sub_cancel_left, List.take_set, ht]
theorem Only.trans {b : Nat} {w1 w2 w3 : World} (h : Only b w1 w2) (hz : w1.heap.size ≤ w2.heap.size) (h' : Only b w2 w3) : Only b w1 w3 :=
  fun k hk hb => (h' k (by omega) hb).trans (h k hk hb)
theorem Only.refl (b : Nat) (w : World) : Only b w w := fun _ _ _ => rfl

def laid (cur : List Value) (o : Nat) (vs : List Value) : List Value := cur.take o ++ vs ++ cur.drop (o + vs.length)
theorem laid_length {cur : List Value} {o : Nat} {vs : List Value} (h : o + vs.length ≤ cur.length) : (laid cur o vs).length = cur.length := by
  simp [laid]; omega
theorem setCells_row (b : Nat) (e : TypeId) (fr : Nat × Nat) : ∀ (vs : List Value) (o : Nat) (w : World) (cur : Array Value), w.heap[b]? = some (.cells cur e fr) → o + vs.length ≤ cur.size →
    (w.setCells b o vs).heap[b]? = some (.cells (laid cur.toList o vs).toArray e fr)
  | [], o, w, cur, h, _ => by simp [World.setCells, laid, h]
  | v :: vs, o, w, cur, h, hl => by
    simp only [World.setCells]
    have h1 : (w.setCell ⟨b, o, none⟩ v).heap[b]? = some (.cells (cur.setIfInBounds o v) e fr) := by
      simp [World.setCell, Array.getElem?_modify, h]
    have hl' : o + 1 + vs.length ≤ (cur.setIfInBounds o v).size := by simp at hl ⊢; omega
    rw [setCells_row b e fr vs (o + 1) _ _ h1 hl']
    congr 2
    simp only [List.length_cons] at hl
    have ho : o < cur.toList.length := by simp; omega
    simp only [laid, Array.toList_setIfInBounds]
    rw [List.take_set, List.take_succ_eq_append_getElem ho, List.drop_set_of_lt (by omega)]
    simp [List.set_append, Nat.add_assoc, Nat.add_comm 1]
    rw [if_neg (by omega)]
    have : o - min o cur.size = 0 := by omega
    rw [this]; simp
theorem setCells_other (b : Nat) : ∀ (vs : List Value) (o : Nat) (w : World) (k : Nat), k ≠ b → (w.setCells b o vs).heap[k]? = w.heap[k]?
  | [], _, _, _, _ => rfl
  | v :: vs, o, w, k, h => by
    simp only [World.setCells]
    rw [setCells_other b vs (o + 1) _ k h, heap_setCell_other w ⟨b, o, none⟩ k v h]
theorem setCells_size (b : Nat) : ∀ (vs : List Value) (o : Nat) (w : World), (w.setCells b o vs).heap.size = w.heap.size
  | [], _, _ => rfl
  | v :: vs, o, w => by simp only [World.setCells]; rw [setCells_size b vs]; simp [World.setCell]
theorem setCells_rest (b : Nat) : ∀ (vs : List Value) (o : Nat) (w : World), (w.setCells b o vs).os = w.os ∧ (w.setCells b o vs).tape = w.tape ∧ (w.setCells b o vs).output = w.output
  | [], _, _ => ⟨rfl, rfl, rfl⟩
  | v :: vs, o, w => by simp only [World.setCells]; exact setCells_rest b vs (o + 1) _
theorem setCells_below {b B o : Nat} {vs : List Value} {w : World} (hB : B ≤ b) : Below B w (w.setCells b o vs) :=
  ⟨(setCells_rest b vs o w).1, (setCells_rest b vs o w).2.1, (setCells_rest b vs o w).2.2, by rw [setCells_size]; exact Nat.le_refl _, fun k hk => setCells_other b vs o w k (by omega)⟩

theorem bset {B b i : Nat} {a w : World} {u : Value} (h : Below B a w) (hb : B ≤ b) : Below B a (w.setCell ⟨b, i, none⟩ u) := h.setCell (p := ⟨b, i, none⟩) hb u
theorem undrewN {B n : Nat} {w w' : World} (h : Below B (w.drewN n) w') : Below B w w' := ⟨h.os, h.tape, h.output, h.size, h.block⟩
theorem undrewN' {B n : Nat} {w w' : World} (h : Below B w w') : Below B w (w'.drewN n) := ⟨h.os, h.tape, h.output, h.size, h.block⟩
theorem run_append_Own {P : Program} {t tx e : TypeId} {bytes : Nat} {z : Value} (E : ElemT P t e bytes z) (ty : TypeId) {w : World} {B : Nat} {v : Value} {xs : List Value} (h : Own w B e v xs)
    {x : Value} {n : Nat} {news : List Value} (hs : Src P 1 tx x n news w) (h63 : xs.length + n ≤ maxLen) (hby : (xs.length + n) * bytes ≤ 140737488355328) (hB : B ≤ w.heap.size) :
    ∃ v' w', (Builtin.append_ #[t, tx] ty #[v, x]).run P w = .ok v' w' ∧ Own w' B e v' (xs ++ news) ∧ Below B w w' ∧ Only (sBlk v) w w' ∧ (sBlk v' = sBlk v ∨ w.heap.size ≤ sBlk v') ∧ (0 < xs.length + n → 0 < sCap v') := by
  obtain ⟨i, hi, hz, hsz, hb, hzc0⟩ := E.info
  have hzc : z.cells.size = 1 := by rw [hzc0]; rfl
  have ht := E.ht
  have hnl : news.length = n := by simpa using hs.newsLen
  have hl := h.len
  have hcap := h.isS.le
  have h63' : xs.length + n ≤ 9223372036854775807 := by simp only [maxLen] at h63; omega
  have hs' : Src P i.size tx x n news w := by rw [hsz]; exact hs
  subst hb
  by_cases hroom : xs.length + n ≤ sCap v
  · by_cases hc0 : sCap v = 0
    · obtain ⟨a, rfl⟩ := h.isS.out0 hc0
      have hn0 : n = 0 := by omega
      subst hn0
      have hx0 : xs = [] := List.eq_nil_of_length_eq_zero (by omega)
      have hw0 : news = [] := List.eq_nil_of_length_eq_zero (by omega)
      subst hx0; subst hw0
      refine ⟨.slice a 0 0, w, ?_, by simpa using h, Below.refl _ _, Only.refl _ _, .inl rfl, by simp⟩
      rcases hs.kind with ⟨e', hk⟩ | hk <;> cases a <;> simp [Builtin.append_, run_underlying ht, run_underlying hk, sizeOf, typeInfo, hi, hs'.len, hs'.cells, storeCells]
    · obtain ⟨hBb, cur, hg, hsz2, htk⟩ := h.row.resolve_left hc0
      have hv := h.isS.out (by omega)
      have hr := run_append_room_src (P := P) w t tx ty e i ht hi (sBlk v) (sOff v) (sLen v) (sCap v) x n news hs' (by omega)
        (fun j hj => by rw [cell_of_row w _ _ cur e (0, 0) hg, Array.getElem?_eq_getElem (by rw [hsz]; omega)]; rfl) (fun j hj => frozen_of_row w _ _ cur e hg)
      rw [← hv] at hr
      rw [hsz, Nat.mul_one] at hr
      have hin : sOff v + sLen v + news.length ≤ cur.size := by omega
      refine ⟨_, _, hr, ⟨IsS.mk (by omega), by rw [sLen_mk]; simp; omega, h.cap, .inr ⟨hBb, _, setCells_row _ _ _ _ _ _ _ hg hin, ?_, ?_⟩⟩, setCells_below hBb, fun k _ hk => setCells_other _ _ _ _ k hk, .inl rfl, fun _ => by rw [sCap_mk]; omega⟩
      · rw [sOff_mk, sCap_mk, List.size_toArray, laid_length (by simpa using hin)]; simpa using hsz2
      · simp only [sOff_mk, laid]
        rw [List.append_assoc, List.drop_append_of_le_length (by simp; omega), List.drop_take, Nat.add_sub_cancel_left, hl, htk]
        rw [← List.append_assoc, List.take_left]
  · have hcl : sCap v < sLen v + n := by omega
    have hold : (Builtin.firstCells i.size (sLen v) v).run P w.drew = .ok xs.toArray w.drew := by
      by_cases hc0 : sCap v = 0
      · obtain ⟨a, rfl⟩ := h.isS.out0 hc0
        have hx0 : xs = [] := List.eq_nil_of_length_eq_zero (by rw [← hl]; rfl)
        subst hx0
        cases a <;> simp [Builtin.firstCells, sLen, loadCells, loadCellsFrom]
      · have hv := h.isS.out (by omega)
        conv => lhs; rw [hv]
        rw [hsz, hl]
        exact run_firstCells_some w.drew 1 xs.length _ _ _ xs (by simp) (fun j u hj => by rw [Addr.add_mk]; exact h.cell hj)
    have hvv : ∃ a, v = .slice a (sLen v) (sCap v) := by
      match v, h.isS with
      | .slice a n c, _ => exact ⟨a, rfl⟩
    obtain ⟨a, hv⟩ := hvv
    rw [hv] at hold
    have hge := grownCap_ge w (xs.length + n) (sCap v) e
    have hcm := grownCap_le_maxLen w (xs.length + n) (sCap v) e h63
    have hr := run_append_grow_src (P := P) w t tx ty e i z ht hi hz a (sLen v) (sCap v) xs hold x n news hs' hcl (by omega) (growslice_fits hcl (by rw [hl]; exact hby))
    rw [← hv, hl] at hr
    refine ⟨_, _, hr, ⟨IsS.mk hge, by rw [sLen_mk]; simp; omega, hcm, .inr ⟨hB, _, heap_alloc_new w.drew _, ?_, ?_⟩⟩, (Below.refl _ _).drew.alloc (by simpa using hB) _, fun k hk _ => heap_alloc_old w.drew _ hk, .inr (Nat.le_refl _), fun hp => by rw [sCap_mk]; omega⟩
    · simp only [sOff_mk, sCap_mk, Array.size_append, List.size_toArray, size_zeroCells, hzc, List.length_append]; omega
    · simp only [sOff_mk, Array.toList_append, List.drop_zero]; exact List.take_left
theorem wpList_append_O {P : Program} {ops : Array Oper} {rest : List Oper} {o : Oper} {a : Act} {Q : Exit → Act → World → Prop} {w : World} (hgd : o.guard = none) (s x : Operand) (t tx : TypeId)
    (ho : o.op = .call { callee := .builtin .append, args := #[s, x], argTypes := #[t, tx] }) {e : TypeId} {bytes : Nat} {z : Value} (E : ElemT P t e bytes z)
    (B : Nat) (v : Value) (xs : List Value) (hs : a.eval s = v) (hown : Own w B e v xs) (vx : Value) (hx : a.eval x = vx) (n : Nat) (news : List Value) (hsrc : Src P 1 tx vx n news w)
    (h63 : xs.length + n ≤ maxLen) (hbytes : (xs.length + n) * bytes ≤ 140737488355328) (hbase : B ≤ w.heap.size)
    (h : ∀ v' w', Own w' B e v' (xs ++ news) → Below B w w' → Only (sBlk v) w w' → (sBlk v' = sBlk v ∨ w.heap.size ≤ sBlk v') → (0 < xs.length + n → 0 < sCap v') → wpList P ops Q rest (a.put o.dst v') w') : wpList P ops Q (o :: rest) a w := by
  obtain ⟨v', w', hr, h1, h2, h3, h4, h5⟩ := run_append_Own E o.type hown hsrc h63 hbytes hbase
  refine wpList_plain hgd fun K hK => ?_
  unfold Oper.wp execOp
  simp only [ho, resolve, invoke, builtin, Sem.run_bind, Sem.run_pure, Result.andThen_ok, List.map_toArray, List.map_cons, List.map_nil, hs, hx, hr]
  exact hK _ _ (h v' w' h1 h2 h3 h4 h5)

theorem madeCells_one (z : Value) (n : Nat) : (madeCells #[z] n).toList = List.replicate n z := by
  apply List.ext_getElem
  · simp [madeCells]
  · intro i h1 h2
    simp [madeCells, Nat.mod_one]
theorem wpList_make_O {P : Program} {ops : Array Oper} {rest : List Oper} {o : Oper} {a : Act} {Q : Exit → Act → World → Prop} {w : World} (hgd : o.guard = none) (lo co : Operand) (t : TypeId)
    (ho : o.op = .makeSlice t lo co) {e : TypeId} {bytes : Nat} {z : Value} (E : ElemT P t e bytes z) (kl kc : IntKind) (l c : Int) (hl : a.eval lo = .int kl l) (hc : a.eval co = .int kc c)
    (B : Nat) (h0 : 0 ≤ l) (hlc : l ≤ c) (hb : (bytes : Int) * c ≤ 281474976710656) (h63 : c ≤ 9223372036854775807) (hB : B ≤ w.heap.size)
    (h : ∀ v w', v = .slice (some ⟨w.heap.size, 0, none⟩) l.toNat c.toNat → Own w' B e v (List.replicate l.toNat z) → Below w.heap.size w w' → w.heap.size < w'.heap.size → wpList P ops Q rest (a.put o.dst v) w') : wpList P ops Q (o :: rest) a w := by
  obtain ⟨i, hi, hz, hsz, hbb, hzc⟩ := E.info
  subst hbb
  have hr := run_make (P := P) w t e i z E.ht hi hz kl kc l c h0 hlc hb h63
  rw [hsz, Nat.mul_one, hzc] at hr
  have hlt : l.toNat ≤ c.toNat := by omega
  refine wpList_plain hgd fun K hK => ?_
  unfold Oper.wp execOp
  simp only [ho, Sem.run_bind, Sem.run_pure, Result.andThen_ok, hl, hc, hr]
  refine hK _ _ (h _ _ rfl ⟨IsS.mk hlt, by simp, by rw [sCap_mk]; unfold maxLen; omega, .inr ⟨hB, _, heap_alloc_new w _, by simp [size_madeCells], ?_⟩⟩ ((Below.refl _ _).alloc (Nat.le_refl _) _) (by simp))
  simp only [sOff_mk, List.drop_zero, madeCells_one, List.length_replicate, List.take_replicate]
  rw [show min l.toNat c.toNat = l.toNat by omega]
theorem srcOne {P : Program} {tx e et : TypeId} (hk : P.underlying tx = some (.slice e)) (w : World) (k : IntKind) (n : Int) :
    Src P 1 tx (.slice (some ⟨w.heap.size, 0, none⟩) 1 1) 1 [.int k n] (w.alloc (.cells #[.int k n] et)) :=
  Src.ofSlice _ hk _ _ _ _ rfl (cell_one_new _ _ _) (by simp [Value.oneCell'])
theorem RI.src {P : Program} {k : IntKind} {w : World} {v : Value} {xs : List Int} {tx e : TypeId} (h : RI k w v xs) (hk : P.underlying tx = some (.slice e)) : Src P 1 tx v xs.length (xs.map (Value.int k)) w := by
  by_cases hc : sCap v = 0
  · obtain ⟨a, rfl⟩ := h.isS.out0 hc
    have hx : xs = [] := List.eq_nil_of_length_eq_zero (by rw [← h.len]; rfl)
    subst hx
    cases a with
    | none => exact Src.ofNil w hk 0
    | some a => exact Src.ofSlice w hk a 0 0 [] (by simp) (by simp) (by simp)
  · have hv := h.isS.out (by omega)
    rw [hv, h.len]
    refine Src.ofSlice w hk _ _ _ _ (by simp) ?_ ?_
    · intro j u hj
      rw [Addr.add_mk]
      simp only [List.getElem?_map, Option.map_eq_some_iff] at hj
      obtain ⟨x, hx, rfl⟩ := hj
      have hlt : j < xs.length := (List.getElem?_eq_some_iff.1 hx).1
      rw [h.cell j hlt, List.getD_eq_getElem?_getD, hx]; rfl
    · intro u hu
      obtain ⟨_, _, rfl⟩ := List.mem_map.1 hu
      rfl
theorem ElemT.of {P : Program} {t e : TypeId} {bytes : Nat} {z : Value} (ht : P.underlying t = some (.slice e)) (hz : z.cells = #[z])
    (h : (P.info? e).map (fun i => (i.zero, i.size, i.bytes)) = some (some z, 1, bytes)) : ElemT P t e bytes z := by
  refine ⟨ht, ?_⟩
  cases hi : P.info? e with
  | none => rw [hi] at h; cases h
  | some i =>
    rw [hi] at h
    simp only [Option.map_some, Option.some.injEq, Prod.mk.injEq] at h
    exact ⟨i, rfl, h.1, h.2.1, h.2.2, hz⟩
end Go.Proofs.YtllhnjpnkmjopaaGreatDoor
namespace Go.Proofs.YtllhnjpnkmjopaaGreatDoor
section
variable {P : Program} {ops : Array Oper} {C : World → Prop} {Q : Exit → Act → World → Prop} {md : Region.Mode} {n : Nat}

def Calm (Q : Exit → Act → World → Prop) : Prop := (∀ c a w, Q (.panic c) a w → False) ∧ ∀ a w, Q .outgrown a w → False

def plainOp (o : Oper) : Bool :=
  match o.op with
  | .move _ | .assign _ | .extract _ _ => true
  | _ => false
theorem plainOp_run {o : Oper} (h : plainOp o = true) (ρ : Operand → Value) (w : World) :
    (∃ v, ∀ w', (execOp ρ o).run P w' = .ok (.value v) w') ∨ ∃ s, (execOp ρ o).run P w = .halt (.stuck s) w := by
  obtain ⟨dst, op, type, pos, after, guard⟩ := o
  unfold plainOp at h
  split at h
  · rename_i x heq; simp only at heq; subst heq; exact .inl ⟨ρ x, fun _ => rfl⟩
  · rename_i x heq; simp only at heq; subst heq; exact .inl ⟨ρ x, fun _ => rfl⟩
  · rename_i x i heq
    simp only at heq; subst heq
    simp only [execOp, Instr.extract]
    cases ρ x <;> try exact .inr ⟨_, rfl⟩
    rename_i vs
    cases hv : vs[i]? with
    | none => right; exact ⟨_, by simp [hv]; rfl⟩
    | some v => left; exact ⟨v, fun _ => by simp [hv]⟩
  · cases h

def tailB (md : Region.Mode) (ops : Array Oper) : Nat → Nat → Array Bool → Bool
  | 0, _, listed => (Region.ready md ops listed).isEmpty
  | g + 1, k, listed =>
    ((Region.ready md ops listed == [k]) || (((ops[k]?).map plainOp).getD false && (Region.ready md ops listed).contains k && Region.free md ops listed k)) &&
      tailB md ops g (k + 1) (listed.setIfInBounds k true)

theorem wpAny_tail (hsel : Region.noSelect ops = true) (hQ : Calm Q) : ∀ (l : List Oper) (k : Nat) (listed : Array Bool) (a : Act) (w : World), (∀ j, l[j]? = ops[k + j]?) →
    tailB md ops l.length k listed = true → wpList P ops Q l a w → wpAny P md ops Q l.length listed a w
  | [], k, listed, a, w, _, hB, h => ⟨by simpa [tailB] using hB, h⟩
  | o :: l, k, listed, a, w, hl, hB, h => by
    have h0 : ops[k]? = some o := by simpa using (hl 0).symm
    have hl' : ∀ j, l[j]? = ops[k + 1 + j]? := fun j => by have := hl (j + 1); simpa [Nat.add_assoc, Nat.add_comm 1 j] using this
    simp only [List.length_cons, tailB, Bool.and_eq_true, Bool.or_eq_true] at hB
    obtain ⟨hB1, hB'⟩ := hB
    rcases hB1 with hr | ⟨⟨hp, hc⟩, hf⟩
    · have hr' : Region.ready md ops listed = [k] := by simpa using hr
      refine wpAny_all hr' (by simp) fun i hi => ?_
      have : i = k := by simpa using hi
      subst this
      unfold wpOp
      simp only [h0]
      unfold wpList at h
      split
      · rename_i hw
        rw [if_pos hw] at h
        exact h.imp (Oper.wp_mono fun a' w' h' => wpAny_tail hsel hQ l (i + 1) _ a' w' hl' hB' h') id
      · rename_i hw
        rw [if_neg hw] at h
        exact wpAny_tail hsel hQ l (i + 1) _ _ w hl' hB' h
    · have hpl : plainOp o = true := by simpa [h0] using hp
      unfold wpList at h
      by_cases hw : Region.wanted o (yielded ops a.tmps) = true
      · rw [if_pos hw] at h
        rcases h with h | ⟨_, a', w', h⟩
        · rcases plainOp_run (P := P) hpl a.eval w with ⟨v, hv⟩ | ⟨s, hs⟩
          · unfold Oper.wp at h
            rw [hv w] at h
            exact wpAny_first h0 (Region.noSelect_spec hsel) (fun c a w h => (hQ.1 c _ w h).elim) l.length listed a w (Region.free_spec h0 hf) (by simpa using hc) (.inl ⟨hw, hv⟩)
              (wpAny_tail hsel hQ l (k + 1) _ _ w hl' hB' h)
          · unfold Oper.wp at h
            rw [hs] at h
            exact h.elim
        · exact (hQ.2 _ _ h).elim
      · rw [if_neg hw] at h
        exact wpAny_first h0 (Region.noSelect_spec hsel) (fun c a w h => (hQ.1 c _ w h).elim) l.length listed a w (Region.free_spec h0 hf) (by simpa using hc) (.inr ⟨by simpa using hw, rfl⟩)
          (wpAny_tail hsel hQ l (k + 1) _ _ w hl' hB' h)

def wpAnyM (P : Program) (md : Region.Mode) (ops : Array Oper) (C : World → Prop) (n : Nat) (Q : Exit → Act → World → Prop) : Nat → Array Bool → Act → Prop
  | 0, listed, a => Region.ready md ops listed = [] ∧ ∀ w, C w → Q .normal a w
  | fuel + 1, listed, a =>
    (Region.ready md ops listed = [] → ∀ w, C w → Q .normal a w) ∧
    ∀ i ∈ Region.ready md ops listed,
      (i < n → qOp P ops C i (wpAnyM P md ops C n Q fuel (listed.setIfInBounds i true)) a) ∧
      (n ≤ i → ∀ w, C w → wpOp P ops Q i (wpAny P md ops Q fuel (listed.setIfInBounds i true)) a w)

theorem wpAny_of_M : ∀ (fuel : Nat) (listed : Array Bool) (a : Act) (w : World), C w → wpAnyM P md ops C n Q fuel listed a → wpAny P md ops Q fuel listed a w
  | 0, _, _, w, hw, h => ⟨h.1, h.2 w hw⟩
  | fuel + 1, _, _, w, hw, h => ⟨fun h0 => h.1 h0 w hw, fun i hi => by
      by_cases hin : i < n
      · exact wpOp_of_qOp hw (fun a' w' hw' => wpAny_of_M fuel _ a' w' hw') ((h.2 i hi).1 hin)
      · exact (h.2 i hi).2 (by omega) w hw⟩

def waitsB (md : Region.Mode) (ops : Array Oper) (n k : Nat) (listed : Array Bool) (D : Nat → Bool) : Bool :=
  D k && (List.range ops.size).all fun j => (decide (j < n) || D j) && (!D j || (!listed.getD j true && (j == k || ((ops[j]?).map (·.after.any fun e => Region.binds md e && D e.on && decide (e.on < ops.size))).getD false)))
structure Waits (md : Region.Mode) (ops : Array Oper) (n k : Nat) (D : Nat → Bool) : Prop where
  late : ∀ j, j < ops.size → n ≤ j → D j = true
  back : ∀ j oj, ops[j]? = some oj → D j = true → j ≠ k → ∃ e ∈ oj.after, Region.binds md e = true ∧ D e.on = true ∧ e.on < ops.size

theorem wpAnyM_first {k : Nat} {ok : Oper} {v : Value} {D : Nat → Bool} (hk : ops[k]? = some ok) (hkn : k < n) (hsel : ∀ (j : Nat) (o : Oper) cs b, ops[j]? = some o → o.op ≠ .select cs b) (hD : Waits md ops n k D) :
    ∀ (fuel : Nat) (listed : Array Bool) (a : Act),
      (∀ j oj, ops[j]? = some oj → j ≠ k → listed.getD j true = false → (∀ e ∈ oj.after, Region.binds md e = true → e.on ≠ k) → ok.apart ops oj = true) →
      (∀ j, j < ops.size → D j = true → listed.getD j true = false) →
      k ∈ Region.ready md ops listed → YieldsIn P ops C ok v a →
      wpAnyM P md ops C n Q fuel (listed.setIfInBounds k true) (a.put ok.dst v) → wpAnyM P md ops C n Q (fuel + 1) listed a := by
  intro fuel
  induction fuel with
  | zero =>
    intro listed a _ _ hr hy H
    refine ⟨fun h => (by rw [h] at hr; cases hr), fun j hj => ?_⟩
    by_cases hjk : j = k
    · subst hjk; exact ⟨fun _ => hy.qOp hk H, fun h => by omega⟩
    · have := ready_mono hj hjk
      rw [H.1] at this
      cases this
  | succ fuel ih =>
    intro listed a hfree hun hr hy H
    refine ⟨fun h => (by rw [h] at hr; cases hr), fun j hj => ?_⟩
    by_cases hjk : j = k
    · subst hjk; exact ⟨fun _ => hy.qOp hk H, fun h => by omega⟩
    · obtain ⟨hjun, oj, hoj, hall⟩ := mem_ready.1 hj
      have hjs : j < ops.size := (Array.getElem?_eq_some_iff.1 hoj).1
      have hjD : D j ≠ true := fun hd => by
        obtain ⟨e, he, hb, hde, hes⟩ := hD.back j oj hoj hd hjk
        have h1 := hall e he hb
        have h0 := hun e.on hes hde
        rcases Nat.lt_or_ge e.on listed.size with h' | h'
        · simp [h'] at h0 h1; rw [h0] at h1; cases h1
        · simp [Array.getElem?_eq_none h'] at h1
      have hjn : j < n := by
        rcases Nat.lt_or_ge j n with h | h
        · exact h
        · exact absurd (hD.late j hjs h) hjD
      refine ⟨fun _ => ?_, fun h => by omega⟩
      have h1 := (H.2 j (ready_mono hj hjk)).1 hjn
      have hnot : ∀ e ∈ oj.after, Region.binds md e = true → e.on ≠ k := fun e he hb heq => by
        have h1 := hall e he hb
        have h0 := (mem_ready.1 hr).1
        rw [heq] at h1
        rcases Nat.lt_or_ge k listed.size with h' | h'
        · simp [h'] at h0 h1; rw [h0] at h1; cases h1
        · simp [Array.getElem?_eq_none h'] at h1
      have h2 := qOp_put hoj (hfree j oj hoj hjk hjun hnot) (fun cs b => hsel k ok cs b hk) (fun cs b => hsel j oj cs b hoj) hy h1
      refine qOp_mono (fun a' h3 => ih (listed.setIfInBounds j true) a' ?_ ?_ (ready_mono hr (Ne.symm hjk)) h3.1 ?_) h2
      · intro i oi hi hik hiun hno
        refine hfree i oi hi hik ?_ hno
        by_cases hji : j = i
        · subst hji; exact hjun
        · rw [getD_set_ne true hji] at hiun; exact hiun
      · intro i his hd
        have : j ≠ i := fun e => hjD (e ▸ hd)
        rw [getD_set_ne true this]; exact hun i his hd
      · rw [Array.setIfInBounds_comm _ _ hjk]
        exact h3.2

theorem wpAnyM_plain {k : Nat} {ok : Oper} {v : Value} (hk : ops[k]? = some ok) (hkn : k < n) (hQ : Calm Q) (hsel : ∀ (j : Nat) (o : Oper) cs b, ops[j]? = some o → o.op ≠ .select cs b) :
    ∀ (fuel : Nat) (listed : Array Bool) (a : Act),
      (∀ j oj, ops[j]? = some oj → j ≠ k → listed.getD j true = false → (∀ e ∈ oj.after, Region.binds md e = true → e.on ≠ k) → ok.apart ops oj = true) →
      k ∈ Region.ready md ops listed → Yields P ops ok v a →
      wpAnyM P md ops C n Q fuel (listed.setIfInBounds k true) (a.put ok.dst v) → wpAnyM P md ops C n Q (fuel + 1) listed a := by
  have toIn : ∀ a, Yields P ops ok v a → YieldsIn P ops C ok v a := fun a h => h.imp (fun ⟨h1, h2⟩ => ⟨h1, fun w _ => by unfold Oper.quietAt; rw [h2 w]; exact ⟨rfl, rfl⟩⟩) id
  intro fuel
  induction fuel with
  | zero =>
    intro listed a _ hr hy H
    refine ⟨fun h => (by rw [h] at hr; cases hr), fun j hj => ?_⟩
    by_cases hjk : j = k
    · subst hjk; exact ⟨fun _ => (toIn a hy).qOp hk H, fun h => by omega⟩
    · have := ready_mono hj hjk
      rw [H.1] at this
      cases this
  | succ fuel ih =>
    intro listed a hfree hr hy H
    refine ⟨fun h => (by rw [h] at hr; cases hr), fun j hj => ?_⟩
    by_cases hjk : j = k
    · subst hjk; exact ⟨fun _ => (toIn a hy).qOp hk H, fun h => by omega⟩
    · obtain ⟨hjun, oj, hoj, hall⟩ := mem_ready.1 hj
      have hnot : ∀ e ∈ oj.after, Region.binds md e = true → e.on ≠ k := fun e he hb heq => by
        have h1 := hall e he hb
        have h0 := (mem_ready.1 hr).1
        rw [heq] at h1
        rcases Nat.lt_or_ge k listed.size with h' | h'
        · simp [h'] at h0 h1; rw [h0] at h1; cases h1
        · simp [Array.getElem?_eq_none h'] at h1
      have hap := hfree j oj hoj hjk hjun hnot
      obtain ⟨hp1, hp2, hp3⟩ := Oper.apart_spec hap
      have hfree' : ∀ i oi, ops[i]? = some oi → i ≠ k → (listed.setIfInBounds j true).getD i true = false →
          (∀ e ∈ oi.after, Region.binds md e = true → e.on ≠ k) → ok.apart ops oi = true := fun i oi hi hik hiun hno => by
        refine hfree i oi hi hik ?_ hno
        by_cases hji : j = i
        · subst hji; exact hjun
        · rw [getD_set_ne true hji] at hiun; exact hiun
      refine ⟨fun hjn => ?_, fun hjn w hw => ?_⟩
      · have h1 := (H.2 j (ready_mono hj hjk)).1 hjn
        obtain ⟨u, hu, hK⟩ := yieldsIn_of_qOp hoj h1
        have hu' : YieldsIn P ops C oj u a := hu.of_same (execOp_put oj (fun cs b => hsel j oj cs b hoj) a ok.dst v hp1).symm (wanted_put oj a ok.dst v hp1).symm
        refine hu'.qOp hoj (ih _ _ hfree' (ready_mono hr (Ne.symm hjk)) ?_ ?_)
        · exact hy.of_same (execOp_put ok (fun cs b => hsel k ok cs b hk) a oj.dst u hp3) (wanted_put ok a oj.dst u hp3)
        · rw [Array.setIfInBounds_comm _ _ hjk, ← Act.put_comm a v u hp2]
          exact hK
      · have h1 := (H.2 j (ready_mono hj hjk)).2 hjn w hw
        have h2 := wpOp_put hoj hap (fun cs b => hsel k ok cs b hk) (fun cs b => hsel j oj cs b hoj) (fun c a w h => (hQ.1 c _ w h).elim) hy h1
        refine wpOp_mono (fun a' w' h3 => wpAny_first hk hsel (fun c a w h => (hQ.1 c _ w h).elim) fuel _ a' w' hfree' (ready_mono hr (Ne.symm hjk)) h3.1 ?_) h2
        rw [Array.setIfInBounds_comm _ _ hjk]
        exact h3.2

def desc (md : Region.Mode) (ops : Array Oper) (k : Nat) : Array Bool :=
  (List.range ops.size).foldl (fun acc j => acc.push (j == k || ((ops[j]?).map (·.after.any fun e => Region.binds md e && acc.getD e.on false)).getD false)) #[]

def headB (md : Region.Mode) (ops : Array Oper) (n : Nat) : Nat → Nat → Array Bool → Bool
  | 0, k, listed => tailB md ops (ops.size - n) k listed
  | h + 1, k, listed =>
    (Region.ready md ops listed).contains k && Region.free md ops listed k &&
      (((ops[k]?).map plainOp).getD false || waitsB md ops n k listed (fun j => (desc md ops k).getD j false)) && headB md ops n h (k + 1) (listed.setIfInBounds k true)

theorem wpAnyM_head (hsel : Region.noSelect ops = true) (hQ : Calm Q) {w0 : World} (hw0 : C w0) : ∀ (l : List Oper) (k : Nat) (listed : Array Bool) (a : Act) (Lq : List Oper), (∀ j, (l ++ Lq)[j]? = ops[k + j]?) → k + l.length = n → Lq.length = ops.size - n → (∀ i, i < k → listed.getD i true = true) →
    headB md ops n l.length k listed = true → wpQuiet P ops C (fun a' => ∀ w, C w → wpList P ops Q Lq a' w) l a → wpAnyM P md ops C n Q (l.length + Lq.length) listed a
  | [], k, listed, a, Lq, hl, hk, hL, hli, hB, h => by
    have hkn : k = n := by simpa using hk
    subst hkn
    have ht : tailB md ops Lq.length k listed = true := by rw [hL]; simpa [headB] using hB
    have key : ∀ w, C w → wpAny P md ops Q Lq.length listed a w := fun w hw => wpAny_tail hsel hQ Lq k listed a w (by simpa using hl) ht (h w hw)
    simp only [List.length_nil, Nat.zero_add]
    cases hf : Lq.length with
    | zero => rw [hf] at key; exact ⟨(key w0 hw0).1, fun w hw => (key w hw).2⟩
    | succ f =>
      rw [hf] at key
      refine ⟨fun h0 w hw => (key w hw).1 h0, fun i hi => ⟨fun hik => ?_, fun _ w hw => (key w hw).2 i hi⟩⟩
      exfalso
      have hr := (mem_ready.1 hi).1
      rw [hli i hik] at hr
      cases hr
  | o :: l, k, listed, a, Lq, hl, hk, hL, hli, hB, h => by
    have h0 : ops[k]? = some o := by simpa using (hl 0).symm
    have hkn : k < n := by simp only [List.length_cons] at hk; omega
    simp only [List.length_cons, headB, Bool.and_eq_true, Bool.or_eq_true] at hB
    obtain ⟨⟨⟨hr, hf⟩, hkind⟩, hB'⟩ := hB
    have hst : qOp P ops C k (wpQuiet P ops C (fun a' => ∀ w, C w → wpList P ops Q Lq a' w) l) a := by unfold qOp; simp only [h0]; exact h
    obtain ⟨v, hy, hK⟩ := yieldsIn_of_qOp h0 hst
    have IH := wpAnyM_head hsel hQ hw0 l (k + 1) (listed.setIfInBounds k true) (a.put o.dst v) Lq (fun j => by have := hl (j + 1); simpa [Nat.add_assoc, Nat.add_comm 1 j] using this) (by simp only [List.length_cons] at hk; omega) hL (fun i hi => by
      by_cases hik : k = i
      · subst hik
        rcases Nat.lt_or_ge k listed.size with h' | h'
        · simp [h']
        · simp [h']
      · rw [getD_set_ne true hik]; exact hli i (by omega)) hB' hK
    rw [List.length_cons, Nat.add_right_comm]
    rcases hkind with hp | hw
    · have hpl : plainOp o = true := by simpa [h0] using hp
      refine wpAnyM_plain h0 hkn hQ (Region.noSelect_spec hsel) _ listed a (Region.free_spec h0 hf) (by simpa using hr) ?_ IH
      rcases hy with ⟨hw1, hv⟩ | ⟨hw1, rfl⟩
      · rcases plainOp_run (P := P) hpl a.eval w0 with ⟨u, hu⟩ | ⟨s, hs⟩
        · have := hv w0 hw0
          unfold Oper.quietAt at this
          rw [hu w0] at this
          obtain ⟨_, rfl⟩ := this
          exact .inl ⟨hw1, hu⟩
        · have := hv w0 hw0
          unfold Oper.quietAt at this
          rw [hs] at this
          exact this.elim
      · exact .inr ⟨hw1, rfl⟩
    · simp only [waitsB, Bool.and_eq_true, List.all_eq_true, List.mem_range] at hw
      obtain ⟨hDk, hall⟩ := hw
      refine wpAnyM_first (D := fun j => (desc md ops k).getD j false) h0 hkn (Region.noSelect_spec hsel) ⟨fun j hj hnj => ?_, fun j oj hj hd hjk => ?_⟩ _ listed a (Region.free_spec h0 hf) (fun j hj hd => ?_) (by simpa using hr) hy IH
      · have := (hall j hj).1
        simp only [Bool.or_eq_true, decide_eq_true_eq] at this
        exact this.resolve_left (by omega)
      · have h1 := (hall j (Array.getElem?_eq_some_iff.1 hj).1).2
        simp only [Bool.or_eq_true, Bool.not_eq_true', Bool.and_eq_true, beq_iff_eq, hj, Option.map_some, Option.getD_some] at h1
        rcases h1 with h1 | ⟨_, h1⟩
        · rw [h1] at hd; cases hd
        · obtain ⟨e, he, hb⟩ := Array.any_eq_true'.1 (h1.resolve_left hjk)
          simp only [Bool.and_eq_true, decide_eq_true_eq] at hb
          exact ⟨e, he, hb.1.1, hb.1.2, hb.2⟩
      · have h1 := (hall j hj).2
        simp only [Bool.or_eq_true, Bool.not_eq_true', Bool.and_eq_true] at h1
        rcases h1 with h1 | ⟨h1, _⟩
        · rw [h1] at hd; cases hd
        · exact h1

def hoistB (ops : Array Oper) (n : Nat) : Bool := Region.noSelect ops && decide (n ≤ ops.size) && headB .any ops n n 0 (Array.replicate ops.size false)

theorem wp_region_hoist {id : Nat} {a : Act} {w : World} {l : List Oper} (n : Nat) (hm : P.follows .mixedOrders = true) (hB : hoistB l.toArray n = true) (hQ : Calm Q)
    (h : wpQuiet P l.toArray (fun w' => ∃ k, w' = w.drewN k) (fun a' => ∀ w', (∃ k, w' = w.drewN k) → wpList P l.toArray Q (l.drop n) a' w') (l.take n) a) : (Code.region id l.toArray true).wp P Q a w := by
  simp only [hoistB, Bool.and_eq_true, decide_eq_true_eq] at hB
  obtain ⟨⟨hsel, hn⟩, hh⟩ := hB
  have hn' : n ≤ l.length := by simpa using hn
  have h1 : (l.take n).length = n := by simp; omega
  have h2 : (l.drop n).length = l.toArray.size - n := by simp
  refine wp_region_any hm ?_
  have hw0 : (fun w' => ∃ k, w' = w.drewN k) ({ w with drawn := w.drawn + 1 } : World) := ⟨1, rfl⟩
  have := wpAnyM_head (C := fun w' => ∃ k, w' = w.drewN k) (md := .any) hsel hQ hw0 (l.take n) 0 (Array.replicate l.toArray.size false) a (l.drop n) (fun j => by simp) (by simpa using h1) h2
    (fun i hi => by omega) (by rw [h1]; exact hh) h
  have h3 : (l.take n).length + (l.drop n).length = l.toArray.size := by rw [h1, h2]; omega
  rw [h3] at this
  exact wpAny_of_M _ _ _ _ hw0 this

end
end Go.Proofs.YtllhnjpnkmjopaaGreatDoor
namespace Go.Proofs.YtllhnjpnkmjopaaGreatDoor

def dig (n i : Nat) : Nat := n / 65536 ^ i % 65536
def nl (n : Nat) : Nat := if n = 0 then 0 else n.log2 / 16 + 1
def val : List Nat → Nat
  | [] => 0
  | d :: ds => d + 65536 * val ds

theorem pow_pos (i : Nat) : 0 < 65536 ^ i := Nat.pow_pos (by decide)
theorem pow16 (i : Nat) : (65536 : Nat) ^ i = 2 ^ (16 * i) := by rw [Nat.pow_mul]
theorem dig_lt (n i : Nat) : dig n i < 65536 := Nat.mod_lt _ (by decide)
theorem nl_zero : nl 0 = 0 := rfl
theorem nl_pos {n : Nat} (h : 0 < n) : 0 < nl n := by unfold nl; rw [if_neg (by omega)]; omega
theorem lt_nl (n : Nat) : n < 65536 ^ nl n := by
  unfold nl
  split
  · rename_i h; subst h; decide
  · rw [pow16]
    exact Nat.lt_of_lt_of_le Nat.lt_log2_self (Nat.pow_le_pow_right (by decide) (by omega))
theorem nl_ge {n : Nat} (h : 0 < n) : 65536 ^ (nl n - 1) ≤ n := by
  unfold nl
  rw [if_neg (by omega), Nat.add_sub_cancel, pow16]
  exact Nat.le_trans (Nat.pow_le_pow_right (by decide) (by omega)) (Nat.log2_self_le (by omega))
theorem nl_le {n L : Nat} (h : n < 65536 ^ L) : nl n ≤ L := by
  rcases Nat.eq_zero_or_pos n with rfl | hp
  · exact Nat.zero_le _
  · have h1 := nl_ge hp
    have h2 : 65536 ^ (nl n - 1) < 65536 ^ L := by omega
    have h3 := (Nat.pow_lt_pow_iff_right (show 1 < 65536 by decide)).1 h2
    omega
theorem mod_succ (n i : Nat) : n % 65536 ^ (i + 1) = n % 65536 ^ i + 65536 ^ i * dig n i := Nat.mod_pow_succ
theorem val_append (a b : List Nat) : val (a ++ b) = val a + 65536 ^ a.length * val b := by
  induction a with
  | nil => simp [val]
  | cons d ds ih => simp only [List.cons_append, val, ih, List.length_cons, Nat.pow_succ]; grind
theorem val_snoc (a : List Nat) (d : Nat) : val (a ++ [d]) = val a + 65536 ^ a.length * d := by rw [val_append]; simp [val]
theorem dig_zero_eq (n : Nat) : dig n 0 = n % 65536 := by simp [dig]
theorem dig_succ (n i : Nat) : dig n (i + 1) = dig (n / 65536) i := by
  unfold dig; rw [Nat.pow_succ, Nat.mul_comm, Nat.div_div_eq_div_mul]
theorem val_dig {a : List Nat} (h : ∀ d ∈ a, d < 65536) : ∀ i, dig (val a) i = a.getD i 0 := by
  induction a with
  | nil => intro i; simp [val, dig]
  | cons d ds ih =>
    have h2 := h d (by simp)
    intro i
    cases i with
    | zero => rw [dig_zero_eq]; simp [val]; omega
    | succ i =>
      rw [dig_succ, show val (d :: ds) / 65536 = val ds by simp only [val]; omega, ih (fun x hx => h x (by simp [hx]))]
      simp
theorem val_set {a : List Nat} : ∀ {i : Nat}, i < a.length → ∀ d, val (a.set i d) + 65536 ^ i * a.getD i 0 = val a + 65536 ^ i * d := by
  induction a with
  | nil => intro i h; simp at h
  | cons x xs ih =>
    intro i h d
    cases i with
    | zero => simp [val]; omega
    | succ i =>
      have := ih (show i < xs.length by simpa using h) d
      simp only [List.set_cons_succ, val, Nat.pow_succ]
      simp only [List.getD_eq_getElem?_getD, List.getElem?_cons_succ] at this ⊢
      grind
end Go.Proofs.YtllhnjpnkmjopaaGreatDoor
namespace Go.Proofs.YtllhnjpnkmjopaaGreatDoor
open Go.RowKit

def ints (ds : List Nat) : List Int := ds.map fun (d : Nat) => (d : Int)
def cellsN (ds : List Nat) : List Value := ds.map fun (d : Nat) => Value.int .i64 (d : Int)
theorem ints_length (ds : List Nat) : (ints ds).length = ds.length := by simp [ints]
theorem cellsN_length (ds : List Nat) : (cellsN ds).length = ds.length := by simp [cellsN]
theorem cellsN_eq (ds : List Nat) : cellsN ds = (ints ds).map (Value.int .i64) := by simp [cellsN, ints]
theorem cellsN_snoc (ds : List Nat) (d : Nat) : cellsN ds ++ [.int .i64 (d : Int)] = cellsN (ds ++ [d]) := by simp [cellsN]
def RL (w : World) (v : Value) (ds : List Nat) : Prop := RI .i64 w v (ints ds)
theorem RL.isS {w : World} {v : Value} {ds : List Nat} (h : RL w v ds) : IsS v := RI.isS h
theorem RL.len {w : World} {v : Value} {ds : List Nat} (h : RL w v ds) : sLen v = ds.length := (RI.len h).trans (ints_length ds)
theorem RL.cell {w : World} {v : Value} {ds : List Nat} (h : RL w v ds) (i : Nat) (hi : i < ds.length) : w.cell? ⟨sBlk v, sOff v + i, none⟩ = some (.int .i64 ((ds.getD i 0 : Nat) : Int)) := by
  rw [RI.cell h i (by rw [ints_length]; exact hi)]
  simp [ints, List.getD_eq_getElem?_getD, List.getElem?_eq_getElem hi]
theorem RL.below {w w' : World} {v : Value} {ds : List Nat} (h : RL w v ds) (hb : Below w.heap.size w w') : RL w' v ds := RI.below h hb
theorem RL.take {w : World} {v : Value} {ds : List Nat} (h : RL w v ds) {n : Nat} (hn : n ≤ ds.length) : RL w (subS v 0 n) (ds.take n) := by
  have := RI.sub h (l := 0) (n := n) (Nat.zero_le _) (by rw [ints_length]; exact hn)
  simpa [RL, ints, List.map_take] using this
theorem RL.src {w : World} {v : Value} {ds : List Nat} {tx e : TypeId} (h : RL w v ds) (hk : Tryz.prog.underlying tx = some (.slice e)) : Src Tryz.prog 1 tx v ds.length (cellsN ds) w := by
  rw [cellsN_eq, ← ints_length]; exact RI.src h hk

structure NatV (w : World) (v : Value) (n : Nat) : Prop where
  isS : IsS v
  len : sLen v = nl n
  cell : ∀ i, i < nl n → w.cell? ⟨sBlk v, sOff v + i, none⟩ = some (.int .i64 ((dig n i : Nat) : Int))
theorem NatV.below {w w' : World} {v : Value} {n : Nat} (h : NatV w v n) (hb : Below w.heap.size w w') : NatV w' v n :=
  ⟨h.isS, h.len, fun i hi => (hb.cell (p := ⟨sBlk v, sOff v + i, none⟩) (World.block_lt_of_cell? w _ (h.cell i hi))).trans (h.cell i hi)⟩
theorem NatV.zero {w : World} {v : Value} (h : IsS v) (hl : sLen v = 0) : NatV w v 0 := ⟨h, hl, fun i hi => by rw [nl_zero] at hi; omega⟩
def AdRel (x y B : Nat) (w : World) (i c : Nat) (v : Value) (wr : World) : Prop := ∃ ds : List Nat, Own wr B 3 v (cellsN ds) ∧ (∀ d ∈ ds, d < 65536) ∧ ds.length = i ∧ val ds + 65536 ^ i * c = x % 65536 ^ i + y % 65536 ^ i ∧ Below B w wr
theorem add_step {x y i V c : Nat} (h : V + 65536 ^ i * c = x % 65536 ^ i + y % 65536 ^ i) :
    V + 65536 ^ i * ((c + dig x i + dig y i) % 65536) + 65536 ^ (i + 1) * ((c + dig x i + dig y i) / 65536) = x % 65536 ^ (i + 1) + y % 65536 ^ (i + 1) := by
  rw [mod_succ, mod_succ, Nat.pow_succ]
  have := Nat.div_add_mod (c + dig x i + dig y i) 65536
  generalize (c + dig x i + dig y i) / 65536 = q at *
  generalize (c + dig x i + dig y i) % 65536 = r at *
  grind
theorem AdRel.step {x y B k c S : Nat} {w w1 : World} {v1 : Value} {ds : List Nat} {d : Int} (hd : ∀ d ∈ ds, d < 65536) (hdl : ds.length = k) (hv : val ds + 65536 ^ k * c = x % 65536 ^ k + y % 65536 ^ k)
    (hS : S = c + dig x k + dig y k) (hdS : d = ((S % 65536 : Nat) : Int)) (ho : Own w1 B 3 v1 (cellsN ds ++ [.int .i64 d])) (hb : Below B w w1) : AdRel x y B w (k + 1) (S / 65536) v1 w1 := by
  subst hdS
  rw [cellsN_snoc] at ho
  refine ⟨_, ho, ?_, by simp [hdl], ?_, hb⟩
  · intro z hz
    rcases List.mem_append.1 hz with h | h
    · exact hd z h
    · rw [List.mem_singleton.1 h]; omega
  · rw [val_snoc, hdl, hS]; exact add_step hv
theorem cellsN_set (os : List Nat) (i d : Nat) : (cellsN os).set i (.int .i64 (d : Int)) = cellsN (os.set i d) := by simp [cellsN, List.map_set]
theorem getD_set (os : List Nat) (i j d : Nat) (hi : i < os.length) : (os.set i d).getD j 0 = if i = j then d else os.getD j 0 := by
  simp only [List.getD_eq_getElem?_getD, List.getElem?_set]
  split
  · rename_i h; rfl
  · rfl
theorem bthen {a b c : World} (h : Below a.heap.size a b) (k : Below b.heap.size b c) : Below a.heap.size a c := h.trans (k.mono h.size)
def cmpN (x y : Nat) : Int := if x < y then -1 else if y < x then 1 else 0
theorem cmpN_lt {x y : Nat} (h : x < y) : cmpN x y = -1 := if_pos h
theorem cmpN_gt {x y : Nat} (h : y < x) : cmpN x y = 1 := by unfold cmpN; rw [if_neg (by omega), if_pos h]
theorem cmpN_eq (x : Nat) : cmpN x x = 0 := by unfold cmpN; simp
theorem cmpN_bd (x y : Nat) : -1 ≤ cmpN x y ∧ cmpN x y ≤ 1 := by unfold cmpN; split; omega; split <;> omega
theorem ret_int {a b : Int} (h : a = b) : Ending.returned (.int .i64 a) = Ending.returned (.int .i64 b) := by rw [h]
def SuRel (x y B : Nat) (w : World) (i c : Nat) (v : Value) (wr : World) : Prop := ∃ ds : List Nat, Own wr B 3 v (cellsN ds) ∧ (∀ d ∈ ds, d < 65536) ∧ ds.length = i ∧ val ds + y % 65536 ^ i = x % 65536 ^ i + 65536 ^ i * c ∧ Below B w wr
theorem SuRel.step {x y B k c c' r : Nat} {w w1 : World} {v1 : Value} {ds : List Nat} (hd : ∀ d ∈ ds, d < 65536) (hdl : ds.length = k) (hv : val ds + y % 65536 ^ k = x % 65536 ^ k + 65536 ^ k * c)
    (hr : r < 65536) (hS : r + c + dig y k = dig x k + 65536 * c') (ho : Own w1 B 3 v1 (cellsN ds ++ [.int .i64 (r : Int)])) (hb : Below B w w1) : SuRel x y B w (k + 1) c' v1 w1 := by
  rw [cellsN_snoc] at ho
  refine ⟨_, ho, ?_, by simp [hdl], ?_, hb⟩
  · intro z hz
    rcases List.mem_append.1 hz with h | h
    · exact hd z h
    · rw [List.mem_singleton.1 h]; omega
  · rw [val_snoc, hdl, mod_succ, mod_succ, Nat.pow_succ]
    generalize 65536 ^ k = p at *
    grind
end Go.Proofs.YtllhnjpnkmjopaaGreatDoor
