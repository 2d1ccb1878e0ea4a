/-
General words of this seat's proofs: slices as values, what they read as, what a call leaves as it was. No condition.
-/
import Derived.WalkKit
import Derived.WalkSpells
import Derived.WalkLawsBesides
import Derived.Lib.Hide
import Derived.Deep.QuietTactic
import Derived.BigQuiet
import Derived.Deep.DeepFit
namespace Go.Proofs.Ytniingblgkghgaa
open Go.RowKit

/-! ### Slices as values -/
def IsS : Value → Prop
  | .slice none n c => n = 0 ∧ c = 0
  | .slice (some a) n c => (c ≠ 0 → a.spot = none) ∧ n ≤ c
  | _ => False
def sLen : Value → Nat
  | .slice _ n _ => n
  | _ => 0
def sCap : Value → Nat
  | .slice _ _ c => c
  | _ => 0
def sBlk : Value → Nat
  | .slice (some a) _ _ => a.block
  | _ => 0
def sOff : Value → Nat
  | .slice (some a) _ _ => a.off
  | _ => 0
@[simp] theorem sLen_mk (a : Option Addr) (n c : Nat) : sLen (.slice a n c) = n := rfl
@[simp] theorem sCap_mk (a : Option Addr) (n c : Nat) : sCap (.slice a n c) = c := rfl
@[simp] theorem sBlk_mk (a : Addr) (n c : Nat) : sBlk (.slice (some a) n c) = a.block := rfl
@[simp] theorem sOff_mk (a : Addr) (n c : Nat) : sOff (.slice (some a) n c) = a.off := rfl
/-- v[l:h], elements of one cell. -/
def subS (v : Value) (l h : Nat) : Value :=
  match v with
  | .slice a _ c => .slice (if c = l then a else a.map (fun a : Addr => a.add (l * 1))) (h - l) (c - l)
  | v => v

theorem IsS.mk {b off n c : Nat} (h : n ≤ c) : IsS (.slice (some ⟨b, off, none⟩) n c) := ⟨fun _ => rfl, h⟩
theorem IsS.nil : IsS (.slice none 0 0) := ⟨rfl, rfl⟩
theorem IsS.le {v : Value} (h : IsS v) : sLen v ≤ sCap v := by
  match v, h with
  | .slice none n c, h => simp [sLen, sCap]; have := h.1; have := h.2; omega
  | .slice (some a) n c, h => exact h.2
/-- A slice value of some length, written out. -/
theorem IsS.out {v : Value} (h : IsS v) (hp : 0 < sCap v) : v = .slice (some ⟨sBlk v, sOff v, none⟩) (sLen v) (sCap v) := by
  match v, h with
  | .slice none n c, h => have := h.2; simp [sCap] at hp; omega
  | .slice (some ⟨b, o, s⟩) n c, h => have h1 : s = none := h.1 (by simp only [sCap_mk] at hp; omega); subst h1; rfl
theorem IsS.out0 {v : Value} (h : IsS v) (hp : sCap v = 0) : (∃ a, v = .slice a 0 0) := by
  match v, h with
  | .slice none n c, h => have h1 := h.1; have h2 := h.2; subst h1; subst h2; exact ⟨none, rfl⟩
  | .slice (some a) n c, h => have h2 := h.2; have h3 : c = 0 := hp; subst h3; exact ⟨some a, by rw [show n = 0 by omega]⟩
theorem Addr.add_mk (b o n : Nat) : (⟨b, o, none⟩ : Addr).add n = ⟨b, o + n, none⟩ := by
  unfold Addr.add; split <;> simp_all
theorem subS_isS {v : Value} {l h : Nat} (hv : IsS v) (h1 : l ≤ h) (h2 : h ≤ sCap v) : IsS (subS v l h) := by
  match v, hv with
  | .slice none n c, hv =>
    have a1 := hv.1; have a2 := hv.2; have a3 : h ≤ c := h2
    simp only [subS]
    have : (if c = l then (none : Option Addr) else Option.map (fun a : Addr => a.add (l * 1)) none) = none := by split <;> rfl
    rw [this]; exact ⟨by omega, by omega⟩
  | .slice (some ⟨b, o, s⟩) n c, hv =>
    have a3 : h ≤ c := h2
    simp only [subS]
    split
    · exact ⟨fun hc => by omega, by omega⟩
    · rename_i hc
      have a1 : s = none := hv.1 (by omega)
      subst a1
      simp only [Option.map_some, Addr.add_mk]; exact ⟨fun _ => rfl, by omega⟩
theorem subS_len {v : Value} {l h : Nat} (hv : IsS v) : sLen (subS v l h) = h - l := by
  match v, hv with
  | .slice none n c, hv => rfl
  | .slice (some a) n c, hv => rfl
theorem subS_cap {v : Value} {l h : Nat} (hv : IsS v) : sCap (subS v l h) = sCap v - l := by
  match v, hv with
  | .slice none n c, hv => rfl
  | .slice (some a) n c, hv => rfl
theorem subS_blk {v : Value} {l h : Nat} (hv : IsS v) : sBlk (subS v l h) = sBlk v := by
  match v, hv with
  | .slice none n c, hv => simp only [subS]; split <;> rfl
  | .slice (some ⟨b, o, s⟩) n c, hv =>
    simp only [subS]; split
    · rfl
    · simp only [Option.map_some, sBlk_mk, Addr.add]; split <;> rfl
theorem subS_off {v : Value} {l h : Nat} (hv : IsS v) (hl : l < sCap v) : sOff (subS v l h) = sOff v + l := by
  match v, hv with
  | .slice none n c, hv => have a1 := hv.2; simp [sCap] at hl; omega
  | .slice (some ⟨b, o, s⟩) n c, hv =>
    have a2 : l < c := hl
    have a1 : s = none := hv.1 (by omega)
    subst a1
    simp only [subS, if_neg (show ¬ c = l by omega)]; simp [sOff, Addr.add_mk]
theorem subS_off0 {v : Value} {h : Nat} (hv : IsS v) : sOff (subS v 0 h) = sOff v := by
  by_cases h0 : 0 < sCap v
  · rw [subS_off hv h0]; rfl
  · match v, hv with
    | .slice none n c, hv => simp only [subS]; split <;> rfl
    | .slice (some ⟨b, o, s⟩) n c, hv => have : c = 0 := by simpa using h0
                                         subst this; simp [subS, sOff]

section
variable {P : Program} (w : World)
@[go_sem] theorem run_len_S (t ty : TypeId) (v : Value) (hv : IsS v) (h : P.underlying t = some (.slice (P.elem t))) :
    (Builtin.len_ #[t] ty #[v]).run P w = .ok (goInt (sLen v)) w := by
  match v, hv with
  | .slice a n c, hv => exact run_len_slice w t ty a n c h
@[go_sem] theorem run_cap_S (t ty : TypeId) (v : Value) (hv : IsS v) (h : P.underlying t = some (.slice (P.elem t))) :
    (Builtin.cap_ #[t] ty #[v]).run P w = .ok (goInt (sCap v)) w := by
  match v, hv with
  | .slice a n c, hv => exact run_cap_slice w t ty a n c h
@[go_sem] theorem run_indexAt_S (t : TypeId) (v : Value) (k : IntKind) (i : Int) (hv : IsS v) (h : P.underlying t = some (.slice (P.elem t)))
    (hsz : (sizeOf (P.elem t)).run P w = .ok 1 w) :
    (Instr.indexAt t v (.int k i)).run P w =
      if 0 ≤ i ∧ i < sLen v then .ok (.pointer (some ⟨sBlk v, sOff v + i.toNat, none⟩)) w else (boundsPanic k i (sLen v) .index).run P w := by
  match v, hv with
  | .slice none n c, hv =>
    have h1 : n = 0 := hv.1; subst h1
    rw [if_neg (by simp [sLen])]
    simp [Instr.indexAt, run_underlying h, asIntOf, sLen]
  | .slice (some ⟨b, o, s⟩) n c, hv =>
    rw [run_indexAt_slice (h := h), sLen_mk]
    by_cases hin : 0 ≤ i ∧ i < (n : Int)
    · have h1 : s = none := hv.1 (by have := hv.2; omega)
      subst h1
      rw [if_pos hin, if_pos hin]
      simp only [hsz, Result.andThen_ok, Addr.add_mk, Nat.mul_one]; rfl
    · rw [if_neg hin, if_neg hin]
theorem sliced_S {v : Value} {a : Option Addr} {n c l h : Nat} (hv : v = .slice a n c) : sliced a l h c 1 = subS v l h := by
  subst hv; rfl
/-- A reslicing that is not decided. -/
def sliceRun (P : Program) (t : TypeId) (v : Value) (lo hi : Option Value) (w : World) : Result Value := (Instr.slice t v lo hi none).run P w
@[go_sem] theorem run_slice_S_lh (t : TypeId) (v : Value) (kl kh : IntKind) (l h : Int) (hv : IsS v) (ht : P.underlying t = some (.slice (P.elem t)))
    (hsz : (sizeOf (P.elem t)).run P w = .ok 1 w) :
    (Instr.slice t v (some (.int kl l)) (some (.int kh h)) none).run P w = if 0 ≤ l ∧ l ≤ h ∧ h ≤ sCap v then .ok (subS v l.toNat h.toNat) w else sliceRun P t v (some (.int kl l)) (some (.int kh h)) w := by
  split
  · rename_i hc
    match v, hv with
    | .slice a n c, hv => exact (run_slice_lh (P := P) w t a n c ht kl kh l h hc.1 hc.2.1 hc.2.2).trans (by simp only [hsz, Result.andThen_ok]; rfl)
  · rfl
@[go_sem] theorem run_slice_S_h (t : TypeId) (v : Value) (kh : IntKind) (h : Int) (hv : IsS v) (ht : P.underlying t = some (.slice (P.elem t)))
    (hsz : (sizeOf (P.elem t)).run P w = .ok 1 w) :
    (Instr.slice t v none (some (.int kh h)) none).run P w = if 0 ≤ h ∧ h ≤ sCap v then .ok (subS v 0 h.toNat) w else sliceRun P t v none (some (.int kh h)) w := by
  split
  · rename_i hc
    match v, hv with
    | .slice a n c, hv => exact (run_slice_h (P := P) w t a n c ht kh h hc.1 hc.2).trans (by simp only [hsz, Result.andThen_ok]; rfl)
  · rfl
@[go_sem] theorem run_slice_S_l (t : TypeId) (v : Value) (kl : IntKind) (l : Int) (hv : IsS v) (ht : P.underlying t = some (.slice (P.elem t)))
    (hsz : (sizeOf (P.elem t)).run P w = .ok 1 w) :
    (Instr.slice t v (some (.int kl l)) none none).run P w = if 0 ≤ l ∧ l ≤ sLen v then .ok (subS v l.toNat (sLen v)) w else sliceRun P t v (some (.int kl l)) none w := by
  split
  · rename_i hc
    match v, hv with
    | .slice a n c, hv => exact (run_slice_l (P := P) w t a n c ht kl l hc.1 hc.2).trans (by simp only [hsz, Result.andThen_ok]; rfl)
  · rfl
end

@[go_sem ↓] theorem cells_S {v : Value} (h : IsS v) : v.cells = #[v] := by
  match v, h with
  | .slice a n c, _ => rfl
@[go_sem ↓] theorem oneCell_S {v : Value} (h : IsS v) : v.oneCell' = true := by
  match v, h with
  | .slice a n c, _ => rfl
@[go_sem] theorem run_store_S {P : Program} {w : World} {v : Value} (a : Addr) (m : Mode) (h : IsS v) : (store a v m).run P w = stored P w a v m := run_store P w a _ m (oneCell_S h)

theorem cell_other {w : World} {a b : Addr} {u : Value} (h : a.block ≠ b.block) : (w.setCell a u).cell? b = w.cell? b :=
  World.cell?_setCell_other (h := fun e => h (congrArg Addr.block e)) ..
/-! ### What a slice of integers reads as -/
/-- v is a slice that reads as the integers xs of kind k. -/
structure RI (k : IntKind) (w : World) (v : Value) (xs : List Int) : Prop where
  isS : IsS v
  len : sLen v = xs.length
  cell : ∀ i, i < xs.length → w.cell? ⟨sBlk v, sOff v + i, none⟩ = some (.int k (xs.getD i 0))

theorem RI.lt {k : IntKind} {w : World} {v : Value} {xs : List Int} (h : RI k w v xs) (hp : 0 < xs.length) : sBlk v < w.heap.size :=
  World.block_lt_of_cell? w _ (h.cell 0 hp)
theorem RI.below {k : IntKind} {w w' : World} {v : Value} {xs : List Int} (h : RI k w v xs) (hb : Below w.heap.size w w') : RI k w' v xs :=
  ⟨h.isS, h.len, fun i hi => by
    rw [hb.cell (p := ⟨sBlk v, sOff v + i, none⟩) (h.lt (by omega))]; exact h.cell i hi⟩
theorem RI.belowB {k : IntKind} {B : Nat} {w w' : World} {v : Value} {xs : List Int} (h : RI k w v xs) (hb : Below B w w') (hlt : 0 < xs.length → sBlk v < B) : RI k w' v xs :=
  ⟨h.isS, h.len, fun i hi => by
    rw [hb.cell (p := ⟨sBlk v, sOff v + i, none⟩) (hlt (by omega))]; exact h.cell i hi⟩
theorem RI.sub {k : IntKind} {w : World} {v : Value} {xs : List Int} (h : RI k w v xs) {l n : Nat} (h1 : l ≤ n) (h2 : n ≤ xs.length) :
    RI k w (subS v l n) ((xs.take n).drop l) := by
  have hc := h.isS.le
  have hl := h.len
  refine ⟨subS_isS h.isS h1 (by omega), ?_, ?_⟩
  · rw [subS_len h.isS]; simp; omega
  · intro i hi
    simp at hi
    rw [subS_blk h.isS, subS_off h.isS (by omega), Nat.add_assoc, h.cell (l + i) (by omega)]
    simp [List.getD_eq_getElem?_getD, List.getElem?_drop, List.getElem?_take]
    rw [if_pos (by omega)]

/-- What a row's reading gives of a slice of integers. -/
theorem row_RI {k : IntKind} {w : World} {a : Option Addr} {len cap : Nat} {zs : List Int}
    (h : (a = none ∧ len = 0 ∧ cap = 0 ∧ zs = []) ∨ ∃ x, a = some x ∧ len ≤ cap ∧ cap ≤ maxLen ∧ zs.length = cap ∧ (∀ i, i < zs.length → w.cell? (x.add i) = some (.int k (zs.getD i 0))) ∧ ∀ n ∈ zs, (Lit.int k n).wf = true) :
    RI k w (.slice a len cap) (zs.take len) ∧ (∀ n ∈ zs.take len, (Lit.int k n).wf = true) ∧ (zs.take len).length = len ∧ len ≤ maxLen := by
  rcases h with ⟨rfl, rfl, rfl, rfl⟩ | ⟨⟨b, o, s⟩, rfl, hl, hm, hz, hc, hw⟩
  · exact ⟨⟨⟨rfl, rfl⟩, rfl, fun i hi => by simp at hi⟩, by simp, rfl, Nat.zero_le _⟩
  · have hs : cap ≠ 0 → s = none := fun h0 => by
      have := hc 0 (by omega)
      rw [show (⟨b, o, s⟩ : Addr).add 0 = ⟨b, o, s⟩ from rfl] at this
      cases s with
      | none => rfl
      | some t =>
        simp only [World.cell?] at this
        split at this <;> simp at this
    refine ⟨⟨⟨fun h0 => hs h0, hl⟩, by simp; omega, fun i hi => ?_⟩, fun n hn => hw n (List.mem_of_mem_take hn), by simp; omega, by omega⟩
    have hi' : i < len := by simp at hi; omega
    have h1 := hs (by omega)
    subst h1
    have := hc i (by omega)
    rw [Addr.add_mk] at this
    rw [sBlk_mk, sOff_mk, this]
    simp [List.getD_eq_getElem?_getD, hi']
/-- Numbers that are bytes. -/
theorem bytes_of {zs : List Int} (h : ∀ n ∈ zs, (Lit.int .u8 n).wf = true) : ∃ us : List UInt8, zs = us.map fun b => (b.toNat : Int) := by
  refine ⟨zs.map fun n => UInt8.ofNat n.toNat, ?_⟩
  rw [List.map_map]
  refine ((List.map_congr_left (g := id) fun n hn => ?_).trans (List.map_id zs)).symm
  have hb : 0 ≤ n ∧ n ≤ 255 := by simpa [Lit.wf, IntKind.min, IntKind.max, IntKind.signed, IntKind.bits] using h n hn
  simp only [Function.comp, id]
  rw [UInt8.toNat_ofNat']
  omega
end Go.Proofs.Ytniingblgkghgaa
