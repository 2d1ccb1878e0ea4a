/-
Texts of this proof, joined: RoA. No condition.
-/
import Derived.Test.YtlgnaioodnhkjaaK03
import Derived.ProofKit
import Derived.OpenShut
import Derived.ChangeOld
/-
A statement's argument that is a fraction: what it reads as. No condition.
-/
namespace Go.Proofs.Ytlgnaioodnhkjaa
open Go.ChangeShapes Go.WideShapes Go.ChangeAt Go.RowKit

theorem words_of {zs : List Int} (h : ∀ n ∈ zs, (Lit.int .u64 n).wf = true) : ∃ us : List Nat, zs = ints us ∧ ∀ d ∈ us, d < 18446744073709551616 := by
  have hb : ∀ n ∈ zs, 0 ≤ n ∧ n ≤ 18446744073709551615 := fun n hn => by simpa [Lit.wf, IntKind.min, IntKind.max, IntKind.signed, IntKind.bits] using h n hn
  refine ⟨zs.map Int.toNat, ?_, ?_⟩
  · simp only [ints, List.map_map]
    refine ((List.map_congr_left (g := id) fun n hn => ?_).trans (List.map_id zs)).symm
    have := hb n hn
    simp only [Function.comp, id]; omega
  · intro d hd
    obtain ⟨n, hn, rfl⟩ := List.mem_map.1 hd
    have := hb n hn
    omega
section
variable {H : Type} {enc : TypeId × Value → H} {W : World} {base : Nat} {held : Bool}
theorem open_words {v : Value} {fuel : Nat} {x : DataW H × List MemPlace} (h : DataW.trod enc Try.prog W base (fun _ => true) held fuel 48 [v] = some x) : ∃ ws, RW W v ws := by
  have key : ∃ a len cap zs, v = .slice a len cap ∧ ((a = none ∧ len = 0 ∧ cap = 0 ∧ zs = []) ∨ ∃ x, a = some x ∧ len ≤ cap ∧ cap ≤ maxLen ∧ zs.length = cap ∧ (∀ i, i < zs.length → W.cell? (x.add i) = some (.int .u64 (zs.getD i 0))) ∧ ∀ n ∈ zs, (Lit.int .u64 n).wf = true) := by
    rcases open_ints Try.underlying48 Try.underlying23 (by kernel_rfl) h with ⟨hcs, _⟩ | ⟨x, l, c, zs, hcs, _, hl, hm, hz, _, hcell, hwz⟩
    · simp at hcs; exact ⟨_, _, _, [], hcs, .inl ⟨rfl, rfl, rfl, rfl⟩⟩
    · simp at hcs
      exact ⟨_, _, _, zs, hcs, .inr ⟨_, rfl, hl, hm, by simpa using hz, hcell, hwz⟩⟩
  obtain ⟨a, len, cap, zs, rfl, hr⟩ := key
  obtain ⟨h1, h2, _, _⟩ := row_RI hr
  obtain ⟨us, hus, hd⟩ := words_of h2
  rw [hus] at h1
  exact ⟨us, h1, hd⟩
set_option maxRecDepth 100000 in
theorem open_number {cs : List Value} {fuel : Nat} {x : DataW H × List MemPlace} (h : DataW.trod enc Try.prog W base (fun _ => true) held fuel 70 cs = some x) : ∃ b v ws, cs = [.bool b, v] ∧ RW W v ws := by
  obtain ⟨y0, y1, n, rfl, hl, h0, h1⟩ := trod_struct2 Try.underlying70 h
  have hc : Try.prog.cellsOf 70 = 2 := by kernel_rfl
  rw [hc] at hl
  match cs, hl with
  | [c0, c1], _ =>
    obtain ⟨b', hb, _⟩ := DataW.trod_bool Try.underlying4 h0
    have e0 : c0 = .bool b' := by
      have := hb
      have hcb : Try.prog.cellsOf 4 = 1 := by kernel_rfl
      simpa [hcb] using this
    subst e0
    have hcs : Try.prog.cellsOf 48 = 1 := by kernel_rfl
    have h1' : DataW.trod enc Try.prog W base (fun _ => true) held n 48 [c1] = some y1 := by simpa [hcs] using h1
    obtain ⟨ws, hw⟩ := open_words h1'
    exact ⟨b', c1, ws, rfl, hw⟩
set_option maxRecDepth 100000 in
theorem open_fraction {v : Value} {r : Reach} {b0 : Nat} {d : DataW H} {p : List MemPlace} (hval : Value.okWide Try.prog W r b0 72 v) (h : DataW.Trod enc Try.prog W base (fun _ => true) held 72 v d p) :
    ∃ b v1 v2 ns ds, v = .agg #[.bool b, v1, v2] ∧ RW W v1 ns ∧ RW W v2 ds := by
  obtain ⟨cs, rfl, hsz⟩ := okWide_struct Try.underlying72 hval
  have hc : Try.prog.cellsOf 72 = 3 := by kernel_rfl
  rw [hc] at hsz
  obtain ⟨fuel, hf⟩ := h
  obtain ⟨y0, y1, n, _, hl, h0, h1⟩ := trod_struct2 Try.underlying72 hf
  match cs, hsz with
  | ⟨[c0, c1, c2]⟩, _ =>
    have hcn : Try.prog.cellsOf 70 = 2 := by kernel_rfl
    have hcs : Try.prog.cellsOf 48 = 1 := by kernel_rfl
    have h0' : DataW.trod enc Try.prog W base (fun _ => true) held n 70 [c0, c1] = some y0 := by simpa [hcn, Value.cells] using h0
    have h1' : DataW.trod enc Try.prog W base (fun _ => true) held n 48 [c2] = some y1 := by simpa [hcs, Value.cells] using h1
    obtain ⟨b, v, ws, e, hw⟩ := open_number h0'
    obtain ⟨ds, hd⟩ := open_words h1'
    simp at e
    obtain ⟨rfl, rfl⟩ := e
    exact ⟨b, _, _, ws, ds, rfl, hw, hd⟩
end
end Go.Proofs.Ytlgnaioodnhkjaa
