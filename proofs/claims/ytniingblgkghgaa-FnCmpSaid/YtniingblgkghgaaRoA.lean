/-
A statement's argument that is a fraction: what it reads as. No condition.
-/
import Derived.Test.YtniingblgkghgaaWdA
import Derived.ProofKit
import Derived.OpenShut
import Derived.ChangeOld
namespace Go.Proofs.Ytniingblgkghgaa
open Go.ChangeShapes Go.WideShapes Go.ChangeAt Go.RowKit

theorem words_of {zs : List Int} (h : ∀ n ∈ zs, (Lit.int .u64 n).wf = true) : ∃ us : List Nat, zs = ints us ∧ ∀ d ∈ us, d < 18446744073709551616 := by
  have hb : ∀ n ∈ zs, 0 ≤ n ∧ n ≤ 18446744073709551615 := fun n hn => by simpa [Lit.wf, IntKind.min, IntKind.max, IntKind.signed, IntKind.bits] using h n hn
  refine ⟨zs.map Int.toNat, ?_, ?_⟩
  · simp only [ints, List.map_map]
    refine ((List.map_congr_left (g := id) fun n hn => ?_).trans (List.map_id zs)).symm
    have := hb n hn
    simp only [Function.comp, id]; omega
  · intro d hd
    obtain ⟨n, hn, rfl⟩ := List.mem_map.1 hd
    have := hb n hn
    omega
section
variable {H : Type} {enc : TypeId × Value → H} {W : World} {base : Nat} {held : Bool}
theorem open_words {v : Value} {fuel : Nat} {x : DataW H × List MemPlace} (h : DataW.trod enc Try.prog W base (fun _ => true) held fuel 25 [v] = some x) : ∃ ws, RW W v ws := by
  have key : ∃ a len cap zs, v = .slice a len cap ∧ ((a = none ∧ len = 0 ∧ cap = 0 ∧ zs = []) ∨ ∃ x, a = some x ∧ len ≤ cap ∧ cap ≤ maxLen ∧ zs.length = cap ∧ (∀ i, i < zs.length → W.cell? (x.add i) = some (.int .u64 (zs.getD i 0))) ∧ ∀ n ∈ zs, (Lit.int .u64 n).wf = true) := by
    rcases open_ints Try.underlying25 Try.underlying24 (by kernel_rfl) h with ⟨hcs, _⟩ | ⟨x, l, c, zs, hcs, _, hl, hm, hz, _, hcell, hwz⟩
    · simp at hcs; exact ⟨_, _, _, [], hcs, .inl ⟨rfl, rfl, rfl, rfl⟩⟩
    · simp at hcs
      exact ⟨_, _, _, zs, hcs, .inr ⟨_, rfl, hl, hm, by simpa using hz, hcell, hwz⟩⟩
  obtain ⟨a, len, cap, zs, rfl, hr⟩ := key
  obtain ⟨h1, h2, _, _⟩ := row_RI hr
  obtain ⟨us, hus, hd⟩ := words_of h2
  rw [hus] at h1
  exact ⟨us, h1, hd⟩
set_option maxRecDepth 100000 in
theorem open_number {cs : List Value} {fuel : Nat} {x : DataW H × List MemPlace} (h : DataW.trod enc Try.prog W base (fun _ => true) held fuel 108 cs = some x) : ∃ b v ws, cs = [.bool b, v] ∧ RW W v ws := by
  obtain ⟨y0, y1, n, rfl, hl, h0, h1⟩ := trod_struct2 Try.underlying108 h
  have hc : Try.prog.cellsOf 108 = 2 := by kernel_rfl
  rw [hc] at hl
  match cs, hl with
  | [c0, c1], _ =>
    obtain ⟨b', hb, _⟩ := DataW.trod_bool Try.underlying4 h0
    have e0 : c0 = .bool b' := by
      have := hb
      have hcb : Try.prog.cellsOf 4 = 1 := by kernel_rfl
      simpa [hcb] using this
    subst e0
    have hcs : Try.prog.cellsOf 25 = 1 := by kernel_rfl
    have h1' : DataW.trod enc Try.prog W base (fun _ => true) held n 25 [c1] = some y1 := by simpa [hcs] using h1
    obtain ⟨ws, hw⟩ := open_words h1'
    exact ⟨b', c1, ws, rfl, hw⟩
end
end Go.Proofs.Ytniingblgkghgaa
