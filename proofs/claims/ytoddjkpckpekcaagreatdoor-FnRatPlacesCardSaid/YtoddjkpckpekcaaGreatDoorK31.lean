/-
Texts of this proof, joined: GcD. No condition.
-/
import Derived.Test.YtoddjkpckpekcaaGreatDoorK01
import Derived.Test.YtoddjkpckpekcaaGreatDoorK02
import Derived.Test.YtoddjkpckpekcaaGreatDoorK03
import Derived.Test.YtoddjkpckpekcaaGreatDoorK04
import Derived.Test.YtoddjkpckpekcaaGreatDoorK05
import Derived.Test.YtoddjkpckpekcaaGreatDoorK06
import Derived.Test.YtoddjkpckpekcaaGreatDoorK07
import Derived.Test.YtoddjkpckpekcaaGreatDoorK08
import Derived.Test.YtoddjkpckpekcaaGreatDoorK09
import Derived.Test.YtoddjkpckpekcaaGreatDoorK10
import Derived.Test.YtoddjkpckpekcaaGreatDoorK11
import Derived.Test.YtoddjkpckpekcaaGreatDoorK12
import Derived.Test.YtoddjkpckpekcaaGreatDoorK13
import Derived.Test.YtoddjkpckpekcaaGreatDoorK14
import Derived.Test.YtoddjkpckpekcaaGreatDoorK15
import Derived.Test.YtoddjkpckpekcaaGreatDoorK16
import Derived.Test.YtoddjkpckpekcaaGreatDoorK17
import Derived.Test.YtoddjkpckpekcaaGreatDoorK18
import Derived.Test.YtoddjkpckpekcaaGreatDoorK19
import Derived.Test.YtoddjkpckpekcaaGreatDoorK20
import Derived.Test.YtoddjkpckpekcaaGreatDoorK21
import Derived.Test.YtoddjkpckpekcaaGreatDoorK22
import Derived.Test.YtoddjkpckpekcaaGreatDoorK23
import Derived.Test.YtoddjkpckpekcaaGreatDoorK24
import Derived.Test.YtoddjkpckpekcaaGreatDoorK25
import Derived.Test.YtoddjkpckpekcaaGreatDoorK26
import Derived.Test.YtoddjkpckpekcaaGreatDoorK27
import Derived.Test.YtoddjkpckpekcaaGreatDoorK29
import Derived.Laws.Bits64b
import Derived.WalkKit
import Derived.WalkSpells
import Derived.WalkLawsBesides
import Derived.Lib.Hide
import Derived.Deep.QuietTactic
import Derived.BigQuiet
import Derived.Deep.DeepFit
import Derived.Deep.AppendSrc
import Derived.Laws.BitsAllLaws
import Derived.Laws.CopyOwn
import Derived.Outline
import Derived.Lib.AppendZeros
namespace Go.Proofs.YtoddjkpckpekcaaGreatDoor
open Go.RowKit

set_option maxRecDepth 100000 in
set_option maxHeartbeats 800000 in
theorem mulAddWW_gen (z x : Value) (zs : List Value) (X y B : Nat) (w : World) (hz : Own w B 98 z zs) (hx : RO w x (wds X)) (ax : Al z x) (hy : y < 18446744073709551616) (hl : nw X ≤ 100000000) (hB : B ≤ w.heap.size) :
    Calls Tryz.prog 178 #[z, x, .int .u64 y, .int .u64 0] w fun e w' => ∃ q, e = .returned q ∧ NatR z q (X * y) B w w' := by
  have hS := hz.isS
  have hSx := hx.rw.isS
  by_cases h : 0 < X ∧ 0 < y
  · have := mulAddWW_any z x zs X y 0 B w hz hx ax h.1 h.2 hy (by decide) hl hB
    rw [Nat.add_zero] at this
    exact this
  · have hXY : X * y = 0 := by
      rcases Nat.eq_zero_or_pos X with h1 | h1
      · rw [h1, Nat.zero_mul]
      · rcases Nat.eq_zero_or_pos y with h2 | h2
        · rw [h2, Nat.mul_zero]
        · exact absurd ⟨h1, h2⟩ h
    have HS := Lib.hid (setWord_gen z zs 0 B w hz (by decide) hB)
    rw [hXY]
    obtain ⟨m, hm⟩ : ∃ m, m = nw X := ⟨_, rfl⟩
    have hLx : sLen x = m := by rw [hx.rw.len, wds_length, hm]
    rw [← hm] at hl
    rcases Nat.eq_zero_or_pos m with h1 | h1
    · subst h1
      clear hz hx ax hB hm hXY h
      go_enter Tryz.func178, Tryz.ntmps178
      go_wp2_with fail
      refine HS.out.mono ?_
      rintro _ w1 ⟨r, rfl, hr⟩
      have hSr := hr.own.isS
      have Q := Lib.hid hr
      clear hr
      go_wp2
      go_ret
      exact ⟨_, rfl, Q.out⟩
    · have hy0 : y = 0 := by
        have hX : 0 < X := by rcases Nat.eq_zero_or_pos X with h2 | h2; (rw [h2, nw_zero] at hm; omega); exact h2
        rcases Nat.eq_zero_or_pos y with h2 | h2
        · exact h2
        · exact absurd ⟨hX, h2⟩ h
      subst hy0
      have t1 : ((m : Int) == 0) = false := by rw [beq_eq_false_iff_ne]; omega
      clear hz hx ax hB hm hXY h
      go_enter Tryz.func178, Tryz.ntmps178
      go_wp2_with fail
      refine HS.out.mono ?_
      rintro _ w1 ⟨r, rfl, hr⟩
      have hSr := hr.own.isS
      have Q := Lib.hid hr
      clear hr
      go_wp2
      go_ret
      exact ⟨_, rfl, Q.out⟩
set_option maxRecDepth 100000 in
set_option maxHeartbeats 1600000 in
theorem mulW_any (b c : Nat) (zneg xneg neg : Bool) (vz vx : Value) (zs : List Value) (X y B : Nat) (w : World) (hz : w.heap[b]? = some (.cells #[.bool zneg, vz] 87 (0, 0))) (hx : w.heap[c]? = some (.cells #[.bool xneg, vx] 87 (0, 0)))
    (ho : Own w B 98 vz zs) (hox : RO w vx (wds X)) (ax : Al vz vx) (hy : y < 18446744073709551616) (hl : nw X ≤ 100000000) (hb : B ≤ b) :
    Calls Tryz.prog 151 #[.pointer (some ⟨b, 0, none⟩), .pointer (some ⟨c, 0, none⟩), .bool neg, .int .u64 y] w fun e w' => e = .returned (.tuple #[]) ∧ IntR b vz (xneg != neg) (X * y) B w w' := by
  have hSz := ho.isS
  have hSx := hox.rw.isS
  have hbs := get_lt hz
  have z1 : w.cell? ⟨b, 1, none⟩ = some vz := (row_at (i := 1) hz rfl).1
  have x1 : w.cell? ⟨c, 1, none⟩ = some vx := (row_at (i := 1) hx rfl).1
  have HM := Lib.hid (fun k => mulAddWW_gen vz vx zs X y B (w.drewN k) (ho.drewN k) (hox.below (undrewN' (Below.refl _ _))) ax hy hl (show B ≤ (w.drewN k).heap.size from Nat.le_trans hb (Nat.le_of_lt hbs)))
  have hneb : 0 < sCap vz → b ≠ sBlk vz := ho.neRow hz (by decide)
  have hnec : 0 < sCap vz → c ≠ sBlk vz := ho.neRow hx (by decide)
  have HF : Hid (∀ k r w1, NatR vz r (X * y) B (w.drewN k) w1 → (w1.heap[b]? = some (.cells #[.bool zneg, vz] 87 (0, 0)) ∧ w1.heap[c]? = some (.cells #[.bool xneg, vx] 87 (0, 0))) ∧ IntR b vz (xneg != neg) (X * y) B w ((w1.setCell ⟨b, 1, none⟩ r).setCell ⟨b, 0, none⟩ (.bool (xneg != neg)))) := Lib.hid (fun k r w1 h => by
    have h' : NatR vz r (X * y) B w w1 := ⟨h.own, undrewN h.below, fun t ht hn => h.fr t ht hn, h.at'⟩
    exact ⟨⟨h'.fr.row hz hneb, h'.fr.row hx hnec⟩, .of hz hb hneb h'⟩)
  by_cases hbc : b = c
  · subst hbc
    have hxz : xneg = zneg ∧ vx = vz := by
      rw [hz] at hx
      have h7 := Option.some.inj hx
      injection h7 with h8 _ _
      simp at h8
      exact ⟨h8.1.symm, h8.2.symm⟩
    obtain ⟨rfl, rfl⟩ := hxz
    clear hz hx ho hox ax hl hb hneb hnec
    go_enter Tryz.func151, Tryz.ntmps151
    go_wp2_with fail
    (refine wp_region_hoist 10 (by kernel_rfl) (by kernel_rfl) ⟨fun _ _ _ h => (by first | exact (hQp _ _ _ h).elim | cases h.2.1 | (obtain ⟨_, h3, _⟩ := h.2; cases h3)), fun _ _ h => (by first | exact (hQo _ _ h).elim | cases h.1 | (obtain ⟨_, h3, _⟩ := h; cases h3))⟩ ?_; simp only [List.take_succ_cons, List.take_zero, List.drop_succ_cons, List.drop_zero]; (repeat (go_big_quiet_step (fail))); refine wpQuiet_nil ?_; rintro _ ⟨nq, rfl⟩)
    go_wp2_with fail
    refine (HM.out _).mono ?_
    rintro _ w1 ⟨r, rfl, hr⟩
    obtain ⟨⟨g1, -⟩, g3⟩ := HF.out _ r w1 hr
    have hSr := hr.own.isS
    obtain ⟨a0, f0⟩ : w1.cell? ⟨b, 0, none⟩ = some (.bool xneg) ∧ w1.frozen? ⟨b, 0, none⟩ = false := ⟨(row_at (i := 0) g1 rfl).1, (row_at (i := 0) g1 rfl).2⟩
    obtain ⟨a1, f1⟩ : w1.cell? ⟨b, 1, none⟩ = some vx ∧ w1.frozen? ⟨b, 1, none⟩ = false := ⟨(row_at (i := 1) g1 rfl).1, (row_at (i := 1) g1 rfl).2⟩
    have Q := Lib.hid g3
    clear hr g1 g3
    go_wp2
    go_end0
    exact ⟨rfl, Q.out⟩
  · have hcb : ¬ c = b := fun h => hbc h.symm
    clear hz hx ho hox ax hl hb hneb hnec
    go_enter Tryz.func151, Tryz.ntmps151
    go_wp2_with fail
    (refine wp_region_hoist 10 (by kernel_rfl) (by kernel_rfl) ⟨fun _ _ _ h => (by first | exact (hQp _ _ _ h).elim | cases h.2.1 | (obtain ⟨_, h3, _⟩ := h.2; cases h3)), fun _ _ h => (by first | exact (hQo _ _ h).elim | cases h.1 | (obtain ⟨_, h3, _⟩ := h; cases h3))⟩ ?_; simp only [List.take_succ_cons, List.take_zero, List.drop_succ_cons, List.drop_zero]; (repeat (go_big_quiet_step (fail))); refine wpQuiet_nil ?_; rintro _ ⟨nq, rfl⟩)
    go_wp2_with fail
    refine (HM.out _).mono ?_
    rintro _ w1 ⟨r, rfl, hr⟩
    obtain ⟨⟨g1, g2⟩, g3⟩ := HF.out _ r w1 hr
    have hSr := hr.own.isS
    obtain ⟨a0, f0⟩ : w1.cell? ⟨b, 0, none⟩ = some (.bool zneg) ∧ w1.frozen? ⟨b, 0, none⟩ = false := ⟨(row_at (i := 0) g1 rfl).1, (row_at (i := 0) g1 rfl).2⟩
    obtain ⟨a1, f1⟩ : w1.cell? ⟨b, 1, none⟩ = some vz ∧ w1.frozen? ⟨b, 1, none⟩ = false := ⟨(row_at (i := 1) g1 rfl).1, (row_at (i := 1) g1 rfl).2⟩
    have c0 : w1.cell? ⟨c, 0, none⟩ = some (.bool xneg) := (row_at (i := 0) g2 rfl).1
    have Q := Lib.hid g3
    clear hr g1 g2 g3
    go_wp2
    go_end0
    exact ⟨rfl, Q.out⟩
end Go.Proofs.YtoddjkpckpekcaaGreatDoor
