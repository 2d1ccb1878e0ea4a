/-
Natural numbers of the reference: Gcd. No condition.
-/
import Derived.Test.YtedmkbpfmddafaaSpI
namespace Go.Proofs.Ytedmkbpfmddafaa
open Go.RowKit

theorem NatV.uniq {w : World} {v : Value} {m n : Nat} (h : NatV w v m) (h' : NatV w v n) : m = n := by
  have hl : nl m = nl n := h.len.symm.trans h'.len
  have hd : digs m = digs n := by
    unfold digs
    rw [hl]
    refine List.map_congr_left fun i hi => ?_
    have hi := List.mem_range.1 hi
    have h1 := h.cell i (by omega)
    rw [h'.cell i hi] at h1
    simp at h1
    omega
  rw [← val_digs m, hd, val_digs]
open Classical in
/-- The number that a slice is in a world. -/
noncomputable def natIn (w : World) (v : Value) : Nat := if h : ∃ n, NatV w v n then h.choose else 0
theorem natIn_of {w : World} {v : Value} {n : Nat} (h : NatV w v n) : natIn w v = n := by
  unfold natIn
  rw [dif_pos ⟨n, h⟩]
  exact NatV.uniq (Exists.choose_spec (⟨n, h⟩ : ∃ n, NatV w v n)) h
set_option maxRecDepth 100000 in
set_option maxHeartbeats 800000 in
theorem spGcd (a b : Value) (x y : Nat) (w : World) (ha : NatV w a x) (hb : NatV w b y) (hx : nl x ≤ 1000000000) (hy : nl y ≤ 1000000000) :
    Calls Try.prog 74 #[a, b] w fun e w' => ∃ r, e = .returned r ∧ NPost (Nat.gcd x y) w r w' := by
  have hSa := ha.isS
  have hSb := hb.isS
  have Ha := Lib.hid ha
  have Hb := Lib.hid hb
  clear ha hb
  go_enter Try.func74, Try.ntmps74
  go_wp2
  go_loopw [0, 1] (fun u v wr => ∃ m n : Nat, nl m ≤ 1000000000 ∧ nl n ≤ 1000000000 ∧ NatV wr u m ∧ NatV wr v n ∧ Nat.gcd m n = Nat.gcd x y ∧ Below w.heap.size w wr) (fun _ v wr => natIn wr v)
  case atStart => exact ⟨x, y, hx, hy, Ha.out, Hb.out, rfl, Below.refl _ _⟩
  case round =>
    obtain ⟨m, n, hm, hn, hu, hv, hg, hbl⟩ := hrel
    have hSu := hu.isS
    have hSv := hv.isS
    have hLv := hv.len
    have Hu := Lib.hid hu
    have Hv := Lib.hid hv
    have Hg := Lib.hid hg
    clear hu hv hg
    by_cases h0 : n = 0
    · subst h0
      rw [nl_zero] at hLv
      go_wp2
      go_ret
      refine ⟨_, rfl, ?_, hbl⟩
      rw [← Hg.out, Nat.gcd_zero_right]
      exact Hu.out
    · have hpos : 0 < nl n := nl_pos (by omega)
      have t1 : decide (0 < nl n) = true := by rw [decide_eq_true_iff]; exact hpos
      go_wp2_with fail
      refine (spDivMod _ _ m n wr Hu.out Hv.out hm hn (by omega)).mono ?_
      rintro _ w1 ⟨_, rfl, q, r, rfl, hq, hr, hb1⟩
      have Hr := Lib.hid hr
      have Hv1 := Lib.hid (Hv.out.below hb1)
      have hlt := Nat.mod_lt m (show 0 < n by omega)
      have hnr := nl_mono (Nat.le_of_lt hlt)
      have Hlt := Lib.hid hlt
      clear hq hr hlt
      go_wp2
      refine ⟨⟨n, m % n, hn, by omega, Hv1.out, Hr.out, ?_, hbl.trans (hb1.mono hbl.size)⟩, ?_⟩
      · rw [← Hg.out, Nat.gcd_comm n, ← Nat.gcd_rec, Nat.gcd_comm]
      · rw [natIn_of Hr.out, natIn_of Hv.out]; exact Hlt.out
end Go.Proofs.Ytedmkbpfmddafaa
