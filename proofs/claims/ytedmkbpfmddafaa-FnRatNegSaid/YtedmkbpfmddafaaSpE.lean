/-
Natural numbers of the reference: Digits. No condition.
-/
import Derived.Test.YtedmkbpfmddafaaSpD
import Derived.Test.YtedmkbpfmddafaaDecE
namespace Go.Proofs.Ytedmkbpfmddafaa
open Go.RowKit

/-- The figures of a number, of 0 none. -/
def dtx (n : Nat) : List UInt8 := if _h : n = 0 then [] else dtx (n / 10) ++ [UInt8.ofNat (48 + n % 10)]
termination_by n
decreasing_by omega
theorem dtx_zero : dtx 0 = [] := by unfold dtx; rfl
theorem dtx_pos {n : Nat} (h : 0 < n) : dtx n = dtx (n / 10) ++ [UInt8.ofNat (48 + n % 10)] := by
  conv => lhs; unfold dtx
  rw [dif_neg (by omega)]
theorem conv_one {d : Nat} {w : World} (hd : d < 256) :
    (convert 22 9 (.slice (some ⟨w.heap.size, 0, none⟩) 1 1)).run Try.prog (w.alloc (.cells #[.int .u8 (d : Int)] 5)) = .ok (.string ⟨[UInt8.ofNat d].toArray⟩) (w.alloc (.cells #[.int .u8 (d : Int)] 5)) := by
  refine run_convert_S (e := 5) ⟨IsS.mk (Nat.le_refl _), rfl, fun i hi => ?_⟩ sliceB Try.underlying5 Try.underlying9
  have h0 : i = 0 := by simpa [intsOf] using hi
  subst h0
  have e : (intsOf [UInt8.ofNat d]).getD 0 0 = (d : Int) := by simp [intsOf]; omega
  rw [e]
  have h := cell_one_new w (.int .u8 (d : Int)) 5 0 _ rfl
  exact h
theorem dtx_len : ∀ (k n : Nat), n < 10 ^ k → (dtx n).length ≤ k
  | 0, n, h => by
    have : n = 0 := by omega
    subst this; rw [dtx_zero]; simp
  | k + 1, n, h => by
    by_cases h0 : n = 0
    · subst h0; rw [dtx_zero]; simp
    · have := dtx_len k (n / 10) (by rw [Nat.pow_succ] at h; omega)
      rw [dtx_pos (by omega)]; simp; omega
theorem dtx_len_nl (n : Nat) : (dtx n).length ≤ 5 * nl n := by
  refine dtx_len _ _ (Nat.lt_of_lt_of_le (lt_nl n) ?_)
  rw [Nat.pow_mul]
  exact Nat.pow_le_pow_left (by decide) _
set_option maxRecDepth 100000 in
set_option maxHeartbeats 800000 in
theorem spDigits (a : Value) (x : Nat) (w : World) (ha : NatV w a x) (hx : nl x ≤ 1000000000) :
    Calls Try.prog 18 #[a] w fun e w' => e = .returned (.string ⟨(if x = 0 then [48] else dtx x).toArray⟩) ∧ Below w.heap.size w w' := by
  have hSa := ha.isS
  have hLa := ha.len
  have Ha := Lib.hid ha
  clear ha
  by_cases hx0 : x = 0
  · subst hx0
    rw [nl_zero] at hLa
    go_enter Try.func18, Try.ntmps18
    go_wp2
    go_ret
    exact ⟨rfl, Below.refl _ _⟩
  · rw [if_neg hx0]
    have hnx : 0 < nl x := nl_pos (by omega)
    have hz : ((nl x : Int) == 0) = false := by rw [beq_eq_false_iff_ne]; omega
    go_enter Try.func18, Try.ntmps18
    go_wp2
    go_loopw [0, 3] (fun u s wr => ∃ (m : Nat) (t : List UInt8), m ≤ x ∧ NatV wr u m ∧ s = .string ⟨t.toArray⟩ ∧ dtx m ++ t = dtx x ∧ Below w.heap.size w wr) (fun _ s _ => (dtx x).length - (match s with | .string b => b.size | _ => 0))
    case atStart => exact ⟨x, [], Nat.le_refl _, Ha.out, rfl, by simp, Below.refl _ _⟩
    case round =>
      obtain ⟨m, t, hm, hu, rfl, ht, hb⟩ := hrel
      have hSu := hu.isS
      have hLu := hu.len
      have Hu := Lib.hid hu
      have Ht := Lib.hid ht
      have hnm := nl_mono hm
      have htl : t.length ≤ 5000000000 := by
        have h1 := congrArg List.length ht
        have h2 := dtx_len_nl x
        rw [List.length_append] at h1
        omega
      clear hu ht
      by_cases hm0 : m = 0
      · subst hm0
        rw [nl_zero] at hLu
        go_wp2
        go_ret
        have := Ht.out
        rw [dtx_zero, List.nil_append] at this
        rw [this]
        exact ⟨rfl, hb⟩
      · have hnm0 : 0 < nl m := nl_pos (by omega)
        have hlu := hLu
        have t1 : decide (0 < nl m) = true := by rw [decide_eq_true_iff]; omega
        go_wp2_with fail
        refine (spByDigit _ m 10 wr Hu.out (by omega) (by decide) (by decide)).mono ?_
        rintro _ w1 ⟨q, rfl, hq, hb1⟩
        have Hq := Lib.hid hq
        clear hq
        have hr : m % 10 < 10 := Nat.mod_lt _ (by decide)
        have hdt := dtx_pos (n := m) (by omega)
        have Hdt := Lib.hid hdt
        clear hdt
        obtain ⟨r, hr'⟩ : ∃ r, r = m % 10 := ⟨_, rfl⟩
        rw [← hr'] at hr Hdt ⊢
        clear hr'
        have hconv := conv_one (d := 48 + r) (w := w1) (by omega)
        rw [show ((48 + r : Nat) : Int) = 48 + (r : Int) by omega] at hconv
        go_wp2
        refine ⟨?_, ?_⟩
        · refine ⟨m / 10, _, by omega, Hq.out.below ((Below.refl _ _).alloc (Nat.le_refl _) _), by rw [cat_str], ?_, (bthen hb hb1).alloc (by have := (bthen hb hb1).size; omega) _⟩
          rw [← Ht.out, Hdt.out, List.append_assoc]
          simp
        · have h1 := congrArg List.length Ht.out
          rw [Hdt.out] at h1
          simp only [List.length_append, List.length_singleton] at h1
          simp only [cat_str]
          simp [ByteArray.size]; omega
end Go.Proofs.Ytedmkbpfmddafaa
