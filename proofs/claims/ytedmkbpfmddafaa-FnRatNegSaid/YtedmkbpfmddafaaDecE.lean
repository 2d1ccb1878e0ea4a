/-
FnDecimalString: the walk. No condition.
-/
import Derived.Test.YtedmkbpfmddafaaDecD
namespace Go.Proofs.Ytedmkbpfmddafaa
open Go.RowKit

theorem cat_str (a : Array UInt8) (b : List UInt8) : ({ data := a } : ByteArray) ++ { data := b.toArray } = { data := (a.toList ++ b).toArray } := by
  apply ByteArray.ext
  rw [ByteArray.data_append]
  apply Array.ext'
  simp
theorem cat_list (a b : List UInt8) : ({ data := a.toArray } : ByteArray) ++ { data := b.toArray } = { data := (a ++ b).toArray } := by
  have := cat_str a.toArray b; simpa using this
theorem ext_list (a : List UInt8) (i j : Nat) : ({ data := a.toArray } : ByteArray).extract i j = { data := ((a.take j).drop i).toArray } := by
  apply ByteArray.ext
  rw [ByteArray.data_extract]
  apply Array.ext'
  simp [List.drop_take]
theorem ret_true {b : Bool} (h : b = true) : Ending.returned (.bool b) = Ending.returned (.bool true) := by rw [h]

set_option maxHeartbeats 400000 in
theorem law_big (v : Value) (x : Int) (us : List UInt8) (w : World) (hr : RI .u8 w v (intsOf us)) (hl : 2147483647 < us.length) (hl2 : us.length ≤ 9223372036854775807) :
    Calls Try.prog 3 #[v, .int .i16 x] w fun e w' => e = .returned (.bool true) ∧ Below w.heap.size w w' := by
  have hS := hr.isS
  have hL := hr.len
  rw [intsOf_length] at hL
  go_enter Try.func3, Try.ntmps3
  go_wp2
  go_ret
  exact ⟨rfl, Below.refl _ _⟩

set_option maxRecDepth 100000 in
set_option maxHeartbeats 400000 in
theorem law_any (v : Value) (x : Int) (us : List UInt8) (w : World) (hr : RI .u8 w v (intsOf us)) (hl : us.length ≤ 2147483647) (hx : -32768 ≤ x ∧ x ≤ 32767) :
    Calls Try.prog 3 #[v, .int .i16 x] w fun e w' => e = .returned (.bool true) ∧ Below w.heap.size w w' := by
  have hS := hr.isS
  have hL := hr.len
  rw [intsOf_length] at hL
  obtain ⟨hx1, hx2⟩ := hx
  have ht1 : -300 ≤ x.tmod 301 ∧ x.tmod 301 ≤ 300 := by
    have := Int.tmod_lt_of_pos x (show (0 : Int) < 301 by decide)
    have := Int.lt_tmod_of_pos x (show (0 : Int) < 301 by decide)
    omega
  have hconv := run_convert_S (dst := 9) hr sliceB Try.underlying5 Try.underlying9
  have Hconv := Lib.hid hconv
  have Hr := Lib.hid hr
  have Ht := Lib.hid ht1
  have h0 : decide ((2147483647 : Int) < us.length) = false := by rw [decide_eq_false_iff_not]; omega
  have Hl := Lib.hid hl
  clear hr hconv ht1 hl
  go_enter Try.func3, Try.ntmps3
  go_wp2_with fail
  refine (decimal_any v 200 us w Hr.out Hl.out).mono ?_
  rintro _ _ ⟨_, rfl, r, rfl, hd, rfl⟩
  cases r with
  | false =>
    go_wp2
    go_ret
    exact ⟨rfl, Below.refl _ _⟩
  | true =>
    have hD := hd rfl
    clear hd h0
    have hp := hD.pos
    have hle := hD.le
    clear hD
    go_wp2_with fail
    generalize x.tmod 301 = e at Ht ⊢
    have he1 := Ht.out.1
    have he2 := Ht.out.2
    clear Ht
    refine (DecimalString_any v e us w Hr.out hp (by omega) (by omega)).mono ?_
    rintro _ w1 ⟨rfl, hb1⟩
    have hconv := run_convert_S (dst := 9) (Hr.out.below hb1) sliceB Try.underlying5 Try.underlying9
    by_cases h1 : e ≤ 0
    · obtain ⟨k, rfl⟩ : ∃ k : Nat, e = -(k : Int) := ⟨(-e).toNat, by omega⟩
      have hs : decStr us (-(k : Int)) = [48, 46] ++ List.replicate k 48 ++ us := by
        unfold decStr; rw [if_pos h1, show (- -(k : Int)).toNat = k by omega]
      rw [hs]
      clear hs
      go_wp2
      go_loop [5, 7] (fun i s => ∃ j : Nat, j ≤ k ∧ i = .int .i64 (-(j : Int)) ∧ s = .string ⟨(List.replicate (k - j) 48 ++ us).toArray⟩) (fun i _ => (-(intOf i)).toNat)
      case atStart => exact ⟨k, Nat.le_refl _, rfl, by rw [Nat.sub_self]; rfl⟩
      case round =>
        obtain ⟨j, hj, rfl, rfl⟩ := hrel
        by_cases hlt : 0 < j
        · go_wp2
          go_round
          case rel =>
            refine ⟨j - 1, by omega, ?_, ?_⟩
            · rw [show -(j : Int) + 1 = -((j - 1 : Nat) : Int) by omega]
            · rw [cat_str, show k - (j - 1) = (k - j) + 1 by omega, List.replicate_succ]; rfl
          case measure => simp [intOf]; omega
        · have hj0 : j = 0 := by omega
          subst hj0
          go_wp2
          go_ret
          refine ⟨ret_true ?_, hb1⟩
          rw [cat_str]
          simp
    · obtain ⟨k, rfl⟩ : ∃ k : Nat, e = (k : Int) := ⟨e.toNat, by omega⟩
      have hk : 0 < k := by omega
      clear h1
      have hd1 : decide ((k : Int) ≤ 0) = false := by rw [decide_eq_false_iff_not]; omega
      by_cases h2 : (k : Int) < us.length
      · have hs : decStr us (k : Int) = us.take k ++ [46] ++ us.drop k := by
          unfold decStr; rw [if_neg (by omega), if_pos h2, Int.toNat_natCast]
        rw [hs]
        clear hs
        go_wp2
        go_loop [7] (fun s => s = .string ⟨us.toArray⟩) (fun _ => 0)
        case atStart => rfl
        case round =>
          subst hrel
          have hne : ((us.length : Int) == k) = false := by rw [beq_eq_false_iff_ne]; omega
          go_wp2
          go_quiet (fail)
          go_wp2
          go_ret
          refine ⟨ret_true ?_, undrewN' hb1⟩
          rw [ext_list, ext_list, show (#[46] : Array UInt8) = [46].toArray from rfl, cat_list, cat_list]
          simp
      · have hs : decStr us (k : Int) = us ++ List.replicate (k - us.length) 48 := by
          unfold decStr; rw [if_neg (by omega), if_neg h2, Int.toNat_natCast]
        rw [hs]
        clear hs
        go_wp2
        go_loop [7] (fun s => ∃ j : Nat, us.length + j ≤ k ∧ s = .string ⟨(us ++ List.replicate j 48).toArray⟩) (fun s => k - (match s with | .string b => b.size | _ => 0))
        case atStart => exact ⟨0, by omega, by simp⟩
        case round =>
          obtain ⟨j, hj, rfl⟩ := hrel
          have hsz : (ByteArray.mk (us ++ List.replicate j 48).toArray).size = us.length + j := by simp [ByteArray.size]
          by_cases hlt : us.length + j < k
          · go_wp2
            go_round
            case rel =>
              refine ⟨j + 1, by omega, ?_⟩
              rw [show (#[48] : Array UInt8) = [48].toArray from rfl, cat_list, List.replicate_succ', List.append_assoc]
            case measure =>
              simp only [cat_list]
              simp [ByteArray.size]; omega
          · have hje : us.length + j = k := by omega
            go_wp2
            go_ret
            refine ⟨ret_true ?_, hb1⟩
            rw [show k - us.length = j by omega]
            simp
end Go.Proofs.Ytedmkbpfmddafaa
