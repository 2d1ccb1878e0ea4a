/-
Decimals: DecimalString of the thin package. No condition.
-/
import Derived.Test.YtedmkbpfmddafaaDecB
namespace Go.Proofs.Ytedmkbpfmddafaa
open Go.RowKit

/-- The text of a decimal. -/
def decStr (us : List UInt8) (e : Int) : List UInt8 :=
  if e ≤ 0 then [48, 46] ++ List.replicate (-e).toNat 48 ++ us
  else if e < us.length then us.take e.toNat ++ [46] ++ us.drop e.toNat
  else us ++ List.replicate (e.toNat - us.length) 48

theorem String_any (b : Nat) (m : Value) (e : Int) (us : List UInt8) (w : World) (hm : w.cell? ⟨b, 0, none⟩ = some m) (he : w.cell? ⟨b, 1, none⟩ = some (.int .i64 e))
    (hr : RI .u8 w m (intsOf us)) (h0 : 0 < us.length) (hl : us.length ≤ 1000000) (hel : -1000000 ≤ e ∧ e ≤ 1000000) :
    Calls Try.prog 68 #[.pointer (some ⟨b, 0, none⟩)] w fun e' w' => e' = .returned (.string ⟨(decStr us e).toArray⟩) ∧ Below w.heap.size w w' := by
  unfold decStr
  by_cases h1 : e ≤ 0
  · rw [if_pos h1]
    obtain ⟨k, rfl⟩ : ∃ k : Nat, e = -(k : Int) := ⟨(-e).toNat, by omega⟩
    have := String_neg b m k us w hm he hr h0 hl (by omega)
    rwa [show (- -(k : Int)).toNat = k by omega]
  · rw [if_neg h1]
    obtain ⟨k, rfl⟩ : ∃ k : Nat, e = (k : Int) := ⟨e.toNat, by omega⟩
    rw [Int.toNat_natCast]
    by_cases h2 : (k : Int) < us.length
    · rw [if_pos h2]
      exact String_mid b m k us w hm he hr (by omega) (by omega) hl
    · rw [if_neg h2]
      exact String_big b m k us w hm he hr h0 (by omega) (by omega)

set_option maxHeartbeats 400000 in
theorem ZZDecimalString_any (m : Value) (e : Int) (us : List UInt8) (w : World)
    (hr : RI .u8 w m (intsOf us)) (h0 : 0 < us.length) (hl : us.length ≤ 1000000) (hel : -1000000 ≤ e ∧ e ≤ 1000000) :
    Calls Try.prog 41 #[m, .int .i64 e] w fun e' w' => e' = .returned (.string ⟨(decStr us e).toArray⟩) ∧ Below w.heap.size w w' := by
  have HL := Lib.hid (intsOf_length us)
  have Hr := Lib.hid hr
  have hr1 := hr
  clear hr
  have hS := hr1.isS
  go_enter Try.func41, Try.ntmps41
  go_wp2_with (at_builtin; refine wpList_append_O rfl _ _ _ _ rfl elemB w.heap.size _ _ rfl (Own.nil _ _ _) _ rfl _ _ (hr1.src sliceB) ?c3 ?c4 ?c5 ?_)
  case c3 => rw [HL.out]; simp [maxLen]; omega
  case c4 => rw [HL.out]; simp; omega
  case c5 => exact Nat.le_refl _
  rintro v1 w1 ho1 hb1 - - -
  have hs1 := ho1.isS
  go_wp2_with fail
  refine (String_any w1.heap.size v1 e us _ ?hm ?he ?hr h0 hl hel).mono ?_
  case hm => simp
  case he => simp
  case hr =>
    have := (ho1.alloc (.cells #[v1, .int .i64 e] 103)).rd (k := .u8) (xs := intsOf us)
    simpa using this
  rintro e' w2 ⟨rfl, hb2⟩
  go_wp2
  go_ret
  exact ⟨rfl, (hb1.alloc hb1.size _).trans (hb2.mono (by simp; have := hb1.size; omega))⟩

set_option maxHeartbeats 400000 in
theorem DecimalString_any (m : Value) (e : Int) (us : List UInt8) (w : World)
    (hr : RI .u8 w m (intsOf us)) (h0 : 0 < us.length) (hl : us.length ≤ 1000000) (hel : -1000000 ≤ e ∧ e ≤ 1000000) :
    Calls Try.prog 13 #[m, .int .i64 e] w fun e' w' => e' = .returned (.string ⟨(decStr us e).toArray⟩) ∧ Below w.heap.size w w' := by
  have HL := Lib.hid (intsOf_length us)
  have hr1 := hr
  clear hr
  go_enter Try.func13, Try.ntmps13
  go_wp2_with (at_builtin; refine wpList_append_O rfl _ _ _ _ rfl elemB w.heap.size _ _ rfl (Own.nil _ _ _) _ rfl _ _ (hr1.src sliceB) ?c3 ?c4 ?c5 ?_)
  case c3 => rw [HL.out]; simp [maxLen]; omega
  case c4 => rw [HL.out]; simp; omega
  case c5 => exact Nat.le_refl _
  rintro v1 w1 ho1 hb1 - - -
  have hs1 := ho1.isS
  go_wp2_with fail
  refine (ZZDecimalString_any v1 e us _ (by simpa using ho1.rd) h0 hl hel).mono ?_
  rintro e' w2 ⟨rfl, hb2⟩
  go_wp2
  go_ret
  exact ⟨rfl, hb1.trans (hb2.mono hb1.size)⟩
end Go.Proofs.Ytedmkbpfmddafaa
