/-
Decimals: round, the doors of the thin package. No condition.
-/
import Derived.Test.YtedmkbpfmddafaaDecF
namespace Go.Proofs.Ytedmkbpfmddafaa
open Go.RowKit

def rdMant (us : List UInt8) (n : Nat) : List UInt8 := us.take (trIdx us n)
def rdExp (us : List UInt8) (n : Nat) (e : Int) : Int := zexp (trIdx us n) e
def ruMant (us : List UInt8) (n : Nat) : List UInt8 := upMant us (upIdx us n)
def ruExp (us : List UInt8) (n : Nat) (e : Int) : Int := upExp (upIdx us n) e
/-- What is left of a decimal that is rounded by a kind: nothing turns where the figures are at most n. -/
def rMant (kind : Nat) (us : List UInt8) (n : Nat) : List UInt8 :=
  if us.length ≤ n then us else if kind = 2 ∨ kind = 0 ∧ shouldUp us n = true then ruMant us n else rdMant us n
def rExp (kind : Nat) (us : List UInt8) (n : Nat) (e : Int) : Int :=
  if us.length ≤ n then e else if kind = 2 ∨ kind = 0 ∧ shouldUp us n = true then ruExp us n e else rdExp us n e
structure Figs (us : List UInt8) : Prop where
  le : us.length ≤ 1000000
  dig : ∀ i, i < us.length → 48 ≤ (us.getD i 0).toNat ∧ (us.getD i 0).toNat ≤ 57
theorem Figs.all {us : List UInt8} (h : Figs us) (i : Nat) : (us.getD i 0).toNat ≤ 57 := by
  by_cases hi : i < us.length
  · exact (h.dig i hi).2
  · rw [List.getD_eq_getElem?_getD, List.getElem?_eq_none (by omega)]; decide

theorem roundUp_k (B b : Nat) (v : Value) (e : Int) (us : List UInt8) (n : Nat) (w : World) (h : DObj w B b v e us) (hf : Figs us) (he : -1000000000000 ≤ e ∧ e ≤ 1000000000000) :
    Calls Try.prog 72 #[.pointer (some ⟨b, 0, none⟩), .int .i64 n] w fun e' w' => ∃ v, e' = .returned v ∧ DPost B b w (rMant 2 us n) (rExp 2 us n e) v w' := by
  unfold rMant rExp
  by_cases hn : us.length ≤ n
  · rw [if_pos hn, if_pos hn]; exact roundUp_no B b v e us n w h (.inr (by omega))
  · rw [if_neg hn, if_neg hn, if_pos (.inl rfl), if_pos (.inl rfl)]; exact roundUp_yes B b v e us n w h (by omega) hf.le he hf.all
theorem roundDown_k (B b : Nat) (v : Value) (e : Int) (us : List UInt8) (n : Nat) (w : World) (h : DObj w B b v e us) (hf : Figs us) (_he : -1000000000000 ≤ e ∧ e ≤ 1000000000000) :
    Calls Try.prog 71 #[.pointer (some ⟨b, 0, none⟩), .int .i64 n] w fun e' w' => ∃ v, e' = .returned v ∧ DPost B b w (rMant 1 us n) (rExp 1 us n e) v w' := by
  unfold rMant rExp
  by_cases hn : us.length ≤ n
  · rw [if_pos hn, if_pos hn]; exact roundDown_no B b v e us n w h (.inr (by omega))
  · rw [if_neg hn, if_neg hn, if_neg (by simp), if_neg (by simp)]; exact roundDown_yes B b v e us n w h (by omega) hf.le

set_option maxRecDepth 100000 in
set_option maxHeartbeats 400000 in
theorem round_k (B b : Nat) (v : Value) (e : Int) (us : List UInt8) (n : Nat) (w : World) (h : DObj w B b v e us) (hf : Figs us) (he : -1000000000000 ≤ e ∧ e ≤ 1000000000000) :
    Calls Try.prog 70 #[.pointer (some ⟨b, 0, none⟩), .int .i64 n] w fun e' w' => ∃ v, e' = .returned v ∧ DPost B b w (rMant 0 us n) (rExp 0 us n e) v w' := by
  have hm := h.mant
  have hr := h.rd
  have hS := hr.isS
  have hL := hr.len
  rw [intsOf_length] at hL
  clear hr
  have H := Lib.hid h
  have Hf := Lib.hid hf
  have h1' : decide ((n : Int) < 0) = false := by simp
  clear h hf
  by_cases hn : us.length ≤ n
  · have e1 : rMant 0 us n = us := by rw [rMant, if_pos hn]
    have e2 : rExp 0 us n e = e := by rw [rExp, if_pos hn]
    rw [e1, e2]
    have h2 : decide ((us.length : Int) ≤ n) = true := by simp; omega
    clear e1 e2
    go_enter Try.func70, Try.ntmps70
    go_wp2
    exact bodyPost_ret (results_none rfl _ _ _) rfl ⟨_, rfl, rfl, ⟨_, H.out⟩, Below.refl _ _⟩
  · have h2 : decide ((us.length : Int) ≤ n) = false := by simp; omega
    obtain ⟨p, hp⟩ : ∃ p, p = shouldUp us n := ⟨_, rfl⟩
    have Hp := Lib.hid hp
    clear hp
    have hn' : n < us.length := by omega
    cases p with
    | true =>
      have e1 : rMant 0 us n = ruMant us n := by rw [rMant, if_neg hn, if_pos (.inr ⟨rfl, Hp.out.symm⟩)]
      have e2 : rExp 0 us n e = ruExp us n e := by rw [rExp, if_neg hn, if_pos (.inr ⟨rfl, Hp.out.symm⟩)]
      rw [e1, e2]
      clear e1 e2
      go_enter Try.func70, Try.ntmps70
      go_wp2_with fail
      refine (shouldRoundUp_any B b v e us n w H.out hn' Hf.out.le Hf.out.dig).mono ?_
      rintro _ _ ⟨rfl, rfl⟩
      rw [← Hp.out]
      go_wp2_with fail
      refine (roundUp_yes B b v e us n w H.out hn' Hf.out.le he Hf.out.all).mono ?_
      rintro _ w1 ⟨_, rfl, hd⟩
      go_wp2
      exact bodyPost_end (results_none rfl _ _ _) rfl ⟨_, rfl, rfl, hd.2⟩
    | false =>
      have hq : ¬ (0 = 2 ∨ 0 = 0 ∧ shouldUp us n = true) := by rw [← Hp.out]; simp
      have e1 : rMant 0 us n = rdMant us n := by rw [rMant, if_neg hn, if_neg hq]
      have e2 : rExp 0 us n e = rdExp us n e := by rw [rExp, if_neg hn, if_neg hq]
      rw [e1, e2]
      clear e1 e2 hq
      go_enter Try.func70, Try.ntmps70
      go_wp2_with fail
      refine (shouldRoundUp_any B b v e us n w H.out hn' Hf.out.le Hf.out.dig).mono ?_
      rintro _ _ ⟨rfl, rfl⟩
      rw [← Hp.out]
      go_wp2_with fail
      refine (roundDown_yes B b v e us n w H.out hn' Hf.out.le).mono ?_
      rintro _ w1 ⟨_, rfl, hd⟩
      go_wp2
      exact bodyPost_end (results_none rfl _ _ _) rfl ⟨_, rfl, rfl, hd.2⟩

def ZPost (w : World) (us : List UInt8) (e : Int) (v : Value) (w' : World) : Prop := ∃ v', v = .tuple #[v', .int .i64 e] ∧ RI .u8 w' v' (intsOf us) ∧ Below w.heap.size w w'

set_option maxRecDepth 100000 in
set_option maxHeartbeats 400000 in
theorem ZZDecimalRound_any (m : Value) (e : Int) (us : List UInt8) (n : Nat) (w : World) (hr : RI .u8 w m (intsOf us)) (hf : Figs us) (he : -1000000000000 ≤ e ∧ e ≤ 1000000000000) :
    Calls Try.prog 45 #[m, .int .i64 e, .int .i64 n] w fun e' w' => ∃ v, e' = .returned v ∧ ZPost w (rMant 0 us n) (rExp 0 us n e) v w' := by
  have HL := Lib.hid (intsOf_length us)
  have hr1 := hr
  have Hf := Lib.hid hf
  have hle := hf.le
  clear hr hf
  go_enter Try.func45, Try.ntmps45
  go_wp2_with (at_builtin; refine wpList_append_O rfl _ _ _ _ rfl elemB w.heap.size _ _ rfl (Own.nil _ _ _) _ rfl _ _ (hr1.src sliceB) ?c3 ?c4 ?c5 ?_)
  case c3 => rw [HL.out]; simp [maxLen]; omega
  case c4 => rw [HL.out]; simp; omega
  case c5 => exact Nat.le_refl _
  rintro v1 w1 ho1 hb1 - - -
  have hs1 := ho1.isS
  have D : DObj (w1.alloc (.cells #[v1, .int .i64 e] 103)) w.heap.size w1.heap.size v1 e us :=
    ⟨hb1.size, heap_alloc_new w1 _, by have := ho1.alloc (.cells #[v1, .int .i64 e] 103); rw [bys_eq]; simpa using this, fun hc => by have := (ho1.lt (by omega)).2; omega⟩
  have HD := Lib.hid D
  have hbz := hb1.size
  clear D
  go_wp2_with fail
  refine (round_k w.heap.size w1.heap.size v1 e us n _ HD.out Hf.out he).mono ?_
  rintro _ w2 ⟨_, rfl, rfl, ⟨v2, D2⟩, hb2⟩
  have hm := D2.mant
  have hex := D2.exp
  have hS := D2.own.isS
  have HD2 := Lib.hid D2
  clear D2
  go_wp2
  go_quiet (fail)
  go_wp2
  go_ret2
  refine ⟨_, rfl, v2, rfl, HD2.out.rd.below ⟨rfl, rfl, rfl, Nat.le_refl _, fun _ _ => rfl⟩, undrewN' ((hb1.alloc hbz _).trans hb2)⟩

set_option maxRecDepth 100000 in
set_option maxHeartbeats 400000 in
theorem ZZDecimalRoundDown_any (m : Value) (e : Int) (us : List UInt8) (n : Nat) (w : World) (hr : RI .u8 w m (intsOf us)) (hf : Figs us) (he : -1000000000000 ≤ e ∧ e ≤ 1000000000000) :
    Calls Try.prog 46 #[m, .int .i64 e, .int .i64 n] w fun e' w' => ∃ v, e' = .returned v ∧ ZPost w (rMant 1 us n) (rExp 1 us n e) v w' := by
  have HL := Lib.hid (intsOf_length us)
  have hr1 := hr
  have Hf := Lib.hid hf
  have hle := hf.le
  clear hr hf
  go_enter Try.func46, Try.ntmps46
  go_wp2_with (at_builtin; refine wpList_append_O rfl _ _ _ _ rfl elemB w.heap.size _ _ rfl (Own.nil _ _ _) _ rfl _ _ (hr1.src sliceB) ?c3 ?c4 ?c5 ?_)
  case c3 => rw [HL.out]; simp [maxLen]; omega
  case c4 => rw [HL.out]; simp; omega
  case c5 => exact Nat.le_refl _
  rintro v1 w1 ho1 hb1 - - -
  have hs1 := ho1.isS
  have D : DObj (w1.alloc (.cells #[v1, .int .i64 e] 103)) w.heap.size w1.heap.size v1 e us :=
    ⟨hb1.size, heap_alloc_new w1 _, by have := ho1.alloc (.cells #[v1, .int .i64 e] 103); rw [bys_eq]; simpa using this, fun hc => by have := (ho1.lt (by omega)).2; omega⟩
  have HD := Lib.hid D
  have hbz := hb1.size
  clear D
  go_wp2_with fail
  refine (roundDown_k w.heap.size w1.heap.size v1 e us n _ HD.out Hf.out he).mono ?_
  rintro _ w2 ⟨_, rfl, rfl, ⟨v2, D2⟩, hb2⟩
  have hm := D2.mant
  have hex := D2.exp
  have hS := D2.own.isS
  have HD2 := Lib.hid D2
  clear D2
  go_wp2
  go_quiet (fail)
  go_wp2
  go_ret2
  refine ⟨_, rfl, v2, rfl, HD2.out.rd.below ⟨rfl, rfl, rfl, Nat.le_refl _, fun _ _ => rfl⟩, undrewN' ((hb1.alloc hbz _).trans hb2)⟩

set_option maxRecDepth 100000 in
set_option maxHeartbeats 400000 in
theorem ZZDecimalRoundUp_any (m : Value) (e : Int) (us : List UInt8) (n : Nat) (w : World) (hr : RI .u8 w m (intsOf us)) (hf : Figs us) (he : -1000000000000 ≤ e ∧ e ≤ 1000000000000) :
    Calls Try.prog 47 #[m, .int .i64 e, .int .i64 n] w fun e' w' => ∃ v, e' = .returned v ∧ ZPost w (rMant 2 us n) (rExp 2 us n e) v w' := by
  have HL := Lib.hid (intsOf_length us)
  have hr1 := hr
  have Hf := Lib.hid hf
  have hle := hf.le
  clear hr hf
  go_enter Try.func47, Try.ntmps47
  go_wp2_with (at_builtin; refine wpList_append_O rfl _ _ _ _ rfl elemB w.heap.size _ _ rfl (Own.nil _ _ _) _ rfl _ _ (hr1.src sliceB) ?c3 ?c4 ?c5 ?_)
  case c3 => rw [HL.out]; simp [maxLen]; omega
  case c4 => rw [HL.out]; simp; omega
  case c5 => exact Nat.le_refl _
  rintro v1 w1 ho1 hb1 - - -
  have hs1 := ho1.isS
  have D : DObj (w1.alloc (.cells #[v1, .int .i64 e] 103)) w.heap.size w1.heap.size v1 e us :=
    ⟨hb1.size, heap_alloc_new w1 _, by have := ho1.alloc (.cells #[v1, .int .i64 e] 103); rw [bys_eq]; simpa using this, fun hc => by have := (ho1.lt (by omega)).2; omega⟩
  have HD := Lib.hid D
  have hbz := hb1.size
  clear D
  go_wp2_with fail
  refine (roundUp_k w.heap.size w1.heap.size v1 e us n _ HD.out Hf.out he).mono ?_
  rintro _ w2 ⟨_, rfl, rfl, ⟨v2, D2⟩, hb2⟩
  have hm := D2.mant
  have hex := D2.exp
  have hS := D2.own.isS
  have HD2 := Lib.hid D2
  clear D2
  go_wp2
  go_quiet (fail)
  go_wp2
  go_ret2
  refine ⟨_, rfl, v2, rfl, HD2.out.rd.below ⟨rfl, rfl, rfl, Nat.le_refl _, fun _ _ => rfl⟩, undrewN' ((hb1.alloc hbz _).trans hb2)⟩
end Go.Proofs.Ytedmkbpfmddafaa
