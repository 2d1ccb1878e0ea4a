/-
Decimals: DecimalRound of the thin package; cut, more of the statements. No condition.
-/
import Derived.Test.YtedmkbpfmddafaaDecG
namespace Go.Proofs.Ytedmkbpfmddafaa
open Go.RowKit

set_option maxRecDepth 100000 in
set_option maxHeartbeats 800000 in
theorem DecimalRound_any (k : Nat) (hk : k < 3) (m : Value) (e : Int) (us : List UInt8) (n : Nat) (w : World) (hr : RI .u8 w m (intsOf us)) (hf : Figs us) (he : -1000000000000 ≤ e ∧ e ≤ 1000000000000) :
    Calls Try.prog 21 #[.int .i64 k, m, .int .i64 e, .int .i64 n] w fun e' w' => ∃ v, e' = .returned v ∧ ZPost w (rMant k us n) (rExp k us n e) v w' := by
  have HL := Lib.hid (intsOf_length us)
  have hr1 := hr
  have Hf := Lib.hid hf
  have hle := hf.le
  clear hr hf
  rcases (by omega : k = 0 ∨ k = 1 ∨ k = 2) with rfl | rfl | rfl
  · go_enter Try.func21, Try.ntmps21
    go_wp2_with (at_builtin; refine wpList_append_O rfl _ _ _ _ rfl elemB w.heap.size _ _ rfl (Own.nil _ _ _) _ rfl _ _ (hr1.src sliceB) ?c3 ?c4 ?c5 ?_)
    case c3 => rw [HL.out]; simp [maxLen]; omega
    case c4 => rw [HL.out]; simp; omega
    case c5 => exact Nat.le_refl _
    rintro v1 w1 ho1 hb1 - - -
    go_wp2_with fail
    refine (ZZDecimalRound_any v1 e us n w1 (by simpa using ho1.rd) Hf.out he).mono ?_
    rintro _ w2 ⟨_, rfl, v2, rfl, r2, hb2⟩
    go_wp2
    go_ret2
    exact ⟨_, rfl, v2, rfl, r2, hb1.trans (hb2.mono hb1.size)⟩
  · go_enter Try.func21, Try.ntmps21
    go_wp2_with (at_builtin; refine wpList_append_O rfl _ _ _ _ rfl elemB w.heap.size _ _ rfl (Own.nil _ _ _) _ rfl _ _ (hr1.src sliceB) ?c3 ?c4 ?c5 ?_)
    case c3 => rw [HL.out]; simp [maxLen]; omega
    case c4 => rw [HL.out]; simp; omega
    case c5 => exact Nat.le_refl _
    rintro v1 w1 ho1 hb1 - - -
    go_wp2_with fail
    refine (ZZDecimalRoundDown_any v1 e us n w1 (by simpa using ho1.rd) Hf.out he).mono ?_
    rintro _ w2 ⟨_, rfl, v2, rfl, r2, hb2⟩
    go_wp2
    go_ret2
    exact ⟨_, rfl, v2, rfl, r2, hb1.trans (hb2.mono hb1.size)⟩
  · go_enter Try.func21, Try.ntmps21
    go_wp2_with (at_builtin; refine wpList_append_O rfl _ _ _ _ rfl elemB w.heap.size _ _ rfl (Own.nil _ _ _) _ rfl _ _ (hr1.src sliceB) ?c3 ?c4 ?c5 ?_)
    case c3 => rw [HL.out]; simp [maxLen]; omega
    case c4 => rw [HL.out]; simp; omega
    case c5 => exact Nat.le_refl _
    rintro v1 w1 ho1 hb1 - - -
    go_wp2_with fail
    refine (ZZDecimalRoundUp_any v1 e us n w1 (by simpa using ho1.rd) Hf.out he).mono ?_
    rintro _ w2 ⟨_, rfl, v2, rfl, r2, hb2⟩
    go_wp2
    go_ret2
    exact ⟨_, rfl, v2, rfl, r2, hb1.trans (hb2.mono hb1.size)⟩

theorem ri_take {w : World} {v : Value} {us : List UInt8} (h : RI .u8 w v (intsOf us)) {n : Nat} (hn : n ≤ us.length) : RI .u8 w (subS v 0 n) (intsOf (us.take n)) := by
  have := h.sub (l := 0) (n := n) (Nat.zero_le _) (by rw [intsOf_length]; exact hn)
  simpa [intsOf, List.map_take] using this

set_option maxRecDepth 100000 in
set_option maxHeartbeats 800000 in
theorem cut_any (v : Value) (e : Int) (us : List UInt8) (w : World) (hr : RI .u8 w v (intsOf us)) (hl : us.length ≤ 1000000) :
    Calls Try.prog 20 #[v, .int .i64 e] w fun e' w' => ∃ v, e' = .returned v ∧ ZPost w (us.take (trIdx us us.length)) (zexp (trIdx us us.length) e) v w' := by
  obtain ⟨t, ht⟩ : ∃ t, t = trIdx us us.length := ⟨_, rfl⟩
  rw [← ht]
  have Ht := Lib.hid ht
  have Hr := Lib.hid hr
  clear ht hr
  obtain ⟨n, hn⟩ : ∃ n, n = us.length := ⟨_, rfl⟩
  rw [← hn] at hl
  have Hn := Lib.hid hn
  clear hn
  go_enter Try.func20, Try.ntmps20
  go_wp2
  go_loop [0] (fun u => ∃ k : Nat, k ≤ n ∧ RI .u8 w u (intsOf (us.take k)) ∧ t = trIdx us k) (fun u => sLen u)
  case atStart =>
    refine ⟨n, Nat.le_refl _, ?_, by rw [Ht.out, Hn.out]⟩
    rw [List.take_of_length_le (by rw [Hn.out]; exact Nat.le_refl _)]; exact Hr.out
  case round =>
    obtain ⟨k, hk, hu, htk⟩ := hrel
    have hS := hu.isS
    have hL : sLen u0 = k := by have := hu.len; rw [intsOf_length] at this; simp at this; have := Hn.out; omega
    have hC := hS.le
    have hC' : k ≤ sCap u0 := by omega
    have hln := Hn.out
    have Hln := Lib.hid hln
    have Hu := Lib.hid hu
    have Htk := Lib.hid htk
    clear hC htk hu hln
    by_cases hk0 : k = 0
    · subst hk0
      have ht0 : t = 0 := by rw [Htk.out]; rfl
      have Ht0 := Lib.hid ht0
      clear ht0
      go_wp2
      go_ret2
      refine ⟨_, rfl, u0, ?_, ?_, Below.refl _ _⟩
      · rw [zexp, if_pos Ht0.out]; rfl
      · rw [Ht0.out]; exact Hu.out
    · have hk1 : k - 1 < us.length := by have := Hln.out; omega
      have c := rb_cell Hu.out (k - 1) (by simp; have := Hln.out; omega)
      rw [show (us.take k).getD (k - 1) 0 = us.getD (k - 1) 0 by simp [List.getD_eq_getElem?_getD, show k - 1 < k by omega]] at c
      obtain ⟨d, hd⟩ : ∃ d, d = (us.getD (k - 1) 0).toNat := ⟨_, rfl⟩
      rw [← hd] at c
      have Hd := Lib.hid hd
      have hk0' : ((k : Int) == 0) = false := by rw [beq_eq_false_iff_ne]; omega
      have r' := ri_take Hu.out (n := k - 1) (by simp; have := Hln.out; omega)
      rw [List.take_take, show min (k - 1) k = k - 1 by omega] at r'
      have Hr' := Lib.hid r'
      clear hd r'
      by_cases hz : d = 48
      · have hz' : ((d : Int) == 48) = true := by rw [beq_iff_eq]; omega
        go_wp2
        go_round
        case rel =>
          refine ⟨k - 1, by omega, Hr'.out, ?_⟩
          rw [Htk.out]
          conv => lhs; rw [show k = (k - 1) + 1 by omega]
          unfold trIdx
          rw [if_pos (UInt8.toNat_inj.1 (by rw [← Hd.out]; exact hz))]
          cases k - 1 <;> rfl
        case measure =>
          show sLen (subS u0 0 (k - 1)) < sLen u0
          rw [subS_len hS, hL]; omega
      · have hz' : ((d : Int) == 48) = false := by rw [beq_eq_false_iff_ne]; omega
        have htk : t = k := by
          rw [Htk.out]
          conv => lhs; rw [show k = (k - 1) + 1 by omega]
          unfold trIdx
          rw [if_neg (fun hh => hz (by rw [Hd.out, hh]; rfl))]
          omega
        have Htk' := Lib.hid htk
        clear htk
        go_wp2
        go_ret2
        refine ⟨_, rfl, u0, ?_, ?_, Below.refl _ _⟩
        · rw [zexp, if_neg (by have := Htk'.out; omega)]; rfl
        · rw [Htk'.out]; exact Hu.out

set_option maxRecDepth 100000 in
set_option maxHeartbeats 800000 in
theorem more_any (v : Value) (e : Int) (us : List UInt8) (n : Nat) (w : World) (hr : RI .u8 w v (intsOf us)) (hn : n ≤ us.length) (hl : us.length ≤ 1000000) (hd9 : ∀ i, (us.getD i 0).toNat ≤ 57) (he : -1000000000000 ≤ e ∧ e ≤ 1000000000000) :
    Calls Try.prog 22 #[v, .int .i64 e, .int .i64 n] w fun e' w' => ∃ v, e' = .returned v ∧ ZPost w (ruMant us n) (ruExp us n e) v w' := by
  unfold ruMant ruExp
  obtain ⟨t, ht⟩ : ∃ t, t = upIdx us n := ⟨_, rfl⟩
  rw [← ht]
  have Ht := Lib.hid ht
  have hS := hr.isS
  have hL := hr.len
  have hC := hS.le
  rw [intsOf_length] at hL
  have hC' : us.length ≤ sCap v := by omega
  have Hr := Lib.hid hr
  have Hd9 := Lib.hid hd9
  clear ht hr hd9 hC
  go_enter Try.func22, Try.ntmps22
  go_wp2
  go_loop [2] (fun i => ∃ k : Nat, k ≤ n ∧ i = .int .i64 k ∧ t = upIdx us k) (fun i => (intOf i).toNat)
  case atStart => exact ⟨n, Nat.le_refl _, rfl, Ht.out⟩
  case round =>
    obtain ⟨k, hk, rfl, htk⟩ := hrel
    have Htk := Lib.hid htk
    clear htk
    by_cases hk0 : k = 0
    · subst hk0
      have ht0 : t = 0 := by rw [Htk.out]; rfl
      have Ht0 := Lib.hid ht0
      clear ht0
      go_wp2
      go_ret2
      refine ⟨_, rfl, .slice (some ⟨w.heap.size, 0, none⟩) 1 1, ?_, ?_, (Below.refl _ _).alloc (Nat.le_refl _) _⟩
      · rw [upExp, if_pos Ht0.out]; rfl
      · rw [upMant, if_pos Ht0.out]
        refine ⟨IsS.mk (Nat.le_refl _), rfl, fun i hi => ?_⟩
        have hi0 : i = 0 := by simpa [intsOf] using hi
        subst hi0
        simp [intsOf]
    · have c := rb_cell Hr.out (k - 1) (by omega)
      obtain ⟨d, hd⟩ : ∃ d, d = us.getD (k - 1) 0 := ⟨_, rfl⟩
      have hdle : d.toNat ≤ 57 := by rw [hd]; exact Hd9.out (k - 1)
      rw [← hd] at c
      have Hd := Lib.hid hd
      clear hd
      obtain ⟨dn, hdn⟩ : ∃ dn, dn = d.toNat := ⟨_, rfl⟩
      rw [← hdn] at c hdle
      have Hdn := Lib.hid hdn
      clear hdn
      by_cases hz : dn = 57
      · have hz' : ((dn : Int) == 57) = true := by rw [beq_iff_eq]; omega
        go_wp2
        go_round
        case rel =>
          refine ⟨k - 1, by omega, by go_num, ?_⟩
          rw [Htk.out]
          conv => lhs; rw [show k = (k - 1) + 1 by omega]
          unfold upIdx
          rw [if_pos (by rw [← Hd.out, ← Hdn.out]; omega)]
          cases k - 1 <;> rfl
        case measure => simp [intOf]; omega
      · have hz' : ((dn : Int) == 57) = false := by rw [beq_eq_false_iff_ne]; omega
        have htk : t = k := by
          rw [Htk.out]
          conv => lhs; rw [show k = (k - 1) + 1 by omega]
          unfold upIdx
          rw [if_neg (by rw [← Hd.out, ← Hdn.out]; omega)]
          omega
        have Ht0 := Lib.hid htk
        have hk0' : ((k : Int) == 0) = false := by rw [beq_eq_false_iff_ne]; omega
        have rt := ri_take Hr.out (n := k) (by omega)
        have hll : (intsOf (us.take k)).length = k := by rw [intsOf_length]; simp; omega
        have Hll := Lib.hid hll
        clear htk hll
        have r1 : RI .u8 (w.alloc (.cells #[] 5)) (subS v 0 k) (intsOf (us.take k)) := rt.below ((Below.refl _ _).alloc (Nat.le_refl _) _)
        have hst := subS_isS hS (Nat.zero_le k) (show k ≤ sCap v by omega)
        clear rt
        go_wp2_with (at_builtin; refine wpList_append_O rfl _ _ _ _ rfl elemB w.heap.size _ _ rfl (Own.zero _ _ _ _ _) _ rfl _ _ (r1.src sliceB) ?c3 ?c4 ?c5 ?_)
        case c3 => simp [Hll.out, maxLen]; omega
        case c4 => simp [Hll.out]; omega
        rintro v1 w1 ho1 hb1 - - -
        rw [← bys_eq] at ho1
        have hb2 := ((Below.refl w.heap.size w).alloc (Nat.le_refl _) _).trans hb1
        have hs1 := ho1.isS
        have hl1 : sLen v1 = k := by rw [ho1.len, bys_length]; simp; omega
        have hcp := hs1.le
        have hc1 : k ≤ sCap v1 := by omega
        have hbB := (ho1.lt (by omega)).1
        have c1 : w1.cell? ⟨sBlk v1, sOff v1 + (k - 1), none⟩ = some (.int .u8 dn) := ho1.cell (by
          simp [bys, List.getElem?_take, show k - 1 < k by omega]
          rw [Hdn.out, Hd.out, List.getD_eq_getElem?_getD]
          have : k - 1 < us.length := by omega
          simp [List.getElem?_eq_getElem this])
        have fz := ho1.frozen (by omega) (sOff v1 + (k - 1))
        have hs2 := ho1.set (i := k - 1) (by rw [bys_length]; simp; omega) (.int .u8 ((d + 1).toNat : Nat))
        rw [bys_set] at hs2
        have hdv : (d + 1).toNat = dn + 1 := by rw [UInt8.toNat_add, ← Hdn.out]; simp; omega
        rw [show (((d + 1).toNat : Nat) : Int) = (dn : Int) + 1 by omega] at hs2
        have Hs2 := Lib.hid hs2
        clear hs2 ho1 hdv hcp
        go_wp2
        go_ret2
        refine ⟨_, rfl, v1, ?_, ?_, bset hb2 hbB⟩
        · rw [upExp, if_neg (by have := Ht0.out; omega)]; rfl
        · rw [upMant, if_neg (by have := Ht0.out; omega), Ht0.out, ← Hd.out]
          have := Hs2.out
          rw [bys_eq] at this
          exact this.rd
end Go.Proofs.Ytedmkbpfmddafaa
