/-
Decimals: trim, roundDown, roundUp. No condition.
-/
import Derived.Test.YtedmkbpfmddafaaDecD
namespace Go.Proofs.Ytedmkbpfmddafaa
open Go.RowKit

/-- A decimal in memory from block B on. -/
structure DObj (w : World) (B b : Nat) (v : Value) (e : Int) (us : List UInt8) : Prop where
  hb : B ≤ b
  obj : w.heap[b]? = some (.cells #[v, .int .i64 e] 103 (0, 0))
  own : Own w B 5 v (bys us)
  ne : sCap v ≠ 0 → sBlk v ≠ b

theorem DObj.mant {w : World} {B b : Nat} {v : Value} {e : Int} {us : List UInt8} (h : DObj w B b v e us) : w.cell? ⟨b, 0, none⟩ = some v := by
  rw [cell_of_row w b 0 _ _ _ h.obj]; rfl
theorem DObj.exp {w : World} {B b : Nat} {v : Value} {e : Int} {us : List UInt8} (h : DObj w B b v e us) : w.cell? ⟨b, 1, none⟩ = some (.int .i64 e) := by
  rw [cell_of_row w b 1 _ _ _ h.obj]; rfl
theorem DObj.fz {w : World} {B b : Nat} {v : Value} {e : Int} {us : List UInt8} (h : DObj w B b v e us) (i : Nat) : w.frozen? ⟨b, i, none⟩ = false := frozen_of_row w b i _ _ h.obj
theorem DObj.rd {w : World} {B b : Nat} {v : Value} {e : Int} {us : List UInt8} (h : DObj w B b v e us) : RI .u8 w v (intsOf us) := by
  have := h.own; rw [bys_eq] at this; exact this.rd
/-- A field is stored. -/
theorem DObj.setM {w : World} {B b : Nat} {v v' : Value} {e : Int} {us us' : List UInt8} (h : DObj w B b v e us) (ho : Own w B 5 v' (bys us')) (hn : sCap v' ≠ 0 → sBlk v' ≠ b) :
    DObj (w.setCell ⟨b, 0, none⟩ v') B b v' e us' :=
  ⟨h.hb, by rw [heap_setCell_same w b 0 _ _ v' h.obj]; rfl, ho.same fun hc => heap_setCell_other w ⟨b, 0, none⟩ _ v' (hn (by omega)), hn⟩
theorem DObj.setE {w : World} {B b : Nat} {v : Value} {e e' : Int} {us : List UInt8} (h : DObj w B b v e us) :
    DObj (w.setCell ⟨b, 1, none⟩ (.int .i64 e')) B b v e' us :=
  ⟨h.hb, by rw [heap_setCell_same w b 1 _ _ _ h.obj]; rfl, h.own.same fun hc => heap_setCell_other w ⟨b, 1, none⟩ _ _ (h.ne (by omega)), h.ne⟩

/-- What a method on a decimal leaves. -/
def DPost (B b : Nat) (w : World) (us : List UInt8) (e : Int) (v : Value) (w' : World) : Prop := v = .tuple #[] ∧ (∃ v', DObj w' B b v' e us) ∧ Below B w w'
def zexp (i : Nat) (e : Int) : Int := if i = 0 then 0 else e
/-- Where the noughts at the end begin. -/
def trIdx (us : List UInt8) : Nat → Nat
  | 0 => 0
  | n + 1 => if us.getD n 0 = 48 then trIdx us n else n + 1
theorem trIdx_le (us : List UInt8) : ∀ n, trIdx us n ≤ n
  | 0 => Nat.le_refl _
  | n + 1 => by unfold trIdx; split; have := trIdx_le us n; omega; omega

theorem trIdx_take' {us : List UInt8} {n : Nat} : ∀ k, k ≤ n → trIdx (us.take n) k = trIdx us k
  | 0, _ => rfl
  | k + 1, h => by
    unfold trIdx
    rw [show (us.take n).getD k 0 = us.getD k 0 by simp [List.getD_eq_getElem?_getD, show k < n by omega], trIdx_take' k (by omega)]
theorem trIdx_take {us : List UInt8} {n : Nat} (h : n < us.length) : trIdx (us.take n) (us.take n).length = trIdx us n := by
  rw [show (us.take n).length = n by simp; omega]; exact trIdx_take' n (Nat.le_refl _)
theorem sub_take {us : List UInt8} {n : Nat} : (bys us).take n = bys (us.take n) := by simp [bys, List.map_take]

set_option maxRecDepth 100000 in
set_option maxHeartbeats 400000 in
theorem trim_any (B b : Nat) (v : Value) (e : Int) (us : List UInt8) (w : World) (h : DObj w B b v e us) (hl : us.length ≤ 1000000) :
    Calls Try.prog 94 #[.pointer (some ⟨b, 0, none⟩)] w fun e' w' => ∃ v, e' = .returned v ∧
      DPost B b w (us.take (trIdx us us.length)) (zexp (trIdx us us.length) e) v w' := by
  have hm := h.mant
  have he := h.exp
  have f0 := h.fz 0
  have f1 := h.fz 1
  have hr := h.rd
  have hS := hr.isS
  have hL := hr.len
  have hC := hS.le
  rw [intsOf_length] at hL
  have hC' : us.length ≤ sCap v := by omega
  clear hC
  have Hc := Lib.hid (rb_cell hr)
  clear hr
  obtain ⟨t, ht⟩ : ∃ t, t = trIdx us us.length := ⟨_, rfl⟩
  rw [← ht]
  have Ht := Lib.hid ht
  clear ht
  have H := Lib.hid h
  clear h
  obtain ⟨n, hn⟩ : ∃ n, n = us.length := ⟨_, rfl⟩
  rw [← hn] at hL hC' hl
  have Hn := Lib.hid hn
  clear hn
  go_enter Try.func94, Try.ntmps94
  go_wp2
  go_loop [2] (fun i => ∃ k : Nat, k ≤ n ∧ i = .int .i64 k ∧ t = trIdx us k) (fun i => (intOf i).toNat)
  case atStart => exact ⟨n, Nat.le_refl _, rfl, by rw [Ht.out, Hn.out]⟩
  case round =>
    obtain ⟨k, hk, rfl, htk⟩ := hrel
    have Htk := Lib.hid htk
    clear htk
    have fin : ∀ k, k ≤ n → t = k → DObj (w.setCell ⟨b, 0, none⟩ (subS v 0 k)) B b (subS v 0 k) e (us.take t) := fun k hkn htk => by
      have hu := Hn.out
      refine H.out.setM ?_ ?_
      · have := H.out.own.sub (l := 0) (n := k) (Nat.zero_le _) (by rw [bys_length]; omega)
        rw [List.drop_zero, sub_take] at this
        rw [htk]; exact this
      · rw [subS_cap H.out.own.isS, subS_blk H.out.own.isS]
        exact fun hc => H.out.ne (by omega)
    have Fin := Lib.hid fin
    clear fin
    by_cases hk0 : k = 0
    · subst hk0
      have ht0 : t = 0 := by rw [Htk.out]; rfl
      have D := Fin.out 0 (by omega) ht0
      have D' := D.setE (e' := 0)
      have hS0 := D.own.isS
      have g1 := D.exp
      have g2 := D.fz 1
      have HD := Lib.hid D'
      have Ht0 := Lib.hid ht0
      clear D D' ht0
      go_wp2
      go_end0
      refine ⟨_, rfl, rfl, ⟨subS v 0 0, ?_⟩, bset (bset (Below.refl _ _) H.out.hb) H.out.hb⟩
      rw [zexp, if_pos Ht0.out]; exact HD.out
    · have c := Hc.out (k - 1) (by rw [← Hn.out]; omega)
      obtain ⟨d, hd⟩ : ∃ d, d = (us.getD (k - 1) 0).toNat := ⟨_, rfl⟩
      rw [← hd] at c
      have Hd := Lib.hid hd
      clear hd
      by_cases hz : d = 48
      · have hz' : ((d : Int) == 48) = true := by rw [beq_iff_eq]; omega
        go_wp2
        go_round
        case rel =>
          refine ⟨k - 1, by omega, by go_num, ?_⟩
          rw [Htk.out]
          conv => lhs; rw [show k = (k - 1) + 1 by omega]
          unfold trIdx
          rw [if_pos (UInt8.toNat_inj.1 (by rw [← Hd.out]; exact hz))]
          cases k - 1 <;> rfl
        case measure => simp [intOf]; omega
      · have hz' : ((d : Int) == 48) = false := by rw [beq_eq_false_iff_ne]; omega
        have htk : t = k := by
          rw [Htk.out]
          conv => lhs; rw [show k = (k - 1) + 1 by omega]
          unfold trIdx
          rw [if_neg (fun hh => hz (by rw [Hd.out, hh]; rfl))]
          omega
        have D := Fin.out k hk htk
        have hS0 := D.own.isS
        have HD := Lib.hid D
        have Ht0 := Lib.hid (show ¬ t = 0 by omega)
        clear D htk
        have hk0' : ((k : Int) == 0) = false := by rw [beq_eq_false_iff_ne]; omega
        go_wp2
        go_end0
        refine ⟨_, rfl, rfl, ⟨subS v 0 k, ?_⟩, bset (Below.refl _ _) H.out.hb⟩
        rw [zexp, if_neg Ht0.out]; exact HD.out

set_option maxRecDepth 100000 in
set_option maxHeartbeats 400000 in
/-- roundDown at a number of figures that is too great. -/
theorem roundDown_no (B b : Nat) (v : Value) (e : Int) (us : List UInt8) (n : Int) (w : World) (h : DObj w B b v e us) (hn : n < 0 ∨ us.length ≤ n) :
    Calls Try.prog 71 #[.pointer (some ⟨b, 0, none⟩), .int .i64 n] w fun e' w' => ∃ v, e' = .returned v ∧ DPost B b w us e v w' := by
  have hm := h.mant
  have hr := h.rd
  have hS := hr.isS
  have hL := hr.len
  rw [intsOf_length] at hL
  clear hr
  have H := Lib.hid h
  clear h
  by_cases h1 : n < 0
  · go_enter Try.func71, Try.ntmps71
    go_wp2
    exact bodyPost_ret (results_none rfl _ _ _) rfl ⟨_, rfl, rfl, ⟨_, H.out⟩, Below.refl _ _⟩
  · have h2 : decide (us.length ≤ n) = true := by simp; omega
    have h1' : decide (n < 0) = false := by simpa using h1
    go_enter Try.func71, Try.ntmps71
    go_wp2
    exact bodyPost_ret (results_none rfl _ _ _) rfl ⟨_, rfl, rfl, ⟨_, H.out⟩, Below.refl _ _⟩

set_option maxRecDepth 100000 in
set_option maxHeartbeats 400000 in
theorem roundDown_yes (B b : Nat) (v : Value) (e : Int) (us : List UInt8) (n : Nat) (w : World) (h : DObj w B b v e us) (hn : n < us.length) (hl : us.length ≤ 1000000) :
    Calls Try.prog 71 #[.pointer (some ⟨b, 0, none⟩), .int .i64 n] w fun e' w' => ∃ v, e' = .returned v ∧
      DPost B b w (us.take (trIdx us n)) (zexp (trIdx us n) e) v w' := by
  have hm := h.mant
  have f0 := h.fz 0
  have hr := h.rd
  have hS := hr.isS
  have hL := hr.len
  have hC := hS.le
  rw [intsOf_length] at hL
  have hC' : n ≤ sCap v := by omega
  have hS0 : IsS (subS v 0 n) := subS_isS hS (Nat.zero_le _) hC'
  have D : DObj (w.setCell ⟨b, 0, none⟩ (subS v 0 n)) B b (subS v 0 n) e (us.take n) := by
    refine h.setM ?_ ?_
    · have := h.own.sub (l := 0) (n := n) (Nat.zero_le _) (by rw [bys_length]; omega)
      rw [List.drop_zero, sub_take] at this
      exact this
    · rw [subS_cap hS, subS_blk hS]
      exact fun hc => h.ne (by omega)
  clear hC hr
  have h1' : decide ((n : Int) < 0) = false := by simp
  have h2 : decide ((us.length : Int) ≤ n) = false := by simp; omega
  have hB := h.hb
  have HD := Lib.hid D
  clear D h
  go_enter Try.func71, Try.ntmps71
  go_wp2_with fail
  refine (trim_any B b _ e (us.take n) _ HD.out (by simp; omega)).mono ?_
  rintro _ w1 ⟨_, rfl, rfl, hd, hb⟩
  go_wp2
  go_end0
  refine ⟨_, rfl, rfl, ?_, ((Below.refl _ _).setCell hB _).trans hb⟩
  rw [trIdx_take hn] at hd
  rw [List.take_take, show min (trIdx us n) n = trIdx us n from Nat.min_eq_left (trIdx_le us n)] at hd
  exact hd

/-- Where the figures 9 at the end of the first n begin. -/
def upIdx (us : List UInt8) : Nat → Nat
  | 0 => 0
  | n + 1 => if 57 ≤ (us.getD n 0).toNat then upIdx us n else n + 1
theorem upIdx_le (us : List UInt8) : ∀ n, upIdx us n ≤ n
  | 0 => Nat.le_refl _
  | n + 1 => by unfold upIdx; split; have := upIdx_le us n; omega; omega
def upMant (us : List UInt8) (m : Nat) : List UInt8 := if m = 0 then [49] else (us.take m).set (m - 1) (us.getD (m - 1) 0 + 1)
def upExp (m : Nat) (e : Int) : Int := if m = 0 then e + 1 else e
theorem bys_set (us : List UInt8) (i : Nat) (d : UInt8) : (bys us).set i (.int .u8 d.toNat) = bys (us.set i d) := by simp [bys, List.map_set]
theorem set_take_one {us : List UInt8} (h : 0 < us.length) (d : UInt8) : (us.set 0 d).take 1 = [d] := by
  cases us with
  | nil => simp at h
  | cons a l => rfl

/-- A figure is stored, then the mantissa is cut. -/
theorem DObj.setFig {w : World} {B b : Nat} {v : Value} {e : Int} {us : List UInt8} (h : DObj w B b v e us) {i m : Nat} (hi : i < us.length) (hm : m ≤ us.length) (d : UInt8) :
    DObj ((w.setCell ⟨sBlk v, sOff v + i, none⟩ (.int .u8 d.toNat)).setCell ⟨b, 0, none⟩ (subS v 0 m)) B b (subS v 0 m) e ((us.set i d).take m) := by
  have hL := h.rd.len
  rw [intsOf_length] at hL
  have hC := h.own.isS.le
  have ho := h.own.set (i := i) (by rw [bys_length]; exact hi) (.int .u8 d.toNat)
  rw [bys_set] at ho
  have h1 : DObj (w.setCell ⟨sBlk v, sOff v + i, none⟩ (.int .u8 d.toNat)) B b v e (us.set i d) :=
    ⟨h.hb, by rw [heap_setCell_other w _ _ _ (by simp only; exact (h.ne (by omega)).symm)]; exact h.obj, ho, h.ne⟩
  refine h1.setM ?_ ?_
  · have := ho.sub (l := 0) (n := m) (Nat.zero_le _) (by rw [bys_length]; simpa using hm)
    rw [List.drop_zero, sub_take] at this
    exact this
  · rw [subS_cap ho.isS, subS_blk ho.isS]
    exact fun hc => h.ne (by omega)

set_option maxRecDepth 100000 in
set_option maxHeartbeats 400000 in
/-- roundUp at a number of figures that is too great. -/
theorem roundUp_no (B b : Nat) (v : Value) (e : Int) (us : List UInt8) (n : Int) (w : World) (h : DObj w B b v e us) (hn : n < 0 ∨ us.length ≤ n) :
    Calls Try.prog 72 #[.pointer (some ⟨b, 0, none⟩), .int .i64 n] w fun e' w' => ∃ v, e' = .returned v ∧ DPost B b w us e v w' := by
  have hm := h.mant
  have hr := h.rd
  have hS := hr.isS
  have hL := hr.len
  rw [intsOf_length] at hL
  clear hr
  have H := Lib.hid h
  clear h
  by_cases h1 : n < 0
  · go_enter Try.func72, Try.ntmps72
    go_wp2
    exact bodyPost_ret (results_none rfl _ _ _) rfl ⟨_, rfl, rfl, ⟨_, H.out⟩, Below.refl _ _⟩
  · have h2 : decide (us.length ≤ n) = true := by simp; omega
    have h1' : decide (n < 0) = false := by simpa using h1
    go_enter Try.func72, Try.ntmps72
    go_wp2
    exact bodyPost_ret (results_none rfl _ _ _) rfl ⟨_, rfl, rfl, ⟨_, H.out⟩, Below.refl _ _⟩

set_option maxRecDepth 100000 in
set_option maxHeartbeats 800000 in
theorem roundUp_yes (B b : Nat) (v : Value) (e : Int) (us : List UInt8) (n : Nat) (w : World) (h : DObj w B b v e us) (hn : n < us.length) (hl : us.length ≤ 1000000) (he : -1000000000000 ≤ e ∧ e ≤ 1000000000000) (hd9 : ∀ i, (us.getD i 0).toNat ≤ 57) :
    Calls Try.prog 72 #[.pointer (some ⟨b, 0, none⟩), .int .i64 n] w fun e' w' => ∃ v, e' = .returned v ∧
      DPost B b w (upMant us (upIdx us n)) (upExp (upIdx us n) e) v w' := by
  have hm := h.mant
  have hex := h.exp
  have f0 := h.fz 0
  have f1 := h.fz 1
  have hr := h.rd
  have hS := hr.isS
  have hL := hr.len
  have hC := hS.le
  rw [intsOf_length] at hL
  have hC' : us.length ≤ sCap v := by omega
  clear hC
  have hne := h.ne (by omega)
  have fr := fun i => h.own.frozen (by omega) (sOff v + i)
  have Hc := Lib.hid (rb_cell hr)
  clear hr
  have H := Lib.hid h
  clear h
  have hB := H.out.hb
  have hBv := (H.out.own.lt (by omega)).1
  have h1' : decide ((n : Int) < 0) = false := by simp
  have h2 : decide ((us.length : Int) ≤ n) = false := by simp; omega
  obtain ⟨t, ht⟩ : ∃ t, t = upIdx us n := ⟨_, rfl⟩
  rw [← ht]
  have Ht := Lib.hid ht
  clear ht
  have Fr := Lib.hid fr
  have Hd9 := Lib.hid hd9
  clear fr hd9
  go_enter Try.func72, Try.ntmps72
  go_wp2
  go_loop [1] (fun i => ∃ k : Nat, k ≤ n ∧ i = .int .i64 k ∧ t = upIdx us k) (fun i => (intOf i).toNat)
  case atStart => exact ⟨n, Nat.le_refl _, rfl, Ht.out⟩
  case round =>
    obtain ⟨k, hk, rfl, htk⟩ := hrel
    have Htk := Lib.hid htk
    clear htk
    by_cases hk0 : k = 0
    · subst hk0
      have ht0 : t = 0 := by rw [Htk.out]; rfl
      have D := H.out.setFig (i := 0) (m := 1) (by omega) (by omega) 49
      rw [set_take_one (by omega)] at D
      have hS0 := D.own.isS
      have D' := D.setE (e' := e + 1)
      have c0 := Hc.out 0 (by omega)
      have fz0 := Fr.out 0
      rw [Nat.add_zero] at c0 fz0
      have g0 : (w.setCell ⟨sBlk v, sOff v, none⟩ (.int .u8 49)).cell? ⟨b, 0, none⟩ = some v := by
        rw [cell_other hne]; exact hm
      have HD := Lib.hid D'
      have g1 := D.exp
      have g2 := D.fz 1
      have Ht0 := Lib.hid ht0
      clear D D' ht0
      rw [Nat.add_zero] at g1 g2
      go_wp2
      refine bodyPost_ret (results_none rfl _ _ _) rfl ⟨_, rfl, rfl, ⟨subS v 0 1, ?_⟩, bset (bset (bset (Below.refl _ _) hBv) hB) hB⟩
      rw [upMant, upExp, if_pos Ht0.out, if_pos Ht0.out]
      exact HD.out
    · have c := Hc.out (k - 1) (by omega)
      obtain ⟨d, hd⟩ : ∃ d, d = us.getD (k - 1) 0 := ⟨_, rfl⟩
      have hdle : d.toNat ≤ 57 := by rw [hd]; exact Hd9.out (k - 1)
      rw [← hd] at c
      have Hd := Lib.hid hd
      clear hd
      obtain ⟨dn, hdn⟩ : ∃ dn, dn = d.toNat := ⟨_, rfl⟩
      rw [← hdn] at c hdle
      have Hdn := Lib.hid hdn
      clear hdn
      by_cases hz : 57 ≤ dn
      · go_wp2
        go_round
        case rel =>
          refine ⟨k - 1, by omega, by go_num, ?_⟩
          rw [Htk.out]
          conv => lhs; rw [show k = (k - 1) + 1 by omega]
          unfold upIdx
          rw [if_pos (by rw [← Hd.out, ← Hdn.out]; exact hz)]
          cases k - 1 <;> rfl
        case measure => simp [intOf]; omega
      · have htk : t = k := by
          rw [Htk.out]
          conv => lhs; rw [show k = (k - 1) + 1 by omega]
          unfold upIdx
          rw [if_neg (by rw [← Hd.out, ← Hdn.out]; exact hz)]
          omega
        have D := H.out.setFig (i := k - 1) (m := k) (by omega) (by omega) (d + 1)
        have hdv : (d + 1).toNat = dn + 1 := by rw [UInt8.toNat_add, ← Hdn.out]; simp; omega
        rw [show (((d + 1).toNat : Nat) : Int) = (dn : Int) + 1 by omega] at D
        have hS0 := D.own.isS
        have fz0 := Fr.out (k - 1)
        have g0 : (w.setCell ⟨sBlk v, sOff v + (k - 1), none⟩ (.int .u8 ((dn : Int) + 1))).cell? ⟨b, 0, none⟩ = some v := by
          rw [cell_other hne]; exact hm
        have HD := Lib.hid D
        have Ht0 := Lib.hid htk
        have hk0' : ((k : Int) == 0) = false := by rw [beq_eq_false_iff_ne]; omega
        clear D htk hdv
        go_wp2
        refine bodyPost_end (results_none rfl _ _ _) rfl ⟨_, rfl, rfl, ⟨subS v 0 k, ?_⟩, bset (bset (Below.refl _ _) hBv) hB⟩
        have hkz : ¬ t = 0 := by have := Ht0.out; omega
        rw [upMant, upExp, if_neg hkz, if_neg hkz, Ht0.out, ← Hd.out, ← List.take_set]
        exact HD.out

theorem ret_bool {a b : Bool} (h : a = b) : Ending.returned (.bool a) = Ending.returned (.bool b) := by rw [h]
theorem dec_cast (d : Nat) : decide ((53 : Int) ≤ d) = decide (53 ≤ d) := by
  by_cases h : 53 ≤ d
  · rw [decide_eq_true h, decide_eq_true (by omega)]
  · rw [decide_eq_false h, decide_eq_false (by omega)]
/-- Is a decimal rounded up where it is cut behind n figures? -/
def shouldUp (us : List UInt8) (n : Nat) : Bool :=
  if us.getD n 0 = 53 ∧ n + 1 = us.length then decide (0 < n) && decide ((us.getD (n - 1) 0).toNat % 2 = 1) else decide (53 ≤ (us.getD n 0).toNat)

set_option maxRecDepth 100000 in
set_option maxHeartbeats 800000 in
theorem shouldRoundUp_any (B b : Nat) (v : Value) (e : Int) (us : List UInt8) (n : Nat) (w : World) (h : DObj w B b v e us) (hn : n < us.length) (hl : us.length ≤ 1000000) (hd9 : ∀ i, i < us.length → 48 ≤ (us.getD i 0).toNat ∧ (us.getD i 0).toNat ≤ 57) :
    Calls Try.prog 95 #[.pointer (some ⟨b, 0, none⟩), .int .i64 n] w fun e' w' => e' = .returned (.bool (shouldUp us n)) ∧ w = w' := by
  have hm := h.mant
  have hr := h.rd
  have hS := hr.isS
  have hL := hr.len
  rw [intsOf_length] at hL
  have hc := rb_cell hr
  have c := hc n hn
  obtain ⟨d, hd⟩ : ∃ d, d = (us.getD n 0).toNat := ⟨_, rfl⟩
  have Hc := Lib.hid hc
  clear hc
  have e1 : us.getD n 0 = 53 ↔ d = 53 := by rw [hd]; exact ⟨fun h => by rw [h]; rfl, fun h => UInt8.toNat_inj.1 h⟩
  rw [← hd] at c
  have E1 := Lib.hid e1
  have Hd := Lib.hid hd
  have Hd9 := Lib.hid hd9
  clear hd e1 hr h hd9
  by_cases h1 : d = 53
  · have h1' : ((d : Int) == 53) = true := by rw [beq_iff_eq]; omega
    by_cases h2 : n + 1 = us.length
    · have h2' : ((n : Int) + 1 == us.length) = true := by rw [beq_iff_eq]; omega
      by_cases h3 : n = 0
      · have h3' : decide (0 < n) = false := by rw [decide_eq_false_iff_not]; omega
        have hs : shouldUp us n = false := by
          rw [shouldUp, if_pos ⟨E1.out.2 h1, h2⟩, h3]; rfl
        rw [hs]
        clear h1 h2 h3 hs
        go_enter Try.func95, Try.ntmps95
        go_wp2
        go_ret
        exact ⟨rfl, rfl⟩
      · have h3' : decide ((0 : Int) < n) = true := by simp; omega
        have c1 := Hc.out (n - 1) (by omega)
        have hb := Hd9.out (n - 1) (by omega)
        have hs : shouldUp us n = decide ((us.getD (n - 1) 0).toNat % 2 = 1) := by
          rw [shouldUp, if_pos ⟨E1.out.2 h1, h2⟩, show decide (0 < n) = true by simp; omega]; rfl
        obtain ⟨f, hf⟩ : ∃ f, f = (us.getD (n - 1) 0).toNat := ⟨_, rfl⟩
        rw [← hf] at c1 hs hb
        rw [hs]
        obtain ⟨hb1, hb2⟩ := hb
        clear h1 h2 hs hf
        go_enter Try.func95, Try.ntmps95
        go_wp2
        go_ret
        refine ⟨ret_bool ?_, rfl⟩
        obtain ⟨g, rfl⟩ : ∃ g, f = g + 48 := ⟨f - 48, by omega⟩
        have hg : g < 10 := by omega
        rw [show (((g + 48 : Nat) : Int) - 48) = (g : Int) by omega]
        exact (by decide : ∀ g : Fin 10, (bits BinOp.and IntKind.u8 ((g.val : Nat) : Int) 1 != 0) = decide ((g.val + 48) % 2 = 1)) ⟨g, hg⟩
    · have h2' : ((n : Int) + 1 == us.length) = false := by rw [beq_eq_false_iff_ne]; omega
      have hs : shouldUp us n = decide (53 ≤ d) := by
        rw [shouldUp, if_neg (fun h => h2 h.2), ← Hd.out]
      rw [hs]
      clear h1 h2 hs
      go_enter Try.func95, Try.ntmps95
      go_wp2
      go_ret
      exact ⟨ret_bool (dec_cast d), rfl⟩
  · have h1' : ((d : Int) == 53) = false := by rw [beq_eq_false_iff_ne]; omega
    have hs : shouldUp us n = decide (53 ≤ d) := by
      rw [shouldUp, if_neg (fun h => h1 (E1.out.1 h.1)), ← Hd.out]
    rw [hs]
    clear h1 hs
    go_enter Try.func95, Try.ntmps95
    go_wp2
    go_ret
    exact ⟨ret_bool (dec_cast d), rfl⟩
end Go.Proofs.Ytedmkbpfmddafaa
