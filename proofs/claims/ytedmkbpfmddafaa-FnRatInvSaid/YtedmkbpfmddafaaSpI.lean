/-
Natural numbers of the reference: DivMod, Gcd. No condition.
-/
import Derived.Test.YtedmkbpfmddafaaSpH
namespace Go.Proofs.Ytedmkbpfmddafaa
open Go.RowKit

/-- What DivMod answers. -/
def DMPost (x y : Nat) (w : World) (v : Value) (w' : World) : Prop := ∃ q r, v = .tuple #[q, r] ∧ NatV w' q (x / y) ∧ NatV w' r (x % y) ∧ Below w.heap.size w w'
/-- DivMod's relation. -/
def DvRel (x y B : Nat) (w : World) (i : Int) (a q : Value) (wr : World) : Prop := ∃ m k : Nat, NatV wr a m ∧ NatV wr q k ∧ k * y + m = x ∧ m < y * 2 ^ (i + 1).toNat ∧ Below B w wr
theorem bl_mul_two {y : Nat} (hy : 0 < y) (i : Nat) : bl (y * 2 ^ i) = i + bl y := by
  refine bl_shift hy ?_
  rw [Nat.mul_mod_left]; grind
theorem dv_start {x y : Nat} (hy : 0 < y) : x < y * 2 ^ (((bl x : Nat) : Int) - (bl y : Nat) + 1).toNat := by
  have h1 := lt_bl x
  have h2 := bl_ge hy
  have h3 := bl_pos hy
  by_cases h : bl y ≤ bl x
  · rw [show (((bl x : Nat) : Int) - (bl y : Nat) + 1).toNat = bl x - bl y + 1 by omega]
    refine Nat.lt_of_lt_of_le h1 ?_
    have : 2 ^ bl x = 2 ^ (bl y - 1) * 2 ^ (bl x - bl y + 1) := by rw [← Nat.pow_add]; congr 1; omega
    rw [this]
    exact Nat.mul_le_mul_right _ h2
  · rw [show (((bl x : Nat) : Int) - (bl y : Nat) + 1).toNat = 0 by omega, Nat.pow_zero, Nat.mul_one]
    exact Nat.lt_of_lt_of_le h1 (Nat.le_trans (Nat.pow_le_pow_right (by decide) (by omega)) h2)
set_option maxRecDepth 100000 in
set_option maxHeartbeats 1600000 in
theorem spDivMod (a b : Value) (x y : Nat) (w : World) (ha : NatV w a x) (hb : NatV w b y) (hx : nl x ≤ 1000000000) (hy : nl y ≤ 1000000000) (hy0 : 0 < y) :
    Calls Try.prog 25 #[a, b] w fun e w' => ∃ v, e = .returned v ∧ DMPost x y w v w' := by
  have hSa := ha.isS
  have hSb := hb.isS
  have hLa := ha.len
  have hLb := hb.len
  have Ha := Lib.hid ha
  have Hb := Lib.hid hb
  clear ha hb
  have hny := nl_pos hy0
  by_cases h1 : nl y = 1
  · have c := Hb.out.cell 0 (by omega)
    have hd : dig y 0 = y := by
      rw [dig_zero_eq]
      have := lt_nl y
      rw [h1] at this
      omega
    have hyl : y < 65536 := by have := dig_lt y 0; omega
    rw [hd, Nat.add_zero] at c
    rw [h1] at hLb
    clear h1 hd hny hy
    have hyl4 := nl_le4 (n := x % y) (by have := Nat.mod_lt x hy0; omega)
    go_enter Try.func25, Try.ntmps25
    go_wp2_with fail
    refine (spByDigit a x y w Ha.out hx hy0 hyl).mono ?_
    rintro _ w1 ⟨q, rfl, hq, hb1⟩
    have Hq := Lib.hid hq
    clear hq
    go_wp2_with fail
    refine (spSmall (x % y) w1 (by have := Nat.mod_lt x hy0; omega)).mono ?_
    rintro _ w2 ⟨r, rfl, hr, hb2⟩
    have Hr := Lib.hid hr
    clear hr
    go_wp2
    go_ret2
    exact ⟨_, rfl, q, r, rfl, Hq.out.below hb2, Hr.out, bthen hb1 hb2⟩
  · have hz : ((nl y : Int) == 1) = false := by rw [beq_eq_false_iff_ne]; omega
    have hbx := bl_nl x
    have hby := bl_nl y
    have hst := dv_start (x := x) hy0
    have Hst := Lib.hid hst
    have hbp := bl_pos hy0
    clear hst h1
    obtain ⟨lb, hlb⟩ : ∃ lb, lb = nl y := ⟨_, rfl⟩
    rw [← hlb] at hLb hny hz hy hby
    have Hlb := Lib.hid hlb
    clear hlb
    go_enter Try.func25, Try.ntmps25
    go_wp2_with fail
    refine (spLen a x _ (Ha.out.below ((Below.refl _ _).alloc (Nat.le_refl _) _)) hx).mono ?_
    rintro _ _ ⟨rfl, rfl⟩
    go_wp2_with fail
    refine (spLen b y _ (Hb.out.below ((Below.refl _ _).alloc (Nat.le_refl _) _)) (by rw [← Hlb.out]; exact hy)).mono ?_
    rintro _ _ ⟨rfl, rfl⟩
    obtain ⟨bx, hbx'⟩ : ∃ bx, bx = bl x := ⟨_, rfl⟩
    obtain ⟨by', hby'⟩ : ∃ by', by' = bl y := ⟨_, rfl⟩
    rw [← hbx', ← hby'] at Hst
    rw [← hbx'] at hbx ⊢
    rw [← hby'] at hby hbp ⊢
    have Hbx := Lib.hid hbx'
    have Hby := Lib.hid hby'
    clear hbx' hby'
    go_wp2
    go_loopw [0, 8, 9] (fun u q i wr => ∃ ii : Int, -17000000000 ≤ ii ∧ ii ≤ (bx : Int) - by' ∧ i = .int .i64 ii ∧ DvRel x y w.heap.size w ii u q wr) (fun _ _ i _ => (intOf i + 1).toNat)
    case atStart =>
      refine ⟨(bx : Int) - by', by omega, Int.le_refl _, by go_num, x, 0, Ha.out.below ((Below.refl _ _).alloc (Nat.le_refl _) _), NatV.zero (IsS.mk (Nat.le_refl _)) rfl, by omega, Hst.out, (Below.refl _ _).alloc (Nat.le_refl _) _⟩
    case round =>
      clear Hst
      obtain ⟨ii, hi1, hi2, rfl, m, k, hm, hk, hv, hlt, hbl⟩ := hrel
      have hSu := hm.isS
      have hSq := hk.isS
      have Hm := Lib.hid hm
      have Hk := Lib.hid hk
      have Hv := Lib.hid hv
      have Hlt := Lib.hid hlt
      have hmx : m ≤ x := by omega
      have hkx : k ≤ x := by
        have : k * 1 ≤ k * y := Nat.mul_le_mul_left _ hy0
        omega
      have hnm := nl_mono hmx
      have hnk := nl_mono hkx
      clear hm hk hv hlt hmx hkx
      by_cases hi0 : 0 ≤ ii
      · obtain ⟨i, rfl⟩ : ∃ i : Nat, ii = (i : Int) := ⟨ii.toNat, by omega⟩
        have t1 : decide ((0:Int) ≤ (i : Int)) = true := by rw [decide_eq_true_iff]; omega
        have hs1 : nl (y * 2 ^ i) ≤ nl x := by
          refine nl_bl ?_
          rw [bl_mul_two hy0, ← Hby.out]
          omega
        have hs2 : nl (2 ^ i) ≤ nl x := by
          rw [nl_two]
          omega
        go_wp2_with fail
        refine (spShl b y i wr (Hb.out.below hbl) (by rw [← Hlb.out]; exact hy) (by omega)).mono ?_
        rintro _ w2 ⟨d, rfl, hd, hb2⟩
        have Hd := Lib.hid hd
        clear hd
        go_wp2_with fail
        refine (spCmp d u0 _ m w2 Hd.out (Hm.out.below hb2) (by omega) (by omega)).mono ?_
        rintro _ w3 ⟨rfl, hb3⟩
        have cb := cmpN_bd (y * 2 ^ i) m
        have cl := cmpN_le (y * 2 ^ i) m
        obtain ⟨c, hc⟩ : ∃ c, c = cmpN (y * 2 ^ i) m := ⟨_, rfl⟩
        rw [← hc] at cb cl ⊢
        obtain ⟨cb1, cb2⟩ := cb
        have Cl := Lib.hid cl
        have hlt2 := Hlt.out
        rw [show ((i : Int) + 1).toNat = i + 1 by omega, Nat.pow_succ] at hlt2
        have Hlt2 := Lib.hid hlt2
        clear cl hc hlt2
        have hb23 := bthen hb2 hb3
        by_cases hc0 : c ≤ 0
        · have t2 : decide (c ≤ 0) = true := by rw [decide_eq_true_iff]; exact hc0
          have hle := Cl.out.1 hc0
          go_wp2_with fail
          refine (spSub u0 d m _ w3 (Hm.out.below hb23) (Hd.out.below hb3) (by omega) hle).mono ?_
          rintro _ w4 ⟨r4, rfl, h4, hb4⟩
          have H4 := Lib.hid h4
          have Hle := Lib.hid hle
          clear h4 hle
          go_wp2_with fail
          refine (spBit i w4 (by omega)).mono ?_
          rintro _ w5 ⟨r5, rfl, h5, hb5⟩
          have H5 := Lib.hid h5
          clear h5
          go_wp2_with fail
          have hb45 := bthen (bthen hb23 hb4) hb5
          refine (spAdd u8 r5 k _ w5 (Hk.out.below hb45) H5.out (by omega) (by omega)).mono ?_
          rintro _ w6 ⟨r6, rfl, h6, hb6⟩
          have H6 := Lib.hid h6
          clear h6
          go_wp2
          refine ⟨⟨(i : Int) - 1, by omega, by omega, by go_num, m - y * 2 ^ i, k + 2 ^ i, H4.out.below (bthen hb5 hb6), H6.out, ?_, ?_, hbl.trans ((bthen hb45 hb6).mono hbl.size)⟩, by simp [intOf]⟩
          · have := Hv.out; have := Hle.out
            rw [Nat.add_mul, Nat.mul_comm (2 ^ i) y]; omega
          · rw [show ((i : Int) - 1 + 1).toNat = i by omega]
            have := Hlt2.out; have := Hle.out
            generalize 2 ^ i = P at *
            rw [show y * (P * 2) = y * P + y * P by grind] at *
            omega
        · have t2 : decide (c ≤ 0) = false := by rw [decide_eq_false_iff_not]; exact hc0
          have hgt : ¬ y * 2 ^ i ≤ m := fun h => hc0 (Cl.out.2 h)
          have Hgt := Lib.hid hgt
          clear hgt
          go_wp2
          refine ⟨⟨(i : Int) - 1, by omega, by omega, by go_num, m, k, Hm.out.below hb23, Hk.out.below hb23, Hv.out, ?_, hbl.trans (hb23.mono hbl.size)⟩, by simp [intOf]⟩
          rw [show ((i : Int) - 1 + 1).toNat = i by omega]
          have := Hgt.out
          omega
      · have t1 : decide ((0:Int) ≤ ii) = false := by rw [decide_eq_false_iff_not]; exact hi0
        go_wp2
        go_ret2
        have e1 := Hv.out
        have e2 := Hlt.out
        rw [show (ii + 1).toNat = 0 by omega, Nat.pow_zero, Nat.mul_one] at e2
        have e3 : x / y = k := by rw [← e1, Nat.mul_comm k y, Nat.mul_add_div hy0, Nat.div_eq_of_lt e2]; rfl
        have e4 : x % y = m := by rw [← e1, Nat.mul_comm k y, Nat.mul_add_mod, Nat.mod_eq_of_lt e2]
        exact ⟨_, rfl, _, _, rfl, by rw [e3]; exact Hk.out, by rw [e4]; exact Hm.out, hbl⟩
end Go.Proofs.Ytedmkbpfmddafaa
