/-
Texts of this proof, joined: SpI SpJ WdA RoA RnA FcA FcB RgB. No condition.
-/
import Derived.Test.YtoddjkpckpekcaaGreatDoorK02
import Derived.Laws.Bits64b
import Derived.ProofKit
import Derived.OpenShut
import Derived.ChangeOld
import Derived.WalkKit
import Derived.Laws.FloatArith
import Derived.Laws.BitsAllLaws
import Derived.Laws.Externs
namespace Go.Proofs.YtoddjkpckpekcaaGreatDoor
open Go.RowKit

def DMPost (x y : Nat) (w : World) (v : Value) (w' : World) : Prop := ∃ q r, v = .tuple #[q, r] ∧ NatV w' q (x / y) ∧ NatV w' r (x % y) ∧ Below w.heap.size w w'
def DvRel (x y B : Nat) (w : World) (i : Int) (a q : Value) (wr : World) : Prop := ∃ m k : Nat, NatV wr a m ∧ NatV wr q k ∧ k * y + m = x ∧ m < y * 2 ^ (i + 1).toNat ∧ Below B w wr
theorem bl_mul_two {y : Nat} (hy : 0 < y) (i : Nat) : bl (y * 2 ^ i) = i + bl y := by
  refine bl_shift hy ?_
  rw [Nat.mul_mod_left]; grind
theorem dv_start {x y : Nat} (hy : 0 < y) : x < y * 2 ^ (((bl x : Nat) : Int) - (bl y : Nat) + 1).toNat := by
  have h1 := lt_bl x
  have h2 := bl_ge hy
  have h3 := bl_pos hy
  by_cases h : bl y ≤ bl x
  · rw [show (((bl x : Nat) : Int) - (bl y : Nat) + 1).toNat = bl x - bl y + 1 by omega]
    refine Nat.lt_of_lt_of_le h1 ?_
    have : 2 ^ bl x = 2 ^ (bl y - 1) * 2 ^ (bl x - bl y + 1) := by rw [← Nat.pow_add]; congr 1; omega
    rw [this]
    exact Nat.mul_le_mul_right _ h2
  · rw [show (((bl x : Nat) : Int) - (bl y : Nat) + 1).toNat = 0 by omega, Nat.pow_zero, Nat.mul_one]
    exact Nat.lt_of_lt_of_le h1 (Nat.le_trans (Nat.pow_le_pow_right (by decide) (by omega)) h2)
set_option maxRecDepth 100000 in
set_option maxHeartbeats 1600000 in
theorem spDivMod (a b : Value) (x y : Nat) (w : World) (ha : NatV w a x) (hb : NatV w b y) (hx : nl x ≤ 1000000000) (hy : nl y ≤ 1000000000) (hy0 : 0 < y) :
    Calls Tryz.prog 70 #[a, b] w fun e w' => ∃ v, e = .returned v ∧ DMPost x y w v w' := by
  have hSa := ha.isS
  have hSb := hb.isS
  have hLa := ha.len
  have hLb := hb.len
  have Ha := Lib.hid ha
  have Hb := Lib.hid hb
  clear ha hb
  have hny := nl_pos hy0
  by_cases h1 : nl y = 1
  · have c := Hb.out.cell 0 (by omega)
    have hd : dig y 0 = y := by
      rw [dig_zero_eq]
      have := lt_nl y
      rw [h1] at this
      omega
    have hyl : y < 65536 := by have := dig_lt y 0; omega
    rw [hd, Nat.add_zero] at c
    rw [h1] at hLb
    clear h1 hd hny hy
    have hyl4 := nl_le4 (n := x % y) (by have := Nat.mod_lt x hy0; omega)
    go_enter Tryz.func70, Tryz.ntmps70
    go_wp2_with fail
    refine (spByDigit a x y w Ha.out hx hy0 hyl).mono ?_
    rintro _ w1 ⟨q, rfl, hq, hb1⟩
    have Hq := Lib.hid hq
    clear hq
    go_wp2_with fail
    refine (spSmall (x % y) w1 (by have := Nat.mod_lt x hy0; omega)).mono ?_
    rintro _ w2 ⟨r, rfl, hr, hb2⟩
    have Hr := Lib.hid hr
    clear hr
    go_wp2
    go_ret2
    exact ⟨_, rfl, q, r, rfl, Hq.out.below hb2, Hr.out, bthen hb1 hb2⟩
  · have hz : ((nl y : Int) == 1) = false := by rw [beq_eq_false_iff_ne]; omega
    have hbx := bl_nl x
    have hby := bl_nl y
    have hst := dv_start (x := x) hy0
    have Hst := Lib.hid hst
    have hbp := bl_pos hy0
    clear hst h1
    obtain ⟨lb, hlb⟩ : ∃ lb, lb = nl y := ⟨_, rfl⟩
    rw [← hlb] at hLb hny hz hy hby
    have Hlb := Lib.hid hlb
    clear hlb
    go_enter Tryz.func70, Tryz.ntmps70
    go_wp2_with fail
    refine (spLen a x _ (Ha.out.below ((Below.refl _ _).alloc (Nat.le_refl _) _)) hx).mono ?_
    rintro _ _ ⟨rfl, rfl⟩
    go_wp2_with fail
    refine (spLen b y _ (Hb.out.below ((Below.refl _ _).alloc (Nat.le_refl _) _)) (by rw [← Hlb.out]; exact hy)).mono ?_
    rintro _ _ ⟨rfl, rfl⟩
    obtain ⟨bx, hbx'⟩ : ∃ bx, bx = bl x := ⟨_, rfl⟩
    obtain ⟨by', hby'⟩ : ∃ by', by' = bl y := ⟨_, rfl⟩
    rw [← hbx', ← hby'] at Hst
    rw [← hbx'] at hbx ⊢
    rw [← hby'] at hby hbp ⊢
    have Hbx := Lib.hid hbx'
    have Hby := Lib.hid hby'
    clear hbx' hby'
    go_wp2
    go_loopw [0, 8, 9] (fun u q i wr => ∃ ii : Int, -17000000000 ≤ ii ∧ ii ≤ (bx : Int) - by' ∧ i = .int .i64 ii ∧ DvRel x y w.heap.size w ii u q wr) (fun _ _ i _ => (intOf i + 1).toNat)
    case atStart =>
      refine ⟨(bx : Int) - by', by omega, Int.le_refl _, by go_num, x, 0, Ha.out.below ((Below.refl _ _).alloc (Nat.le_refl _) _), NatV.zero (IsS.mk (Nat.le_refl _)) rfl, by omega, Hst.out, (Below.refl _ _).alloc (Nat.le_refl _) _⟩
    case round =>
      clear Hst
      obtain ⟨ii, hi1, hi2, rfl, m, k, hm, hk, hv, hlt, hbl⟩ := hrel
      have hSu := hm.isS
      have hSq := hk.isS
      have Hm := Lib.hid hm
      have Hk := Lib.hid hk
      have Hv := Lib.hid hv
      have Hlt := Lib.hid hlt
      have hmx : m ≤ x := by omega
      have hkx : k ≤ x := by
        have : k * 1 ≤ k * y := Nat.mul_le_mul_left _ hy0
        omega
      have hnm := nl_mono hmx
      have hnk := nl_mono hkx
      clear hm hk hv hlt hmx hkx
      by_cases hi0 : 0 ≤ ii
      · obtain ⟨i, rfl⟩ : ∃ i : Nat, ii = (i : Int) := ⟨ii.toNat, by omega⟩
        have t1 : decide ((0:Int) ≤ (i : Int)) = true := by rw [decide_eq_true_iff]; omega
        have hs1 : nl (y * 2 ^ i) ≤ nl x := by
          refine nl_bl ?_
          rw [bl_mul_two hy0, ← Hby.out]
          omega
        have hs2 : nl (2 ^ i) ≤ nl x := by
          rw [nl_two]
          omega
        go_wp2_with fail
        refine (spShl b y i wr (Hb.out.below hbl) (by rw [← Hlb.out]; exact hy) (by omega)).mono ?_
        rintro _ w2 ⟨d, rfl, hd, hb2⟩
        have Hd := Lib.hid hd
        clear hd
        go_wp2_with fail
        refine (spCmp d u0 _ m w2 Hd.out (Hm.out.below hb2) (by omega) (by omega)).mono ?_
        rintro _ w3 ⟨rfl, hb3⟩
        have cb := cmpN_bd (y * 2 ^ i) m
        have cl := cmpN_le (y * 2 ^ i) m
        obtain ⟨c, hc⟩ : ∃ c, c = cmpN (y * 2 ^ i) m := ⟨_, rfl⟩
        rw [← hc] at cb cl ⊢
        obtain ⟨cb1, cb2⟩ := cb
        have Cl := Lib.hid cl
        have hlt2 := Hlt.out
        rw [show ((i : Int) + 1).toNat = i + 1 by omega, Nat.pow_succ] at hlt2
        have Hlt2 := Lib.hid hlt2
        clear cl hc hlt2
        have hb23 := bthen hb2 hb3
        by_cases hc0 : c ≤ 0
        · have t2 : decide (c ≤ 0) = true := by rw [decide_eq_true_iff]; exact hc0
          have hle := Cl.out.1 hc0
          go_wp2_with fail
          refine (spSub u0 d m _ w3 (Hm.out.below hb23) (Hd.out.below hb3) (by omega) hle).mono ?_
          rintro _ w4 ⟨r4, rfl, h4, hb4⟩
          have H4 := Lib.hid h4
          have Hle := Lib.hid hle
          clear h4 hle
          go_wp2_with fail
          refine (spBit i w4 (by omega)).mono ?_
          rintro _ w5 ⟨r5, rfl, h5, hb5⟩
          have H5 := Lib.hid h5
          clear h5
          go_wp2_with fail
          have hb45 := bthen (bthen hb23 hb4) hb5
          refine (spAdd u8 r5 k _ w5 (Hk.out.below hb45) H5.out (by omega) (by omega)).mono ?_
          rintro _ w6 ⟨r6, rfl, h6, hb6⟩
          have H6 := Lib.hid h6
          clear h6
          go_wp2
          refine ⟨⟨(i : Int) - 1, by omega, by omega, by go_num, m - y * 2 ^ i, k + 2 ^ i, H4.out.below (bthen hb5 hb6), H6.out, ?_, ?_, hbl.trans ((bthen hb45 hb6).mono hbl.size)⟩, by simp [intOf]⟩
          · have := Hv.out; have := Hle.out
            rw [Nat.add_mul, Nat.mul_comm (2 ^ i) y]; omega
          · rw [show ((i : Int) - 1 + 1).toNat = i by omega]
            have := Hlt2.out; have := Hle.out
            generalize 2 ^ i = P at *
            rw [show y * (P * 2) = y * P + y * P by grind] at *
            omega
        · have t2 : decide (c ≤ 0) = false := by rw [decide_eq_false_iff_not]; exact hc0
          have hgt : ¬ y * 2 ^ i ≤ m := fun h => hc0 (Cl.out.2 h)
          have Hgt := Lib.hid hgt
          clear hgt
          go_wp2
          refine ⟨⟨(i : Int) - 1, by omega, by omega, by go_num, m, k, Hm.out.below hb23, Hk.out.below hb23, Hv.out, ?_, hbl.trans (hb23.mono hbl.size)⟩, by simp [intOf]⟩
          rw [show ((i : Int) - 1 + 1).toNat = i by omega]
          have := Hgt.out
          omega
      · have t1 : decide ((0:Int) ≤ ii) = false := by rw [decide_eq_false_iff_not]; exact hi0
        go_wp2
        go_ret2
        have e1 := Hv.out
        have e2 := Hlt.out
        rw [show (ii + 1).toNat = 0 by omega, Nat.pow_zero, Nat.mul_one] at e2
        have e3 : x / y = k := by rw [← e1, Nat.mul_comm k y, Nat.mul_add_div hy0, Nat.div_eq_of_lt e2]; rfl
        have e4 : x % y = m := by rw [← e1, Nat.mul_comm k y, Nat.mul_add_mod, Nat.mod_eq_of_lt e2]
        exact ⟨_, rfl, _, _, rfl, by rw [e3]; exact Hk.out, by rw [e4]; exact Hm.out, hbl⟩
theorem NatV.uniq {w : World} {v : Value} {m n : Nat} (h : NatV w v m) (h' : NatV w v n) : m = n := by
  have hl : nl m = nl n := h.len.symm.trans h'.len
  have hd : digs m = digs n := by
    unfold digs
    rw [hl]
    refine List.map_congr_left fun i hi => ?_
    have hi := List.mem_range.1 hi
    have h1 := h.cell i (by omega)
    rw [h'.cell i hi] at h1
    simp at h1
    omega
  rw [← val_digs m, hd, val_digs]
open Classical in
noncomputable def natIn (w : World) (v : Value) : Nat := if h : ∃ n, NatV w v n then h.choose else 0
theorem natIn_of {w : World} {v : Value} {n : Nat} (h : NatV w v n) : natIn w v = n := by
  unfold natIn
  rw [dif_pos ⟨n, h⟩]
  exact NatV.uniq (Exists.choose_spec (⟨n, h⟩ : ∃ n, NatV w v n)) h
set_option maxRecDepth 100000 in
set_option maxHeartbeats 800000 in
theorem spGcd (a b : Value) (x y : Nat) (w : World) (ha : NatV w a x) (hb : NatV w b y) (hx : nl x ≤ 1000000000) (hy : nl y ≤ 1000000000) :
    Calls Tryz.prog 51 #[a, b] w fun e w' => ∃ r, e = .returned r ∧ NPost (Nat.gcd x y) w r w' := by
  have hSa := ha.isS
  have hSb := hb.isS
  have Ha := Lib.hid ha
  have Hb := Lib.hid hb
  clear ha hb
  go_enter Tryz.func51, Tryz.ntmps51
  go_wp2
  go_loopw [0, 1] (fun u v wr => ∃ m n : Nat, nl m ≤ 1000000000 ∧ nl n ≤ 1000000000 ∧ NatV wr u m ∧ NatV wr v n ∧ Nat.gcd m n = Nat.gcd x y ∧ Below w.heap.size w wr) (fun _ v wr => natIn wr v)
  case atStart => exact ⟨x, y, hx, hy, Ha.out, Hb.out, rfl, Below.refl _ _⟩
  case round =>
    obtain ⟨m, n, hm, hn, hu, hv, hg, hbl⟩ := hrel
    have hSu := hu.isS
    have hSv := hv.isS
    have hLv := hv.len
    have Hu := Lib.hid hu
    have Hv := Lib.hid hv
    have Hg := Lib.hid hg
    clear hu hv hg
    by_cases h0 : n = 0
    · subst h0
      rw [nl_zero] at hLv
      go_wp2
      go_ret
      refine ⟨_, rfl, ?_, hbl⟩
      rw [← Hg.out, Nat.gcd_zero_right]
      exact Hu.out
    · have hpos : 0 < nl n := nl_pos (by omega)
      have t1 : decide (0 < nl n) = true := by rw [decide_eq_true_iff]; exact hpos
      go_wp2_with fail
      refine (spDivMod _ _ m n wr Hu.out Hv.out hm hn (by omega)).mono ?_
      rintro _ w1 ⟨_, rfl, q, r, rfl, hq, hr, hb1⟩
      have Hr := Lib.hid hr
      have Hv1 := Lib.hid (Hv.out.below hb1)
      have hlt := Nat.mod_lt m (show 0 < n by omega)
      have hnr := nl_mono (Nat.le_of_lt hlt)
      have Hlt := Lib.hid hlt
      clear hq hr hlt
      go_wp2
      refine ⟨⟨n, m % n, hn, by omega, Hv1.out, Hr.out, ?_, hbl.trans (hb1.mono hbl.size)⟩, ?_⟩
      · rw [← Hg.out, Nat.gcd_comm n, ← Nat.gcd_rec, Nat.gcd_comm]
      · rw [natIn_of Hr.out, natIn_of Hv.out]; exact Hlt.out
def wdg (n i : Nat) : Nat := n / 18446744073709551616 ^ i % 18446744073709551616
def nw (n : Nat) : Nat := (nl n + 3) / 4
def wv : List Nat → Nat
  | [] => 0
  | d :: ds => d + 18446744073709551616 * wv ds
def wds (n : Nat) : List Nat := (List.range (nw n)).map (wdg n)
theorem wpow (i : Nat) : (18446744073709551616 : Nat) ^ i = 65536 ^ (4 * i) := by rw [Nat.pow_mul]
theorem wpow_pos (i : Nat) : 0 < 18446744073709551616 ^ i := Nat.pow_pos (by decide)
theorem wdg_lt (n i : Nat) : wdg n i < 18446744073709551616 := Nat.mod_lt _ (by decide)
theorem wmod_succ (n i : Nat) : n % 18446744073709551616 ^ (i + 1) = n % 18446744073709551616 ^ i + 18446744073709551616 ^ i * wdg n i := Nat.mod_pow_succ
theorem lt_nw (n : Nat) : n < 18446744073709551616 ^ nw n := by
  rw [wpow]
  exact Nat.lt_of_lt_of_le (lt_nl n) (Nat.pow_le_pow_right (by decide) (by unfold nw; omega))
theorem nw_le {n k : Nat} (h : n < 18446744073709551616 ^ k) : nw n ≤ k := by
  rw [wpow] at h
  have := nl_le h
  unfold nw; omega
theorem nw_zero : nw 0 = 0 := rfl
theorem nw_pos {n : Nat} (h : 0 < n) : 0 < nw n := by have := nl_pos h; unfold nw; omega
theorem nw_eq_zero {n : Nat} : nw n = 0 ↔ n = 0 := ⟨fun h => by rcases Nat.eq_zero_or_pos n with h' | h'; exact h'; have := nw_pos h'; omega, fun h => by rw [h]; rfl⟩
theorem nw_ge {n : Nat} (h : 0 < n) : 18446744073709551616 ^ (nw n - 1) ≤ n := by
  rw [wpow]
  refine Nat.le_trans (Nat.pow_le_pow_right (by decide) ?_) (nl_ge h)
  have := nl_pos h
  unfold nw; omega
theorem nw_mono {a b : Nat} (h : a ≤ b) : nw a ≤ nw b := nw_le (Nat.lt_of_le_of_lt h (lt_nw b))
theorem wmod_nw {n i : Nat} (h : nw n ≤ i) : n % 18446744073709551616 ^ i = n :=
  Nat.mod_eq_of_lt (Nat.lt_of_lt_of_le (lt_nw n) (Nat.pow_le_pow_right (by decide) h))
theorem wdg_ge {n i : Nat} (h : nw n ≤ i) : wdg n i = 0 := by
  unfold wdg
  rw [Nat.div_eq_of_lt (Nat.lt_of_lt_of_le (lt_nw n) (Nat.pow_le_pow_right (by decide) h))]
theorem wdg_last {n : Nat} (h : 0 < n) : wdg n (nw n - 1) ≠ 0 := by
  intro h0
  have h1 := wmod_succ n (nw n - 1)
  have := nw_pos h
  rw [show nw n - 1 + 1 = nw n by omega, wmod_nw (Nat.le_refl _), h0, Nat.mul_zero, Nat.add_zero] at h1
  have h2 := nw_ge h
  have h3 := Nat.mod_lt n (wpow_pos (nw n - 1))
  omega
theorem wv_append (a b : List Nat) : wv (a ++ b) = wv a + 18446744073709551616 ^ a.length * wv b := by
  induction a with
  | nil => simp [wv]
  | cons d ds ih => simp only [List.cons_append, wv, ih, List.length_cons, Nat.pow_succ]; grind
theorem wv_snoc (a : List Nat) (d : Nat) : wv (a ++ [d]) = wv a + 18446744073709551616 ^ a.length * d := by rw [wv_append]; simp [wv]
theorem wv_lt {a : List Nat} (h : ∀ d ∈ a, d < 18446744073709551616) : wv a < 18446744073709551616 ^ a.length := by
  induction a with
  | nil => decide
  | cons d ds ih =>
    have h1 := ih fun x hx => h x (by simp [hx])
    have h2 := h d (by simp)
    simp only [wv, List.length_cons, Nat.pow_succ]
    omega
theorem wdg_zero_eq (n : Nat) : wdg n 0 = n % 18446744073709551616 := by simp [wdg]
theorem wdg_succ (n i : Nat) : wdg n (i + 1) = wdg (n / 18446744073709551616) i := by
  unfold wdg; rw [Nat.pow_succ, Nat.mul_comm, Nat.div_div_eq_div_mul]
theorem wv_dig {a : List Nat} (h : ∀ d ∈ a, d < 18446744073709551616) : ∀ i, wdg (wv a) i = a.getD i 0 := by
  induction a with
  | nil => intro i; simp [wv, wdg]
  | cons d ds ih =>
    have h2 := h d (by simp)
    intro i
    cases i with
    | zero => rw [wdg_zero_eq]; simp [wv]; omega
    | succ i =>
      rw [wdg_succ, show wv (d :: ds) / 18446744073709551616 = wv ds by simp only [wv]; omega, ih (fun x hx => h x (by simp [hx]))]
      simp
theorem wv_set {a : List Nat} : ∀ {i : Nat}, i < a.length → ∀ d, wv (a.set i d) + 18446744073709551616 ^ i * a.getD i 0 = wv a + 18446744073709551616 ^ i * d := by
  induction a with
  | nil => intro i h; simp at h
  | cons x xs ih =>
    intro i h d
    cases i with
    | zero => simp [wv]; omega
    | succ i =>
      have := ih (show i < xs.length by simpa using h) d
      simp only [List.set_cons_succ, wv, Nat.pow_succ]
      simp only [List.getD_eq_getElem?_getD, List.getElem?_cons_succ] at this ⊢
      grind
theorem wds_length (n : Nat) : (wds n).length = nw n := by simp [wds]
theorem wds_lt {n d : Nat} (h : d ∈ wds n) : d < 18446744073709551616 := by
  obtain ⟨i, _, rfl⟩ := List.mem_map.1 h; exact wdg_lt n i
theorem wv_range (n : Nat) : ∀ k, wv ((List.range k).map (wdg n)) = n % 18446744073709551616 ^ k
  | 0 => by simp [wv, Nat.mod_one]
  | k + 1 => by
    rw [List.range_succ, List.map_append, List.map_cons, List.map_nil, wv_snoc, wv_range n k, wmod_succ]
    simp
theorem wv_wds (n : Nat) : wv (wds n) = n := by rw [wds, wv_range, wmod_nw (Nat.le_refl _)]
theorem wds_getD (n i : Nat) : (wds n).getD i 0 = wdg n i := by
  by_cases h : i < nw n
  · simp [wds, List.getD_eq_getElem?_getD, h]
  · rw [wdg_ge (by omega), List.getD_eq_getElem?_getD, List.getElem?_eq_none (by rw [wds_length]; omega)]; rfl
theorem list_ext_getD {a b : List Nat} (hl : a.length = b.length) (h : ∀ i, a.getD i 0 = b.getD i 0) : a = b := by
  apply List.ext_getElem hl
  intro i h1 h2
  have := h i
  simpa [List.getD_eq_getElem?_getD, List.getElem?_eq_getElem h1, List.getElem?_eq_getElem h2] using this
theorem wds_of {a : List Nat} (h : ∀ d ∈ a, d < 18446744073709551616) (hl : a.length = nw (wv a)) : a = wds (wv a) :=
  list_ext_getD (by rw [wds_length]; exact hl) fun i => by rw [wds_getD, wv_dig h]
theorem wv_inj {a b : List Nat} (ha : ∀ d ∈ a, d < 18446744073709551616) (hb : ∀ d ∈ b, d < 18446744073709551616) (hl : a.length = b.length) (h : wv a = wv b) : a = b :=
  list_ext_getD hl fun i => by rw [← wv_dig ha, ← wv_dig hb, h]
theorem wds_norm {a : List Nat} (h : ∀ d ∈ a, d < 18446744073709551616) (hl : a = [] ∨ a.getD (a.length - 1) 0 ≠ 0) : a = wds (wv a) := by
  refine wds_of h ?_
  rcases hl with rfl | hl
  · rfl
  · have h1 := nw_le (wv_lt h)
    refine Nat.le_antisymm (Nat.le_of_not_lt fun hc => hl ?_) h1
    rw [← wv_dig h]
    exact wdg_ge (by omega)

def cellsW (ds : List Nat) : List Value := ds.map fun (d : Nat) => Value.int .u64 (d : Int)
theorem cellsW_length (ds : List Nat) : (cellsW ds).length = ds.length := by simp [cellsW]
theorem cellsW_eq (ds : List Nat) : cellsW ds = (ints ds).map (Value.int .u64) := by simp [cellsW, ints]
theorem cellsW_snoc (ds : List Nat) (d : Nat) : cellsW ds ++ [.int .u64 (d : Int)] = cellsW (ds ++ [d]) := by simp [cellsW]
theorem cellsW_set (os : List Nat) (i d : Nat) : (cellsW os).set i (.int .u64 (d : Int)) = cellsW (os.set i d) := by simp [cellsW, List.map_set]
theorem cellsW_append (a b : List Nat) : cellsW a ++ cellsW b = cellsW (a ++ b) := by simp [cellsW]
structure RW (w : World) (v : Value) (ds : List Nat) : Prop where
  ri : RI .u64 w v (ints ds)
  lt : ∀ d ∈ ds, d < 18446744073709551616
theorem RW.isS {w : World} {v : Value} {ds : List Nat} (h : RW w v ds) : IsS v := h.ri.isS
theorem RW.len {w : World} {v : Value} {ds : List Nat} (h : RW w v ds) : sLen v = ds.length := h.ri.len.trans (ints_length ds)
theorem RW.cell {w : World} {v : Value} {ds : List Nat} (h : RW w v ds) (i : Nat) (hi : i < ds.length) : w.cell? ⟨sBlk v, sOff v + i, none⟩ = some (.int .u64 ((ds.getD i 0 : Nat) : Int)) := by
  rw [h.ri.cell i (by rw [ints_length]; exact hi)]
  simp [ints, List.getD_eq_getElem?_getD, List.getElem?_eq_getElem hi]
theorem getD_ltW {os : List Nat} (h : ∀ d ∈ os, d < 18446744073709551616) (i : Nat) : os.getD i 0 < 18446744073709551616 := by
  by_cases hi : i < os.length
  · rw [List.getD_eq_getElem?_getD, List.getElem?_eq_getElem hi]; exact h _ (List.getElem_mem hi)
  · rw [List.getD_eq_getElem?_getD, List.getElem?_eq_none (by omega)]; decide
theorem RW.below {w w' : World} {v : Value} {ds : List Nat} (h : RW w v ds) (hb : Below w.heap.size w w') : RW w' v ds := ⟨h.ri.below hb, h.lt⟩
theorem RW.take {w : World} {v : Value} {ds : List Nat} (h : RW w v ds) {n : Nat} (hn : n ≤ ds.length) : RW w (subS v 0 n) (ds.take n) := by
  refine ⟨?_, fun d hd => h.lt d (List.mem_of_mem_take hd)⟩
  have := h.ri.sub (l := 0) (n := n) (Nat.zero_le _) (by rw [ints_length]; exact hn)
  simpa [ints, List.map_take] using this
theorem Own.rw' {w : World} {B e : Nat} {v : Value} {ds : List Nat} (h : Own w B e v (cellsW ds)) (hd : ∀ d ∈ ds, d < 18446744073709551616) : RW w v ds := by
  rw [cellsW_eq] at h; exact ⟨h.rd, hd⟩
theorem RW.src {w : World} {v : Value} {ds : List Nat} {tx e : TypeId} (h : RW w v ds) (hk : Tryz.prog.underlying tx = some (.slice e)) : Src Tryz.prog 1 tx v ds.length (cellsW ds) w := by
  rw [cellsW_eq, ← ints_length]; exact RI.src h.ri hk
theorem elemU : ElemT Tryz.prog 22 83 8 (.int .u64 0) := .of (z := .int .u64 0) Tryz.underlying22 rfl (by kernel_rfl)
theorem elemW : ElemT Tryz.prog 84 98 8 (.int .u64 0) := .of (z := .int .u64 0) Tryz.underlying84 rfl (by kernel_rfl)
theorem elemT : ElemT Tryz.prog 85 98 8 (.int .u64 0) := .of (z := .int .u64 0) Tryz.underlying85 rfl (by kernel_rfl)
end Go.Proofs.YtoddjkpckpekcaaGreatDoor
namespace Go.Proofs.YtoddjkpckpekcaaGreatDoor
open Go.ChangeShapes Go.WideShapes Go.ChangeAt Go.RowKit

theorem words_of {zs : List Int} (h : ∀ n ∈ zs, (Lit.int .u64 n).wf = true) : ∃ us : List Nat, zs = ints us ∧ ∀ d ∈ us, d < 18446744073709551616 := by
  have hb : ∀ n ∈ zs, 0 ≤ n ∧ n ≤ 18446744073709551615 := fun n hn => by simpa [Lit.wf, IntKind.min, IntKind.max, IntKind.signed, IntKind.bits] using h n hn
  refine ⟨zs.map Int.toNat, ?_, ?_⟩
  · simp only [ints, List.map_map]
    refine ((List.map_congr_left (g := id) fun n hn => ?_).trans (List.map_id zs)).symm
    have := hb n hn
    simp only [Function.comp, id]; omega
  · intro d hd
    obtain ⟨n, hn, rfl⟩ := List.mem_map.1 hd
    have := hb n hn
    omega
section
variable {H : Type} {enc : TypeId × Value → H} {W : World} {base : Nat} {held : Bool}
theorem open_words {v : Value} {fuel : Nat} {x : DataW H × List MemPlace} (h : DataW.trod enc Tryz.prog W base (fun _ => true) held fuel 22 [v] = some x) : ∃ ws, RW W v ws := by
  have key : ∃ a len cap zs, v = .slice a len cap ∧ ((a = none ∧ len = 0 ∧ cap = 0 ∧ zs = []) ∨ ∃ x, a = some x ∧ len ≤ cap ∧ cap ≤ maxLen ∧ zs.length = cap ∧ (∀ i, i < zs.length → W.cell? (x.add i) = some (.int .u64 (zs.getD i 0))) ∧ ∀ n ∈ zs, (Lit.int .u64 n).wf = true) := by
    rcases open_ints Tryz.underlying22 Tryz.underlying83 (by kernel_rfl) h with ⟨hcs, _⟩ | ⟨x, l, c, zs, hcs, _, hl, hm, hz, _, hcell, hwz⟩
    · simp at hcs; exact ⟨_, _, _, [], hcs, .inl ⟨rfl, rfl, rfl, rfl⟩⟩
    · simp at hcs
      exact ⟨_, _, _, zs, hcs, .inr ⟨_, rfl, hl, hm, by simpa using hz, hcell, hwz⟩⟩
  obtain ⟨a, len, cap, zs, rfl, hr⟩ := key
  obtain ⟨h1, h2, _, _⟩ := row_RI hr
  obtain ⟨us, hus, hd⟩ := words_of h2
  rw [hus] at h1
  exact ⟨us, h1, hd⟩
set_option maxRecDepth 100000 in
theorem open_number {cs : List Value} {fuel : Nat} {x : DataW H × List MemPlace} (h : DataW.trod enc Tryz.prog W base (fun _ => true) held fuel 24 cs = some x) : ∃ b v ws, cs = [.bool b, v] ∧ RW W v ws := by
  obtain ⟨y0, y1, n, rfl, hl, h0, h1⟩ := trod_struct2 Tryz.underlying24 h
  have hc : Tryz.prog.cellsOf 24 = 2 := by kernel_rfl
  rw [hc] at hl
  match cs, hl with
  | [c0, c1], _ =>
    obtain ⟨b', hb, _⟩ := DataW.trod_bool Tryz.underlying4 h0
    have e0 : c0 = .bool b' := by
      have := hb
      have hcb : Tryz.prog.cellsOf 4 = 1 := by kernel_rfl
      simpa [hcb] using this
    subst e0
    have hcs : Tryz.prog.cellsOf 22 = 1 := by kernel_rfl
    have h1' : DataW.trod enc Tryz.prog W base (fun _ => true) held n 22 [c1] = some y1 := by simpa [hcs] using h1
    obtain ⟨ws, hw⟩ := open_words h1'
    exact ⟨b', c1, ws, rfl, hw⟩
set_option maxRecDepth 100000 in
theorem open_fraction {v : Value} {r : Reach} {b0 : Nat} {d : DataW H} {p : List MemPlace} (hval : Value.okWide Tryz.prog W r b0 26 v) (h : DataW.Trod enc Tryz.prog W base (fun _ => true) held 26 v d p) :
    ∃ b v1 v2 ns ds, v = .agg #[.bool b, v1, v2] ∧ RW W v1 ns ∧ RW W v2 ds := by
  obtain ⟨cs, rfl, hsz⟩ := okWide_struct Tryz.underlying26 hval
  have hc : Tryz.prog.cellsOf 26 = 3 := by kernel_rfl
  rw [hc] at hsz
  obtain ⟨fuel, hf⟩ := h
  obtain ⟨y0, y1, n, _, hl, h0, h1⟩ := trod_struct2 Tryz.underlying26 hf
  match cs, hsz with
  | ⟨[c0, c1, c2]⟩, _ =>
    have hcn : Tryz.prog.cellsOf 24 = 2 := by kernel_rfl
    have hcs : Tryz.prog.cellsOf 22 = 1 := by kernel_rfl
    have h0' : DataW.trod enc Tryz.prog W base (fun _ => true) held n 24 [c0, c1] = some y0 := by simpa [hcn, Value.cells] using h0
    have h1' : DataW.trod enc Tryz.prog W base (fun _ => true) held n 22 [c2] = some y1 := by simpa [hcs, Value.cells] using h1
    obtain ⟨b, v, ws, e, hw⟩ := open_number h0'
    obtain ⟨ds, hd⟩ := open_words h1'
    simp at e
    obtain ⟨rfl, rfl⟩ := e
    exact ⟨b, _, _, ws, ds, rfl, hw, hd⟩
end
end Go.Proofs.YtoddjkpckpekcaaGreatDoor
namespace Go.Proofs.YtoddjkpckpekcaaGreatDoor
open Go.RowKit

def deq (M : Nat) (E : Int) (N : Nat) (F : Int) : Prop := ∃ i j : Nat, M * 2 ^ i = N * 2 ^ j ∧ E - i = F - j
theorem deq.refl (M : Nat) (E : Int) : deq M E M E := ⟨0, 0, rfl, rfl⟩
theorem deq.symm {M N : Nat} {E F : Int} (h : deq M E N F) : deq N F M E := by
  obtain ⟨i, j, h1, h2⟩ := h; exact ⟨j, i, h1.symm, h2.symm⟩
theorem deq.trans {M N K : Nat} {E F G : Int} (h : deq M E N F) (k : deq N F K G) : deq M E K G := by
  obtain ⟨i, j, h1, h2⟩ := h
  obtain ⟨a, b, k1, k2⟩ := k
  refine ⟨i + a, b + j, ?_, by omega⟩
  rw [Nat.pow_add, ← Nat.mul_assoc, h1, Nat.mul_assoc, Nat.mul_comm (2 ^ j), ← Nat.mul_assoc, k1, Nat.mul_assoc, ← Nat.pow_add]
theorem deq.pos {M N : Nat} {E F : Int} (h : deq M E N F) (hM : 0 < M) : 0 < N := by
  obtain ⟨i, j, h1, -⟩ := h
  have := Nat.mul_pos hM (Nat.two_pow_pos i)
  rw [h1] at this
  exact Nat.pos_of_mul_pos_right this
theorem bl_mul {x : Nat} (h : 0 < x) (n : Nat) : bl (x * 2 ^ n) = bl x + n := by
  have h1 := bl_ge h
  have h2 := lt_bl x
  have h3 := bl_pos h
  have e : bl x + n = (bl x - 1 + n) + 1 := by omega
  rw [e]
  refine bl_of ?_ ?_
  · rw [Nat.pow_add]; exact Nat.mul_le_mul_right _ h1
  · rw [show bl x - 1 + n + 1 = bl x + n by omega, Nat.pow_add]
    exact Nat.mul_lt_mul_of_pos_right h2 (Nat.two_pow_pos n)
theorem deq.bl {M N : Nat} {E F : Int} (h : deq M E N F) (hM : 0 < M) : (bl M : Int) + E = (bl N : Int) + F := by
  have hN := h.pos hM
  obtain ⟨i, j, h1, h2⟩ := h
  have := congrArg Go.Proofs.YtoddjkpckpekcaaGreatDoor.bl h1
  rw [bl_mul hM, bl_mul hN] at this
  omega
theorem deq.same {M N : Nat} {E : Int} (h : deq M E N E) : M = N := by
  obtain ⟨i, j, h1, h2⟩ := h
  have : i = j := by omega
  subst this
  exact Nat.eq_of_mul_eq_mul_right (Nat.two_pow_pos i) h1

/-! ### Odd parts -/
def tzF : Nat → Nat → Nat
  | 0, _ => 0
  | f + 1, n => if n % 2 = 1 then 0 else tzF f (n / 2) + 1
def tz (n : Nat) : Nat := tzF n n
def od (n : Nat) : Nat := n / 2 ^ tz n
theorem tzF_ok : ∀ f n : Nat, 0 < n → n ≤ f → ∃ o : Nat, n = o * 2 ^ tzF f n ∧ o % 2 = 1
  | 0, n, h, hf => by omega
  | f + 1, n, h, hf => by
    unfold tzF
    by_cases h1 : n % 2 = 1
    · rw [if_pos h1]; exact ⟨n, by simp, h1⟩
    · rw [if_neg h1]
      obtain ⟨o, h2, h3⟩ := tzF_ok f (n / 2) (by omega) (by omega)
      refine ⟨o, ?_, h3⟩
      rw [Nat.pow_succ, ← Nat.mul_assoc, ← h2]; omega
theorem od_tz {n : Nat} (h : 0 < n) : n = od n * 2 ^ tz n ∧ od n % 2 = 1 := by
  obtain ⟨o, h1, h2⟩ := tzF_ok n n h (Nat.le_refl _)
  have h3 : od n = o := by
    unfold od
    conv => lhs; lhs; rw [h1]
    exact Nat.mul_div_cancel _ (Nat.two_pow_pos _)
  rw [h3]; exact ⟨h1, h2⟩
theorem odd_two {o p s t : Nat} (ho : o % 2 = 1) (hp : p % 2 = 1) (h : o * 2 ^ s = p * 2 ^ t) : s = t ∧ o = p := by
  rcases Nat.lt_trichotomy s t with c | c | c
  · obtain ⟨k, rfl⟩ : ∃ k, t = s + (k + 1) := ⟨t - s - 1, by omega⟩
    rw [Nat.pow_add, Nat.mul_comm (2 ^ s), ← Nat.mul_assoc] at h
    have := Nat.eq_of_mul_eq_mul_right (Nat.two_pow_pos s) h
    rw [Nat.pow_succ, ← Nat.mul_assoc] at this
    omega
  · subst c
    exact ⟨rfl, Nat.eq_of_mul_eq_mul_right (Nat.two_pow_pos s) h⟩
  · obtain ⟨k, rfl⟩ : ∃ k, s = t + (k + 1) := ⟨s - t - 1, by omega⟩
    rw [Nat.pow_add, Nat.mul_comm (2 ^ t), ← Nat.mul_assoc] at h
    have := Nat.eq_of_mul_eq_mul_right (Nat.two_pow_pos t) h
    rw [Nat.pow_succ, ← Nat.mul_assoc] at this
    omega
theorem od_deq {n : Nat} (h : 0 < n) (E : Int) : deq n E (od n) (E + tz n) := ⟨0, tz n, by rw [Nat.pow_zero, Nat.mul_one]; exact (od_tz h).1, by omega⟩
theorem deq.od {M N : Nat} {E F : Int} (h : deq M E N F) (hM : 0 < M) : od M = od N ∧ E + tz M = F + tz N := by
  have hN := h.pos hM
  have h1 := ((od_deq hM E).symm.trans h).trans (od_deq hN F)
  obtain ⟨i, j, a, b⟩ := h1
  have := odd_two (od_tz hM).2 (od_tz hN).2 a
  exact ⟨this.2, by omega⟩
/-! ### Rounding -/
def lef (R D s : Nat) : Nat := if R = 0 ∧ s = 0 then 0 else if 2 * R < D then 1 else if 2 * R = D ∧ s = 0 then 2 else 3
def awy (neg odd : Bool) (left mode : Nat) : Bool :=
  if mode = 0 then decide (left = 3) || (decide (left = 2) && odd) else if mode = 1 then decide (2 ≤ left) else if mode = 3 then decide (0 < left)
  else if mode = 4 then decide (0 < left) && neg else if mode = 5 then decide (0 < left) && !neg else false
def rk (p M : Nat) : Nat := bl M - p
def rL (p s M : Nat) : Nat := lef (M % 2 ^ rk p M) (2 ^ rk p M) s
def rU (p m : Nat) (neg : Bool) (s M : Nat) : Bool := awy neg (decide (M / 2 ^ rk p M % 2 = 1)) (rL p s M) m
def rQ (p m : Nat) (neg : Bool) (s M : Nat) : Nat := M / 2 ^ rk p M + if rU p m neg s M then 1 else 0
def rA (p m : Nat) (neg : Bool) (s M : Nat) : Int := if rL p s M = 0 then 0 else if rU p m neg s M != neg then 1 else -1
theorem awy_zero (neg odd : Bool) (mode : Nat) : awy neg odd 0 mode = false := by
  unfold awy; repeat' split
  all_goals simp
theorem lef_scale (R D s : Nat) {S : Nat} (h : 0 < S) : lef (R * S) (D * S) s = lef R D s := by
  unfold lef
  have e1 : R * S = 0 ↔ R = 0 := by rw [Nat.mul_eq_zero]; exact ⟨fun h' => h'.resolve_right (by omega), .inl⟩
  have e2 : 2 * (R * S) < D * S ↔ 2 * R < D := by rw [← Nat.mul_assoc]; exact ⟨fun h' => Nat.lt_of_mul_lt_mul_right h', fun h' => Nat.mul_lt_mul_of_pos_right h' h⟩
  have e3 : 2 * (R * S) = D * S ↔ 2 * R = D := by rw [← Nat.mul_assoc]; exact ⟨fun h' => Nat.eq_of_mul_eq_mul_right h h', fun h' => by rw [h']⟩
  simp only [e1, e2, e3]
theorem lef_exact (D : Nat) : lef 0 D 0 = 0 := by simp [lef]
theorem rQ_bound {p m M : Nat} (neg : Bool) (s : Nat) (hp0 : 0 < p) (hp : p < bl M) : 2 ^ (p - 1) ≤ M / 2 ^ rk p M ∧ M / 2 ^ rk p M < 2 ^ p ∧ rQ p m neg s M ≤ 2 ^ p := by
  have hM : 0 < M := by rcases Nat.eq_zero_or_pos M with rfl | h; rw [bl_zero] at hp; omega; exact h
  have h1 := bl_ge hM
  have h2 := lt_bl M
  have hk : rk p M + p = bl M := by unfold rk; omega
  have h3 : M / 2 ^ rk p M < 2 ^ p := by
    refine Nat.div_lt_of_lt_mul ?_
    rw [← Nat.pow_add, hk]; exact h2
  have h4 : 2 ^ (p - 1) ≤ M / 2 ^ rk p M := by
    rw [Nat.le_div_iff_mul_le (Nat.two_pow_pos _), ← Nat.pow_add]
    refine Nat.le_trans (Nat.pow_le_pow_right (by decide) ?_) h1
    omega
  refine ⟨h4, h3, ?_⟩
  unfold rQ; split <;> omega
def obN (b : Nat) : Bool := decide (9223372036854775808 ≤ b)
def obM (b : Nat) : Nat := if b % 9223372036854775808 < 4503599627370496 then b % 9223372036854775808 else 4503599627370496 + b % 4503599627370496
def obE (b : Nat) : Int := ((b % 9223372036854775808 / 4503599627370496 - 1 : Nat) : Int) - 1074
def obF (b : Nat) : Prop := b % 9223372036854775808 < 9218868437227405312
theorem obE_bd {b : Nat} (h : obF b) : -1074 ≤ obE b ∧ obE b ≤ 971 := by unfold obF at h; unfold obE; omega
theorem obM_bd (b : Nat) : obM b ≤ 9007199254740991 := by unfold obM; split <;> omega
theorem dbl_sw : Ieee.double.signWeight = 9223372036854775808 := by decide
theorem dbl_bn : Ieee.double.binade = 4503599627370496 := by decide
theorem dbl_inf : Ieee.double.infRung = 9218868437227405312 := by decide
theorem dbl_lp : Ieee.double.leastPlace = -1074 := by decide
theorem read_fin {b : Nat} (hb : b < 18446744073709551616) (h : obF b) : Ieee.double.read b = .number (obN b) (obM b) (obE b) := by
  unfold obF at h
  have hn : (b / 9223372036854775808 % 2 == 1) = obN b := by
    unfold obN
    by_cases hc : 9223372036854775808 ≤ b
    · rw [decide_eq_true hc, show b / 9223372036854775808 % 2 = 1 by omega]; rfl
    · rw [decide_eq_false hc, show b / 9223372036854775808 % 2 = 0 by omega]; rfl
  unfold Ieee.Format.read
  simp only [dbl_sw, dbl_bn, dbl_inf, dbl_lp]
  rw [hn]
  by_cases h1 : b % 9223372036854775808 < 4503599627370496
  · rw [if_pos h1]
    unfold obM obE
    rw [if_pos h1, show b % 9223372036854775808 / 4503599627370496 - 1 = 0 by omega]
    rfl
  · rw [if_neg h1, if_pos h]
    unfold obM obE
    rw [if_neg h1, show b % 9223372036854775808 % 4503599627370496 = b % 4503599627370496 by omega]
    congr 1
theorem read_inf {b : Nat} (hb : b < 18446744073709551616) (h : b % 9223372036854775808 = 9218868437227405312) : Ieee.double.read b = .infinity (obN b) := by
  have hn : (b / 9223372036854775808 % 2 == 1) = obN b := by
    unfold obN
    by_cases hc : 9223372036854775808 ≤ b
    · rw [decide_eq_true hc, show b / 9223372036854775808 % 2 = 1 by omega]; rfl
    · rw [decide_eq_false hc, show b / 9223372036854775808 % 2 = 0 by omega]; rfl
  unfold Ieee.Format.read
  simp only [dbl_sw, dbl_bn, dbl_inf, dbl_lp]
  rw [hn, if_neg (by omega), if_neg (by omega), if_pos h]
theorem icmp (a b : Int) : compare a b = if a < b then Ordering.lt else if a = b then Ordering.eq else Ordering.gt := rfl
theorem sgn_nat (n : Bool) (m k : Nat) : Ieee.signed n m k = if n then -((m * 2 ^ k : Nat) : Int) else ((m * 2 ^ k : Nat) : Int) := by
  unfold Ieee.signed; rw [Nat.shiftLeft_eq]
theorem f64_fmt : FloatKind.f64.format = Ieee.double := rfl
theorem ord_self {b : Nat} (hb : b < 18446744073709551616) (h : obF b ∨ b % 9223372036854775808 = 9218868437227405312) : (FloatKind.f64.format.order b b != some .eq) = false := by
  rw [f64_fmt]
  unfold Ieee.Format.order
  rcases h with h | h
  · rw [read_fin hb h]
    simp [Ieee.Datum.order]
  · rw [read_inf hb h]
    cases obN b <;> rfl
theorem ord_zero {b : Nat} (hb : b < 18446744073709551616) (h : obF b) : (FloatKind.f64.format.order b 0 == some .eq) = decide (obM b = 0) := by
  rw [f64_fmt]
  unfold Ieee.Format.order
  have h0 : Ieee.double.read 0 = .number false 0 (-1074) := by decide
  have hE := obE_bd h
  rw [read_fin hb h, h0]
  simp only [Ieee.Datum.order]
  rw [Int.min_eq_right hE.1, Int.sub_self, icmp, sgn_nat, sgn_nat]
  simp only [Nat.zero_mul, Bool.false_eq_true, if_false]
  have hp := Nat.two_pow_pos (obE b - -1074).toNat
  by_cases hM : obM b = 0
  · rw [hM, Nat.zero_mul]; simp
  · have hpos : 0 < obM b * 2 ^ (obE b - -1074).toNat := Nat.mul_pos (by omega) hp
    rw [decide_eq_false hM]
    cases obN b
    · simp only [Bool.false_eq_true, if_false]
      rw [if_neg (by omega), if_neg (by omega)]; rfl
    · simp only [if_true]
      rw [if_pos (by omega)]; rfl
theorem ord_max {r : Nat} (h : r < 9218868437227405312) : (FloatKind.f64.format.order r 9218868437227405311 == some .gt) = false := by
  have hr : r % 9223372036854775808 = r := Nat.mod_eq_of_lt (by omega)
  have hf : obF r := by unfold obF; omega
  have h0 : Ieee.double.read 9218868437227405311 = .number false 9007199254740991 971 := by decide
  have hE := obE_bd hf
  have hM := obM_bd r
  have hn : obN r = false := decide_eq_false (by omega)
  rw [f64_fmt]
  unfold Ieee.Format.order
  rw [read_fin (by omega) hf, h0]
  simp only [Ieee.Datum.order]
  rw [Int.min_eq_left hE.2, Int.sub_self, icmp, sgn_nat, sgn_nat, hn]
  simp only [Bool.false_eq_true, if_false, Int.toNat_zero, Nat.pow_zero, Nat.mul_one]
  have hp : 1 ≤ 2 ^ (971 - obE r).toNat := Nat.two_pow_pos _
  have hle := Nat.mul_le_mul_left 9007199254740991 hp
  by_cases h1 : (obM r : Int) < ((9007199254740991 * 2 ^ (971 - obE r).toNat : Nat) : Int)
  · rw [if_pos h1]; rfl
  · rw [if_neg h1, if_pos (by omega)]; rfl
theorem ord_max_inf : (FloatKind.f64.format.order 9218868437227405312 9218868437227405311 == some .gt) = true := by decide
theorem ord_min {r : Nat} (h : r < 9218868437227405312) : (FloatKind.f64.format.order r 4503599627370496 == some .lt) = decide (r < 4503599627370496) := by
  have hr : r % 9223372036854775808 = r := Nat.mod_eq_of_lt (by omega)
  have hf : obF r := by unfold obF; omega
  have h0 : Ieee.double.read 4503599627370496 = .number false 4503599627370496 (-1074) := by decide
  have hE := obE_bd hf
  have hn : obN r = false := decide_eq_false (by omega)
  rw [f64_fmt]
  unfold Ieee.Format.order
  rw [read_fin (by omega) hf, h0]
  simp only [Ieee.Datum.order]
  rw [Int.min_eq_right hE.1, Int.sub_self, icmp, sgn_nat, sgn_nat, hn]
  simp only [Bool.false_eq_true, if_false, Int.toNat_zero, Nat.pow_zero, Nat.mul_one]
  have hp : 1 ≤ 2 ^ (obE r - -1074).toNat := Nat.two_pow_pos _
  have hle := Nat.mul_le_mul_left (obM r) hp
  by_cases h1 : r < 4503599627370496
  · have hM : obM r = r := by unfold obM; rw [hr, if_pos h1]
    have hE0 : (obE r - -1074).toNat = 0 := by unfold obE; omega
    rw [hE0, Nat.pow_zero, Nat.mul_one, hM, if_pos (by omega), decide_eq_true h1]; rfl
  · have hM : 4503599627370496 ≤ obM r := by unfold obM; rw [hr, if_neg h1]; omega
    rw [if_neg (by omega), decide_eq_false h1]
    split <;> rfl
theorem log2_bl {n : Nat} (h : 0 < n) : n.log2 + 1 = bl n := by unfold bl; rw [if_neg (by omega)]
/-! ### The bits of a pattern -/
theorem two52 : (2 : Nat) ^ 52 = 4503599627370496 := rfl
theorem and_abs {b : Nat} (hb : b < 18446744073709551616) : bits .andNot .u64 (b : Int) 9223372036854775808 = ((b % 9223372036854775808 : Nat) : Int) := by
  rw [show (9223372036854775808 : Int) = ((9223372036854775808 : Nat) : Int) from rfl, u64_andNot_nat b _ hb (by decide), show (18446744073709551615 - 9223372036854775808 : Nat) = 2 ^ 63 - 1 from rfl, Nat.and_two_pow_sub_one_eq_mod]
theorem and_pow (d t : Nat) : d &&& 2 ^ t = d / 2 ^ t % 2 * 2 ^ t := by
  apply Nat.eq_of_testBit_eq
  intro i
  rw [Nat.testBit_and, Nat.testBit_two_pow, Nat.mul_comm, Nat.testBit_two_pow_mul]
  by_cases hi : t = i
  · subst hi
    rw [Nat.testBit_eq_decide_div_mod_eq, Nat.sub_self, Nat.testBit_eq_decide_div_mod_eq, Nat.pow_zero, Nat.div_one, Nat.mod_mod]
    simp
  · simp only [hi, decide_false, Bool.and_false]
    by_cases h2 : t ≤ i
    · rw [Nat.testBit_lt_two_pow (show d / 2 ^ t % 2 < 2 ^ (i - t) from Nat.lt_of_lt_of_le (Nat.mod_lt _ (by decide)) (Nat.pow_le_pow_right (show 0 < 2 by decide) (show 1 ≤ i - t by omega)))]; simp
    · simp [h2]
theorem and_clear {b : Nat} (hb : b < 18446744073709551616) : bits .andNot .u64 (b : Int) 9218868437227405312 = (((if 9223372036854775808 ≤ b then 9223372036854775808 else 0) + b % 4503599627370496 : Nat) : Int) := by
  rw [show (9218868437227405312 : Int) = ((9218868437227405312 : Nat) : Int) from rfl, u64_andNot_nat b _ hb (by decide), show (18446744073709551615 - 9218868437227405312 : Nat) = 2 ^ 63 ||| (2 ^ 52 - 1) by decide, Nat.and_or_distrib_left, Nat.and_two_pow_sub_one_eq_mod, and_pow]
  congr 1
  by_cases h : 9223372036854775808 ≤ b
  · rw [if_pos h, two52, show b / 2 ^ 63 % 2 * 2 ^ 63 = 2 ^ 63 * 1 by omega, ← Nat.two_pow_add_eq_or_of_lt (show b % 4503599627370496 < 2 ^ 63 by omega)]
  · rw [if_neg h, two52, show b / 2 ^ 63 % 2 * 2 ^ 63 = 0 by omega, Nat.zero_or, Nat.zero_add]
@[go_sem] theorem f64bits (b : Nat) (w : World) : (callFunc 40 #[.float .f64 b]).run Tryz.prog w = .ok (.value (.int .u64 (b : Int))) w := by
  rw [run_callFunc_extern Tryz.func40 (by kernel_rfl) (by kernel_rfl) (by kernel_rfl) (e := Extern.MathFloatBits.float64bits) (by kernel_rfl)]
  rfl
@[go_sem] theorem f64from (b : Nat) (w : World) : (callFunc 48 #[.int .u64 (b : Int)]).run Tryz.prog w = .ok (.value (.float .f64 b)) w := by
  rw [run_callFunc_extern Tryz.func48 (by kernel_rfl) (by kernel_rfl) (by kernel_rfl) (e := Extern.MathFloatBits.float64frombits) (by kernel_rfl)]
  rfl
set_option maxRecDepth 100000 in
theorem mAbs (b : Nat) (w : World) (hb : b < 18446744073709551616) :
    Calls Tryz.prog 142 #[.float .f64 b] w fun e w' => e = .returned (.float .f64 (b % 9223372036854775808)) ∧ w = w' := by
  have h1 := and_abs hb
  obtain ⟨r, hr⟩ : ∃ r, r = b % 9223372036854775808 := ⟨_, rfl⟩
  rw [← hr] at h1 ⊢
  clear hr
  go_enter Tryz.func142, Tryz.ntmps142
  go_wp2_with (simp only [f64bits, f64from])
  go_ret
  exact ⟨rfl, rfl⟩
set_option maxRecDepth 100000 in
theorem mIsNaN (b : Nat) (w : World) (hb : b < 18446744073709551616) (h : obF b ∨ b % 9223372036854775808 = 9218868437227405312) :
    Calls Tryz.prog 174 #[.float .f64 b] w fun e w' => e = .returned (.bool false) ∧ w = w' := by
  have h1 := ord_self hb h
  clear h
  go_enter Tryz.func174, Tryz.ntmps174
  go_wp2
  go_ret
  exact ⟨rfl, rfl⟩
set_option maxRecDepth 100000 in
theorem mIsInf (b : Nat) (r : Bool) (w : World) (hb : b < 18446744073709551616) (h : (FloatKind.f64.format.order (b % 9223372036854775808) 9218868437227405311 == some .gt) = r) :
    Calls Tryz.prog 110 #[.float .f64 b, .int .i64 0] w fun e w' => e = .returned (.bool r) ∧ w = w' := by
  have HA := Lib.hid (mAbs b w hb)
  obtain ⟨m, hm⟩ : ∃ m, m = b % 9223372036854775808 := ⟨_, rfl⟩
  rw [← hm] at h HA
  clear hm
  go_enter Tryz.func110, Tryz.ntmps110
  go_wp2_with fail
  refine HA.out.mono ?_
  rintro _ _ ⟨rfl, rfl⟩
  go_wp2
  go_ret
  exact ⟨rfl, rfl⟩
theorem even_cut (n : Bool) (Q t : Nat) (hQ : Q < 2 ^ 60) : Ieee.Toward.even.cut n (Q * 2 ^ t) t = Q := by
  unfold Ieee.Toward.cut
  rcases Nat.eq_zero_or_pos Q with h | h
  · subst h
    simp
  · have hlg : t ≤ (Q * 2 ^ t).log2 := by
      have h1 := log2_bl (n := Q * 2 ^ t) (Nat.mul_pos h (Nat.two_pow_pos _))
      have h2 := bl_mul h t
      have h3 := bl_pos h
      omega
    rw [Nat.min_eq_left (by omega), Nat.shiftLeft_eq, Nat.one_mul]
    have hp := Nat.two_pow_pos t
    simp only
    rw [Nat.mul_div_cancel _ hp, Nat.mul_mod_left]
    have : (decide (2 ^ t < 2 * 0) || (2 ^ t == 2 * 0 && Q % 2 == 1)) = false := by
      rw [Nat.mul_zero, decide_eq_false (by omega), Bool.false_or, Bool.and_eq_false_iff]
      exact .inl (beq_eq_false_iff_ne.2 (by omega))
    rw [this]; rfl
theorem mul_exact {b C Q t : Nat} {Ec u : Int} (hb : b < 9223372036854775808) (hf : obF b) (hC : Ieee.double.read C = .number false 4503599627370496 Ec) (h0 : 0 < obM b)
    (hu : u = max (obE b + Ec + (bl (obM b) : Int) - 1) (-1074)) (ht : (t : Int) = u - (obE b + Ec)) (hQ : obM b * 4503599627370496 = Q * 2 ^ t) (hQ2 : Q < 2 ^ 60) (hi : (u + 1074).toNat * 4503599627370496 + Q ≤ 9218868437227405312) :
    Ieee.double.mul C b = some ((u + 1074).toNat * 4503599627370496 + Q) := by
  have hn : obN b = false := by unfold obN; exact decide_eq_false (by omega)
  have hlg : (4503599627370496 * obM b).log2 = bl (obM b) + 51 := by
    have h1 := log2_bl (n := 4503599627370496 * obM b) (by omega)
    have h2 := bl_mul h0 52
    rw [show (2 : Nat) ^ 52 = 4503599627370496 from rfl, Nat.mul_comm] at h2
    omega
  unfold Ieee.Format.mul
  rw [read_fin (by omega) hf, hC, hn]
  simp only [Ieee.Datum.product, Option.map_some, Ieee.Format.write, Bool.xor_false]
  congr 1
  unfold Ieee.Format.nearest
  rw [if_neg (by omega), hlg, dbl_lp, show Ieee.double.fractionBits = 52 from rfl, dbl_bn, dbl_inf]
  have hlast : max (Ec + obE b + ((bl (obM b) + 51 : Nat) : Int) - ((52 : Nat) : Int)) (-1074) = u := by omega
  simp only [hlast]
  rw [show (Ec + obE b - u).toNat = 0 by omega, show (u - (Ec + obE b)).toNat = t by omega, show (u - -1074).toNat = (u + 1074).toNat by omega, Nat.shiftLeft_zero, Nat.mul_comm 4503599627370496, hQ, even_cut _ _ _ hQ2]
  rw [Nat.min_eq_left hi]
  unfold Ieee.Format.word
  rw [dbl_sw]
  simp
theorem or_exp {f k : Nat} (hf : f < 4503599627370496) (hk : k < 4096) : bits .or .u64 (f : Int) ((k * 4503599627370496 : Nat) : Int) = ((k * 4503599627370496 + f : Nat) : Int) := by
  rw [bits_or_u64_nat _ _ (by omega) (by omega), Nat.or_comm, show k * 4503599627370496 = 2 ^ 52 * k by omega, ← Nat.two_pow_add_eq_or_of_lt (show f < 2 ^ 52 by omega)]
theorem and_2047_i64 (n : Int) : bits .and .i64 n 2047 = n % 2048 := by
  have hc : (BitVec.ofInt 64 2047).toNat = 2 ^ 11 - 1 := by decide
  have key : (BitVec.ofInt 64 n &&& BitVec.ofInt 64 2047).toNat = (n % ((2 ^ 64 : Nat) : Int)).toNat % 2 ^ 11 := by
    rw [BitVec.toNat_and, BitVec.toNat_ofInt, hc, Nat.and_two_pow_sub_one_eq_mod]
  show IntKind.i64.wrap ((BitVec.ofInt 64 n &&& BitVec.ofInt 64 2047).toNat : Nat) = n % 2048
  rw [key, IntKind.wrap_i64]
  omega
set_option maxRecDepth 100000 in
theorem mNormBig (b : Nat) (w : World) (hb : b < 9218868437227405312) (h : 4503599627370496 ≤ b) :
    Calls Tryz.prog 175 #[.float .f64 b] w fun e w' => e = .returned (.tuple #[.float .f64 b, .int .i64 0]) ∧ w = w' := by
  have hmin := ord_min (r := b % 9223372036854775808) (by omega)
  rw [decide_eq_false (by omega)] at hmin
  have HA := Lib.hid (mAbs b w (by omega))
  obtain ⟨m, hm⟩ : ∃ m, m = b % 9223372036854775808 := ⟨_, rfl⟩
  rw [← hm] at hmin HA
  clear hm h hb
  go_enter Tryz.func175, Tryz.ntmps175
  go_wp2_with fail
  refine HA.out.mono ?_
  rintro _ _ ⟨rfl, rfl⟩
  go_wp2
  go_ret2
  exact ⟨rfl, rfl⟩
set_option maxRecDepth 100000 in
set_option maxHeartbeats 1600000 in
theorem mldexp_mid (g F k : Nat) (E : Int) (w : World) (hg : 1 ≤ g) (hg2 : g ≤ 2046) (hF : F < 4503599627370496) (hk : (k : Int) = E + g) (hk1 : 1 ≤ k) (hk2 : k ≤ 2046) :
    Calls Tryz.prog 141 #[.float .f64 (g * 4503599627370496 + F), .int .i64 E] w fun e w' => e = .returned (.float .f64 (k * 4503599627370496 + F)) ∧ w = w' := by
  obtain ⟨b, hbb⟩ : ∃ b, b = g * 4503599627370496 + F := ⟨_, rfl⟩
  have hb : b < 9218868437227405312 := by omega
  have hf : obF b := by unfold obF; omega
  have hz := ord_zero (b := b) (by omega) hf
  have hM : obM b ≠ 0 := by unfold obM; split <;> omega
  rw [decide_eq_false hM] at hz
  have HI := Lib.hid (mIsInf b false w (by omega) (ord_max (r := b % 9223372036854775808) hf))
  have HNA := Lib.hid (mIsNaN b w (by omega) (.inl hf))
  have HN := Lib.hid (mNormBig b w hb (by omega))
  have hq1 : (b : Int) / 4503599627370496 = (g : Int) := by omega
  have hq2 : bits .and .i64 (g : Int) 2047 = (g : Int) := by rw [and_2047_i64]; omega
  have hc := and_clear (b := b) (by omega)
  rw [show (if 9223372036854775808 ≤ b then 9223372036854775808 else 0) + b % 4503599627370496 = F by rw [if_neg (by omega)]; omega] at hc
  have ho := or_exp (k := k) hF (by omega)
  obtain ⟨y, hy⟩ : ∃ y, y = k * 4503599627370496 + F := ⟨_, rfl⟩
  rw [← hy] at ho
  have hyf : obF y := by unfold obF; omega
  have hyM : 0 < obM y ∧ obM y < 9007199254740992 := by unfold obM; rw [if_neg (by omega)]; omega
  have hbl : bl (obM y) = 53 := bl_of (k := 52) (by unfold obM; rw [if_neg (by omega)]; omega) hyM.2
  have hyE : obE y = (k : Int) - 1075 := by unfold obE; omega
  have hmul := mul_exact (b := y) (C := 4607182418800017408) (Q := obM y) (t := 52) (Ec := -52) (u := (k : Int) - 1075) (by omega) hyf (by decide) hyM.1 (by rw [hbl, hyE]; omega) (by rw [hyE]; omega) rfl (Nat.lt_trans hyM.2 (by decide)) (by unfold obM; rw [if_neg (by omega)]; omega)
  rw [show ((k : Int) - 1075 + 1074).toNat * 4503599627370496 + obM y = y by unfold obM; rw [if_neg (by omega)]; omega] at hmul
  have hrun : ∀ W : World, (binOp .mul 75 (.float .f64 4607182418800017408) (.float .f64 y)).run Tryz.prog W = .ok (.float .f64 y) W := fun W => run_float_arith W .mul _ .f64 _ _ _ hmul
  have a2 : E + ((g : Int) - 1023) = (k : Int) - 1023 := by omega
  have a3 : (k : Int) - 1023 + 1023 = (k : Int) := by omega
  have ho2 : bits .or .u64 (F : Int) ((k : Int) * 4503599627370496) = (y : Int) := by rw [← ho]; congr 1
  have hEb : -4000 ≤ E ∧ E ≤ 4000 := by omega
  rw [← hbb, ← hy]
  clear hbb hb hf hM hy hyf hyM hbl hyE hmul hk ho
  go_enter Tryz.func141, Tryz.ntmps141
  go_wp2_with fail
  refine HI.out.mono ?_
  rintro _ _ ⟨rfl, rfl⟩
  go_wp2_with fail
  refine HNA.out.mono ?_
  rintro _ _ ⟨rfl, rfl⟩
  go_wp2_with fail
  refine HN.out.mono ?_
  rintro _ _ ⟨rfl, rfl⟩
  go_wp2
  go_ret
  exact ⟨rfl, rfl⟩
theorem ord_neg0 {b : Nat} (hb : b < 9218868437227405312) : (FloatKind.f64.format.order b 0 == some .lt) = false := by
  rw [f64_fmt]
  unfold Ieee.Format.order
  have h0 : Ieee.double.read 0 = .number false 0 (-1074) := by decide
  have hf : obF b := by unfold obF; omega
  have hE := obE_bd hf
  have hn : obN b = false := by unfold obN; exact decide_eq_false (by omega)
  rw [read_fin (by omega) hf, h0, hn]
  simp only [Ieee.Datum.order]
  rw [Int.min_eq_right hE.1, Int.sub_self, icmp, sgn_nat, sgn_nat]
  simp only [Nat.zero_mul, Bool.false_eq_true, if_false]
  rw [if_neg (by omega)]
  split <;> rfl
set_option maxRecDepth 100000 in
theorem mInfP2 (w : World) : Calls Tryz.prog 177 #[.int .i64 1] w fun e w' => e = .returned (.float .f64 9218868437227405312) ∧ w = w' := by
  go_enter Tryz.func177, Tryz.ntmps177
  have hc : ∀ w : World, (callFunc 48 #[.int .u64 9218868437227405312]).run Tryz.prog w = .ok (.value (.float .f64 9218868437227405312)) w := fun w => f64from 9218868437227405312 w
  go_wp2_with (simp only [hc])
  go_ret
  exact ⟨rfl, rfl⟩
set_option maxRecDepth 100000 in
set_option maxHeartbeats 1600000 in
theorem mldexp_inf (g F : Nat) (E : Int) (w : World) (hg : 1 ≤ g) (hg2 : g ≤ 2046) (hF : F < 4503599627370496) (hk : 2047 ≤ E + g) (hE2 : E ≤ 100000) :
    Calls Tryz.prog 141 #[.float .f64 (g * 4503599627370496 + F), .int .i64 E] w fun e w' => e = .returned (.float .f64 9218868437227405312) ∧ w = w' := by
  obtain ⟨b, hbb⟩ : ∃ b, b = g * 4503599627370496 + F := ⟨_, rfl⟩
  have hb : b < 9218868437227405312 := by omega
  have hf : obF b := by unfold obF; omega
  have hz := ord_zero (b := b) (by omega) hf
  have hM : obM b ≠ 0 := by unfold obM; split <;> omega
  rw [decide_eq_false hM] at hz
  have HI := Lib.hid (mIsInf b false w (by omega) (ord_max (r := b % 9223372036854775808) hf))
  have HNA := Lib.hid (mIsNaN b w (by omega) (.inl hf))
  have HN := Lib.hid (mNormBig b w hb (by omega))
  have hq1 : (b : Int) / 4503599627370496 = (g : Int) := by omega
  have hq2 : bits .and .i64 (g : Int) 2047 = (g : Int) := by rw [and_2047_i64]; omega
  have hlt := ord_neg0 (b := b) hb
  have a1 : 1023 < E + ((g : Int) - 1023) := by omega
  have hEb : -4000 ≤ E := by omega
  rw [← hbb]
  clear hbb hb hf hM hk
  go_enter Tryz.func141, Tryz.ntmps141
  go_wp2_with fail
  refine HI.out.mono ?_
  rintro _ _ ⟨rfl, rfl⟩
  go_wp2_with fail
  refine HNA.out.mono ?_
  rintro _ _ ⟨rfl, rfl⟩
  go_wp2_with fail
  refine HN.out.mono ?_
  rintro _ _ ⟨rfl, rfl⟩
  go_wp2_with fail
  refine (mInfP2 w).mono ?_
  rintro _ _ ⟨rfl, rfl⟩
  go_wp2
  go_ret
  exact ⟨rfl, rfl⟩
set_option maxRecDepth 100000 in
set_option maxHeartbeats 1600000 in
theorem mldexp_low (M g F k : Nat) (E : Int) (w : World) (hg : 1 ≤ g) (hg2 : g ≤ 2046) (hF : F < 4503599627370496) (h0 : 0 < M) (hM52 : M < 4503599627370496) (hFM : 4503599627370496 + F = M * 2 ^ (53 - bl M)) (hgM : g = bl M + 1022) (hk : k = bl M + 1) (hE0 : E = -1074) :
    Calls Tryz.prog 141 #[.float .f64 (g * 4503599627370496 + F), .int .i64 E] w fun e w' => e = .returned (.float .f64 M) ∧ w = w' := by
  have hbM : bl M ≤ 52 := bl_le (k := 52) hM52
  have hbp := bl_pos h0
  obtain ⟨b, hbb⟩ : ∃ b, b = g * 4503599627370496 + F := ⟨_, rfl⟩
  have hb : b < 9218868437227405312 := by omega
  have hf : obF b := by unfold obF; omega
  have hz := ord_zero (b := b) (by omega) hf
  have hM : obM b ≠ 0 := by unfold obM; split <;> omega
  rw [decide_eq_false hM] at hz
  have HI := Lib.hid (mIsInf b false w (by omega) (ord_max (r := b % 9223372036854775808) hf))
  have HNA := Lib.hid (mIsNaN b w (by omega) (.inl hf))
  have HN := Lib.hid (mNormBig b w hb (by omega))
  have hq1 : (b : Int) / 4503599627370496 = (g : Int) := by omega
  have hq2 : bits .and .i64 (g : Int) 2047 = (g : Int) := by rw [and_2047_i64]; omega
  have hc := and_clear (b := b) (by omega)
  rw [show (if 9223372036854775808 ≤ b then 9223372036854775808 else 0) + b % 4503599627370496 = F by rw [if_neg (by omega)]; omega] at hc
  have ho := or_exp (k := k) hF (by omega)
  obtain ⟨y, hy⟩ : ∃ y, y = k * 4503599627370496 + F := ⟨_, rfl⟩
  rw [← hy] at ho
  have hyf : obF y := by unfold obF; omega
  have hyM : 0 < obM y ∧ obM y < 9007199254740992 := by unfold obM; rw [if_neg (by omega)]; omega
  have hbl : bl (obM y) = 53 := bl_of (k := 52) (by unfold obM; rw [if_neg (by omega)]; omega) hyM.2
  have hyE : obE y = (k : Int) - 1075 := by unfold obE; omega
  have hyQ : obM y = M * 2 ^ (53 - bl M) := by rw [← hFM]; unfold obM; rw [if_neg (by omega)]; omega
  have hmul := mul_exact (b := y) (C := 4368491638549381120) (Q := M) (t := 105 - bl M) (Ec := -105) (u := -1074) (by omega) hyf (by decide) hyM.1 (by rw [hbl, hyE]; omega) (by rw [hyE]; omega)
    (by rw [hyQ, show (4503599627370496 : Nat) = 2 ^ 52 from rfl, Nat.mul_assoc, ← Nat.pow_add]; congr 2; omega) (Nat.lt_trans hM52 (by decide)) (by omega)
  rw [show ((-1074 : Int) + 1074).toNat = 0 from rfl, Nat.zero_mul, Nat.zero_add] at hmul
  have hrun : ∀ W : World, (binOp .mul 75 (.float .f64 4368491638549381120) (.float .f64 y)).run Tryz.prog W = .ok (.float .f64 M) W := fun W => run_float_arith W .mul _ .f64 _ _ _ hmul
  have a2 : E + ((g : Int) - 1023) = (k : Int) - 1076 := by omega
  have a3 : (k : Int) - 1076 + 53 = (k : Int) - 1023 := by omega
  have a4 : (k : Int) - 1023 + 1023 = (k : Int) := by omega
  have hk52 : k ≤ 53 := by omega
  have hk2 : 2 ≤ k := by omega
  have ho2 : bits .or .u64 (F : Int) ((k : Int) * 4503599627370496) = (y : Int) := by rw [← ho]; congr 1
  have hEb : -4000 ≤ E ∧ E ≤ 4000 := by omega
  rw [← hbb]
  clear hbb hb hf hM hy hyf hyM hbl hyE hyQ hmul hk ho hFM hgM hE0 hbM hbp
  go_enter Tryz.func141, Tryz.ntmps141
  go_wp2_with fail
  refine HI.out.mono ?_
  rintro _ _ ⟨rfl, rfl⟩
  go_wp2_with fail
  refine HNA.out.mono ?_
  rintro _ _ ⟨rfl, rfl⟩
  go_wp2_with fail
  refine HN.out.mono ?_
  rintro _ _ ⟨rfl, rfl⟩
  go_wp2
  go_ret
  exact ⟨rfl, rfl⟩
end Go.Proofs.YtoddjkpckpekcaaGreatDoor
