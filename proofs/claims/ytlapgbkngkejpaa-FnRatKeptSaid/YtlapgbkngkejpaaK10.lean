/-
Texts of this proof, joined: KpE KpF InJ InK WdG InL InM InN KpG KpH. No condition.
-/
import Derived.Test.YtlapgbkngkejpaaK05
import Derived.Test.YtlapgbkngkejpaaK07
import Derived.Test.YtlapgbkngkejpaaK08
import Derived.Test.YtlapgbkngkejpaaK09
import Derived.IntWalk
/-
A fraction as bytes: Rat.GobEncode. No condition.
-/
namespace Go.Proofs.Ytlapgbkngkejpaa
open Go.RowKit

/-- The bytes that are kept. -/
def kept (neg : Bool) (ca cb n d : Nat) : List Nat := (if neg then 3 else 2) :: (bbs 4 ca ++ (bbs ca n ++ bbs cb d))
theorem cellsB_take (bs : List Nat) (k : Nat) : (cellsB bs).take k = cellsB (bs.take k) := by simp [cellsB, List.map_take]
theorem cellsB_drop (bs : List Nat) (k : Nat) : (cellsB bs).drop k = cellsB (bs.drop k) := by simp [cellsB, List.map_drop]
theorem bbs_head0 {L i d cb : Nat} (hi : i + cb = L) (hd : d < 256 ^ cb) : (bbs L d).take i = bbs i 0 := by
  rw [bbs_take d (by omega), show L - i = cb by omega, Nat.div_eq_of_lt hd]
theorem gob_list {C : List Nat} {j5 h ca : Nat} (hl : j5 + 5 ≤ C.length) :
    (((C.take (j5 + 1)) ++ (bbs 4 ca ++ C.drop (j5 + 5))).set j5 h).drop j5 = h :: (bbs 4 ca ++ C.drop (j5 + 5)) := by
  have h1 : (C.take (j5 + 1)).length = j5 + 1 := by rw [List.length_take]; omega
  rw [List.set_append_left _ _ (by omega), List.drop_append_of_le_length (by rw [List.length_set, h1]; omega)]
  have h2 : ((C.take (j5 + 1)).set j5 h).drop j5 = [h] := by
    apply List.ext_getElem
    · simp; omega
    · intro k hk1 hk2
      have : k = 0 := by simpa using hk2
      subst this
      simp
  rw [h2]; rfl
set_option maxRecDepth 100000 in
set_option maxHeartbeats 3200000 in
theorem gobEncode (b B : Nat) (neg : Bool) (n d : Nat) (w : World) (h : RatP w B b neg n d) (hn : nw n ≤ 100000) (hd : nw d ≤ 100000) :
    Calls Try.prog 13 #[.pointer (some ⟨b, 0, none⟩)] w fun e w' => ∃ v, e = .returned (.tuple #[v, .nilIface]) ∧ (∃ ca cb : Nat, RI .u8 w' v (ints (kept neg ca cb n d)) ∧ n < 256 ^ ca ∧ d < 256 ^ cb ∧ ca ≤ 800000 ∧ cb ≤ 800000) ∧ Below w.heap.size w w' := by
  obtain ⟨v1, v2, -, hr, o1, o2⟩ := h
  have hS1 := o1.isS
  have hS2 := o2.isS
  obtain ⟨la, hla⟩ : ∃ l, l = nw n := ⟨_, rfl⟩
  obtain ⟨lb, hlb⟩ : ∃ l, l = nw d := ⟨_, rfl⟩
  have hL1 : sLen v1 = la := by rw [o1.len, cellsW_length, wds_length, hla]
  have hL2 : sLen v2 = lb := by rw [o2.len, cellsW_length, wds_length, hlb]
  rw [← hla] at hn
  rw [← hlb] at hd
  obtain ⟨L, hL⟩ : ∃ L, L = 5 + (la + lb) * 8 := ⟨_, rfl⟩
  have g1 : IntKind.i64.wrap ((la : Int) + (lb : Int)) = (la : Int) + (lb : Int) := IntWalk.i64_in _ (by omega)
  have g2 : IntKind.i64.wrap (((la : Int) + (lb : Int)) * 8) = ((la : Int) + (lb : Int)) * 8 := IntWalk.i64_in _ (by omega)
  have g3 : IntKind.i64.wrap (5 + ((la : Int) + (lb : Int)) * 8) = (L : Int) := by rw [IntWalk.i64_in _ (by omega)]; omega
  have c1 : w.cell? ⟨b, 1, none⟩ = some v1 := (row_at (i := 1) hr rfl).1
  have c3 : w.cell? ⟨b, 3, none⟩ = some v2 := (row_at (i := 3) hr rfl).1
  have HR := Lib.hid hr
  have HLA := Lib.hid hla
  have HLB := Lib.hid hlb
  have HL := Lib.hid hL
  have W1 := Lib.hid (o1.rw' (wds_all n))
  have W2 := Lib.hid (o2.rw' (wds_all d))
  have LT1 : Hid (0 < la → sBlk v1 < w.heap.size) := Lib.hid (fun hp => (o1.lt (by have := hS1.le; omega)).2)
  have LT2 : Hid (0 < lb → sBlk v2 < w.heap.size) := Lib.hid (fun hp => (o2.lt (by have := hS2.le; omega)).2)
  have hLb : L ≤ 10000000 := by omega
  clear hr hla hlb hL o1 o2
  go_enter Try.func13, Try.ntmps13
  go_upto_region 3 with fail
  (refine wp_region_hoist 15 (by kernel_rfl) (by kernel_rfl) ⟨fun _ _ _ h => (by first | exact (hQp _ _ _ h).elim | cases h.2.1 | (obtain ⟨_, h3, _⟩ := h.2; cases h3)), fun _ _ h => (by first | exact (hQo _ _ h).elim | cases h.1 | (obtain ⟨_, h3, _⟩ := h; cases h3))⟩ ?_; simp only [List.take_succ_cons, List.take_zero, List.drop_succ_cons, List.drop_zero]; (repeat (go_big_quiet_step (fail))); refine wpQuiet_nil ?_; rintro _ ⟨nq, rfl⟩)
  go_wp2_with (at_make; refine wpList_make_O rfl _ _ _ rfl elemB .i64 .i64 _ _ rfl rfl w.heap.size ?c1 ?c2 ?c3 ?c4 ?c5 ?_)
  case c1 => omega
  case c2 => omega
  case c3 => omega
  case c4 => omega
  case c5 => exact Nat.le_refl _
  rintro v0 w1 hv0 ho hb1 hz1
  have hb1 : Below w.heap.size w w1 := undrewN hb1
  have ho : Own w1 w.heap.size 5 v0 (List.replicate L (.int .u8 0)) := by simpa using ho
  rw [cellsB_rep] at ho
  have hS0 := ho.isS
  have hL0 : sLen v0 = L := by rw [ho.len, cellsB_length, bbs_length]
  have hC0 := hS0.le
  have hLp : 0 < L := by have := HL.out; omega
  have hB0 := (ho.lt (show 0 < sCap v0 by omega)).1
  have k3 : w1.cell? ⟨b, 3, none⟩ = some v2 := (row_at (i := 3) (keep_row hb1 HR.out) rfl).1
  have HC2 := Lib.hid (bytes_any v2 v0 (wds d) w.heap.size L w1 (W2.out.below hb1) ho (by rw [wds_length, ← HLB.out]; have := HL.out; omega) (by omega) (by rw [wds_length, ← HLB.out]; intro h; have := LT2.out h; omega))
  rw [wds_length, ← HLB.out, wv_wds] at HC2
  have HB1 := Lib.hid hb1
  have HV0 := Lib.hid hv0
  clear ho hb1 hv0 hz1
  go_wp2_with fail
  refine HC2.out.mono ?_
  rintro _ w2 ⟨cb, rfl, ⟨hcb, hdb⟩, ho2, hb2, hf2⟩
  obtain ⟨i, hi⟩ : ∃ i, i = L - cb := ⟨_, rfl⟩
  rw [← hi]
  have hi2 : i + cb = L := by have := HL.out; omega
  have hi3 : 5 + la * 8 ≤ i := by have := HL.out; omega
  have hS1' : IsS (subS v0 0 i) := subS_isS hS0 (Nat.zero_le _) (by omega)
  have hsub := ho2.sub (l := 0) (n := i) (Nat.zero_le _) (by rw [cellsB_length, bbs_length]; omega)
  rw [List.drop_zero, cellsB_take, bbs_head0 hi2 hdb] at hsub
  have hbb2 := HB1.out.trans hb2
  have k1 : w2.cell? ⟨b, 1, none⟩ = some v1 := (row_at (i := 1) (keep_row hbb2 HR.out) rfl).1
  have HC1 := Lib.hid (fun k => bytes_any v1 (subS v0 0 i) (wds n) w.heap.size i (w2.drewN k) ((W1.out.below hbb2).drewN k) (hsub.drewN k) (by rw [wds_length, ← HLA.out]; omega) (by omega) (by rw [wds_length, ← HLA.out, subS_blk hS0]; intro h; have := LT1.out h; omega))
  rw [wds_length, ← HLA.out, wv_wds] at HC1
  have HO2 := Lib.hid ho2
  have HB2 := Lib.hid hbb2
  have HDB := Lib.hid hdb
  clear ho2 hb2 hf2 hsub hbb2 hdb hi k3
  go_wp2_with fail
  (refine wp_region_hoist 8 (by kernel_rfl) (by kernel_rfl) ⟨fun _ _ _ h => (by first | exact (hQp _ _ _ h).elim | cases h.2.1 | (obtain ⟨_, h3, _⟩ := h.2; cases h3)), fun _ _ h => (by first | exact (hQo _ _ h).elim | cases h.1 | (obtain ⟨_, h3, _⟩ := h; cases h3))⟩ ?_; simp only [List.take_succ_cons, List.take_zero, List.drop_succ_cons, List.drop_zero]; (repeat (go_big_quiet_step (fail))); refine wpQuiet_nil ?_; rintro _ ⟨nq, rfl⟩)
  go_wp2_with fail
  refine (HC1.out _).mono ?_
  rintro _ w3 ⟨ca, rfl, ⟨hca, hna⟩, ho3, hb3, hf3⟩
  obtain ⟨j5, hj⟩ : ∃ j5, i = j5 + 5 + ca := ⟨i - ca - 5, by omega⟩
  obtain ⟨J, hJ⟩ : ∃ J, J = j5 + 5 := ⟨_, rfl⟩
  obtain ⟨a, ha⟩ : ∃ a, a = j5 + 1 := ⟨_, rfl⟩
  rw [show i - ca = J by omega]
  have hf : FrB (sBlk v0) (sOff v0 + 0) (sOff v0 + i) w2 w3 := (FrB.sub hS0 (Nat.zero_le _) (by omega) (by rw [Nat.sub_zero]; exact hf3)).undrewN
  have hp := Own.patch HO2.out (l := 0) (n := i) (Nat.zero_le _) (by rw [cellsB_length, bbs_length]; omega) (by rw [cellsB_length, bbs_length, Nat.sub_zero]) ho3 hf
  have hdr : (bbs L d).drop i = bbs cb d := by rw [show i = L - cb by omega]; exact bbs_drop d (by omega)
  rw [List.take_zero, List.nil_append, cellsB_drop, hdr, cellsB_append] at hp
  obtain ⟨C, hC⟩ : ∃ C, C = bbs i n ++ bbs cb d := ⟨_, rfl⟩
  rw [← hC] at hp
  have hCl : C.length = L := by rw [hC, List.length_append, bbs_length, bbs_length]; exact hi2
  have hCd : C.drop J = bbs ca n ++ bbs cb d := by
    rw [hC, List.drop_append_of_le_length (by rw [bbs_length]; omega), show J = i - ca by omega, bbs_drop n (by omega)]
  have hbb3 : Below w.heap.size w w3 := HB2.out.trans (undrewN hb3)
  have k0 : w3.cell? ⟨b, 0, none⟩ = some (.bool neg) := (row_at (i := 0) (keep_row hbb3 HR.out) rfl).1
  have f1 : (i : Int) - (J : Int) = (ca : Int) := by omega
  have f2 : (J : Int) - 4 = (a : Int) := by omega
  have f3 : (J : Int) - 5 = (j5 : Int) := by omega
  have f4 : IntKind.u32.wrap (ca : Int) = (ca : Int) := by rw [IntKind.wrap_u32']; omega
  have f5 : (ca : Int) % 4294967296 = (ca : Int) := by omega
  have hS4 : IsS (subS v0 a J) := subS_isS hS0 (by omega) (by omega)
  have hsub := hp.sub (l := a) (n := J) (by omega) (by rw [cellsB_length]; omega)
  have hsl : (((cellsB C).take J).drop a).length = 4 := by rw [List.length_drop, List.length_take, cellsB_length]; omega
  have HPUT := Lib.hid (put32_any (subS v0 a J) _ ca w.heap.size w3 hsub hsl (by omega))
  have HP := Lib.hid hp
  have HB3 := Lib.hid hbb3
  have HNA := Lib.hid hna
  have HCL := Lib.hid hCl
  have HCD := Lib.hid hCd
  have haJ : a ≤ J := by omega
  have hJc : J ≤ sCap v0 := by omega
  have hj5 : j5 < L := by omega
  have ha1 : Hid (a = j5 + 1 ∧ J = j5 + 5 ∧ J + ca = i ∧ J ≤ L) := Lib.hid ⟨ha, hJ, by omega, by omega⟩
  have hcab : ca ≤ 800000 := by omega
  have hcbb : cb ≤ 800000 := by omega
  clear hp hC hCl hCd hbb3 hf hdr hsub hsl hna ho3 hb3 hf3 hJ ha hj hi2 hi3 hca hcb k1
  go_wp2_with fail
  refine HPUT.out.mono ?_
  rintro _ w4 ⟨rfl, ho4, hb4, hf4⟩
  obtain ⟨q1, q2, q3, q4⟩ := ha1.out
  have hfr : FrB (sBlk v0) (sOff v0 + a) (sOff v0 + J) w3 w4 := FrB.sub hS0 haJ hJc (by rw [show J - a = 4 by omega]; exact hf4)
  have hp := Own.patch HP.out (l := a) (n := J) haJ (by rw [cellsB_length, HCL.out]; omega) (by rw [cellsB_length, bbs_length]; omega) ho4 hfr
  rw [cellsB_take, cellsB_drop, cellsB_append, cellsB_append] at hp
  have hlen : (C.take a ++ (bbs 4 ca ++ C.drop J)).length = L := by rw [List.length_append, List.length_append, List.length_take, List.length_drop, bbs_length, HCL.out]; omega
  have hset := fun h : Nat => hp.set (i := j5) (by rw [cellsB_length, hlen]; exact hj5) (.int .u8 (h : Int))
  have hbb4 := HB3.out.trans hb4
  have k0' : w4.cell? ⟨b, 0, none⟩ = some (.bool neg) := (row_at (i := 0) (keep_row hbb4 HR.out) rfl).1
  have hcap : 0 < sCap v0 := by omega
  have hBv := (hp.lt hcap).1
  have HFIN : Hid (∀ h : Nat, RI .u8 (w4.setCell ⟨sBlk v0, sOff v0 + j5, none⟩ (.int .u8 (h : Int))) (subS v0 j5 L) (ints (h :: (bbs 4 ca ++ (bbs ca n ++ bbs cb d)))) ∧ Below w.heap.size w (w4.setCell ⟨sBlk v0, sOff v0 + j5, none⟩ (.int .u8 (h : Int)))) := Lib.hid (fun h => by
    refine ⟨?_, bset hbb4 hBv⟩
    have h1 := hset h
    rw [cellsB_set, q1, q2] at h1
    have h2 := h1.sub (l := j5) (n := L) (by omega) (by rw [cellsB_length, List.length_set]; rw [q1, q2] at hlen; omega)
    rw [cellsB_take, cellsB_drop, List.take_of_length_le (by rw [List.length_set]; rw [q1, q2] at hlen; omega), gob_list (by rw [HCL.out]; omega), ← q2, HCD.out, cellsB_eq] at h2
    exact h2.rd)
  obtain ⟨u, cu⟩ : ∃ u, w4.cell? ⟨sBlk v0, sOff v0 + j5, none⟩ = some u := ⟨_, hp.cell (List.getElem?_eq_getElem (by rw [cellsB_length, hlen]; exact hj5))⟩
  have fz := hp.frozen hcap (sOff v0 + j5)
  have hSf : IsS (subS v0 j5 L) := subS_isS hS0 (by omega) (by omega)
  have o31 : bits .or .u8 2 1 = 3 := by decide
  have t5 : ((ca : Int) != (ca : Int)) = false := by simp
  clear ho4 hb4 hf4 hfr hp hset hbb4 q1 q2 q3 q4 hlen k0
  cases neg with
  | false =>
    go_wp2
    go_ret2
    exact ⟨_, rfl, ⟨ca, cb, (HFIN.out 2).1, HNA.out, HDB.out, hcab, hcbb⟩, (HFIN.out 2).2⟩
  | true =>
    go_wp2
    go_ret2
    exact ⟨_, rfl, ⟨ca, cb, (HFIN.out 3).1, HNA.out, HDB.out, hcab, hcbb⟩, (HFIN.out 3).2⟩
end Go.Proofs.Ytlapgbkngkejpaa

/-
A fraction out of bytes: Rat.GobDecode. No condition.
-/
namespace Go.Proofs.Ytlapgbkngkejpaa
open Go.RowKit

theorem RI.other {k : IntKind} {w : World} {v u : Value} {xs : List Int} {b i : Nat} (h : RI k w v xs) (hne : sBlk v ≠ b) : RI k (w.setCell ⟨b, i, none⟩ u) v xs :=
  ⟨h.isS, h.len, fun j hj => by rw [cell_other (by simpa using fun he => hne he.symm)]; exact h.cell j hj⟩
theorem kept_len (neg : Bool) (ca cb n d : Nat) : (kept neg ca cb n d).length = 5 + ca + cb := by simp [kept, bbs_length]; omega
theorem kept_1 (neg : Bool) (ca cb n d : Nat) : ((kept neg ca cb n d).take 5).drop 1 = bbs 4 ca := by
  unfold kept
  rw [List.take_succ_cons, List.drop_succ_cons, List.drop_zero, List.take_left' (by rw [bbs_length])]
theorem kept_2 (neg : Bool) (ca cb n d : Nat) : ((kept neg ca cb n d).take (5 + ca)).drop 5 = bbs ca n := by
  unfold kept
  rw [show 5 + ca = (4 + ca) + 1 by omega, List.take_succ_cons, List.drop_succ_cons, ← List.append_assoc, List.take_left' (by rw [List.length_append, bbs_length, bbs_length]), List.drop_left' (by rw [bbs_length])]
theorem kept_3 (neg : Bool) (ca cb n d : Nat) : ((kept neg ca cb n d).take (5 + ca + cb)).drop (5 + ca) = bbs cb d := by
  rw [List.take_of_length_le (by rw [kept_len]; exact Nat.le_refl _)]
  unfold kept
  rw [show 5 + ca = (4 + ca) + 1 by omega, List.drop_succ_cons, ← List.append_assoc, List.drop_left' (by rw [List.length_append, bbs_length, bbs_length])]
theorem RI.part {w : World} {v : Value} {bs cs : List Nat} {l n : Nat} (h : RI .u8 w v (ints bs)) (h1 : l ≤ n) (h2 : n ≤ bs.length) (hc : (bs.take n).drop l = cs) : RI .u8 w (subS v l n) (ints cs) := by
  have := h.sub h1 (by rw [ints_length]; exact h2)
  rw [← hc]
  simpa [ints, List.map_take, List.map_drop] using this
set_option maxRecDepth 100000 in
set_option maxHeartbeats 3200000 in
theorem gobDecode (b B : Nat) (buf : Value) (neg : Bool) (ca cb n d : Nat) (w : World) (hz : w.heap[b]? = some (.cells #[.bool false, .slice none 0 0, .bool false, .slice none 0 0] 53 (0, 0)))
    (hb : RI .u8 w buf (ints (kept neg ca cb n d))) (hne : sBlk buf ≠ b) (hn : n < 256 ^ ca) (hd : d < 256 ^ cb) (hca : ca ≤ 800000) (hcb : cb ≤ 800000) (hB : B ≤ b) :
    Calls Try.prog 14 #[.pointer (some ⟨b, 0, none⟩), buf] w fun e w' => e = .returned .nilIface ∧ RatP w' B b neg n d ∧ Below B w w' := by
  have hS := hb.isS
  have hC := hS.le
  obtain ⟨T, hT⟩ : ∃ T, T = 5 + ca + cb := ⟨_, rfl⟩
  obtain ⟨I, hI⟩ : ∃ I, I = 5 + ca := ⟨_, rfl⟩
  have hL : sLen buf = T := by rw [hb.len, ints_length, kept_len, hT]
  obtain ⟨h0, hh0⟩ : ∃ h, h = (if neg then 3 else 2) := ⟨_, rfl⟩
  have c0 := hb.cellB (i := 0) (by rw [kept_len]; omega)
  rw [show (kept neg ca cb n d).getD 0 0 = h0 by rw [hh0]; first | done | rfl, Nat.add_zero] at c0
  have m1 : (h0 : Int) / 2 = 1 := by subst hh0; cases neg <;> rfl
  have m2 : ((bits .and .u8 (h0 : Int) 1) != 0) = neg := by subst hh0; cases neg <;> rfl
  have hh8 : h0 < 256 := by subst hh0; cases neg <;> decide
  have P1 := hb.part (cs := bbs 4 ca) (l := 1) (n := 5) (by decide) (by rw [kept_len]; omega) (kept_1 ..)
  have HP2 := Lib.hid (hb.part (cs := bbs ca n) (l := 5) (n := I) (by omega) (by rw [kept_len]; omega) (by rw [hI]; exact kept_2 ..))
  have HP3 := Lib.hid (hb.part (cs := bbs cb d) (l := I) (n := T) (by omega) (by rw [kept_len]; omega) (by rw [hI, hT]; exact kept_3 ..))
  have HBE := Lib.hid (be32_any (subS buf 1 5) (bbs 4 ca) ca w P1 (by rw [bbs_length]; decide) (by rw [bbs_getD (by decide)]) (by rw [bbs_getD (by decide)]) (by rw [bbs_getD (by decide)]) (by rw [bbs_getD (by decide)]))
  rw [Nat.mod_eq_of_lt (show ca < 4294967296 by omega)] at HBE
  have t1 : ((T : Int) == 0) = false := by rw [beq_eq_false_iff_ne]; omega
  have t2 : decide ((T : Int) < 5) = false := decide_eq_false (by omega)
  have t3 : decide ((ca : Int) > 9223372036854775802) = false := decide_eq_false (by omega)
  have t3' : decide (9223372036854775802 < (ca : Int)) = false := decide_eq_false (by omega)
  have e1 : (5 : Int) + (ca : Int) = (I : Int) := by omega
  have t4 : decide (T < I) = false := decide_eq_false (by omega)
  have hSP1 := P1.isS
  have hTb : T ≤ 2000000 := by omega
  have hIT : I ≤ T := by omega
  have h5I : 5 ≤ I := by omega
  have HZ := Lib.hid hz
  have hbs : b < w.heap.size := (heap_alloc_lt (o := .cells #[] 0) hz).2
  obtain ⟨z0, f0⟩ := row_at (i := 0) hz rfl
  have HN := Lib.hid hn
  have HD := Lib.hid hd
  have HNE := Lib.hid hne
  clear hb hz hn hd hT hI hh0 P1 hne
  go_enter Try.func14, Try.ntmps14
  go_wp2_with fail
  refine HBE.out.mono ?_
  rintro _ _ ⟨rfl, k, rfl⟩
  have z0' : (w.drewN k).cell? ⟨b, 0, none⟩ = some (.bool false) := z0
  have f0' : (w.drewN k).frozen? ⟨b, 0, none⟩ = false := f0
  go_upto_region 16 with fail
  obtain ⟨W, hW⟩ : ∃ W, W = (w.drewN k).setCell ⟨b, 0, none⟩ (.bool neg) := ⟨_, rfl⟩
  have hrW : W.heap[b]? = some (.cells #[.bool neg, .slice none 0 0, .bool false, .slice none 0 0] 53 (0, 0)) := by rw [hW]; exact rowset (i := 0) (.bool neg) (show (w.drewN k).heap[b]? = _ from HZ.out)
  have hbW : Below B w W := by rw [hW]; exact bset (undrewN' (Below.refl _ _)) hB
  have hP2 : RI .u8 W (subS buf 5 I) (ints (bbs ca n)) := by rw [hW]; exact (HP2.out.drewN k).other (by rw [subS_blk hS]; exact HNE.out)
  have hP3 : RI .u8 W (subS buf I T) (ints (bbs cb d)) := by rw [hW]; exact (HP3.out.drewN k).other (by rw [subS_blk hS]; exact HNE.out)
  have hWs : b < W.heap.size := (heap_alloc_lt (o := .cells #[] 0) hrW).2
  rw [← hW]
  clear hW z0 f0 z0' f0' c0
  have y1 : W.cell? ⟨b, 1, none⟩ = some (.slice none 0 0) := (row_at (i := 1) hrW rfl).1
  have hS2 := hP2.isS
  have hS3 := hP3.isS
  have H2 := Lib.hid (fun j => setBytes_nil (subS buf 5 I) ca n (W.drewN j) (hP2.drewN j) HN.out (by omega))
  have HRW := Lib.hid hrW
  have HBW := Lib.hid hbW
  have HQ3 := Lib.hid hP3
  clear hrW hbW hP2 hP3
  (refine wp_region_hoist 9 (by kernel_rfl) (by kernel_rfl) ⟨fun _ _ _ h => (by first | exact (hQp _ _ _ h).elim | cases h.2.1 | (obtain ⟨_, h3, _⟩ := h.2; cases h3)), fun _ _ h => (by first | exact (hQo _ _ h).elim | cases h.1 | (obtain ⟨_, h3, _⟩ := h; cases h3))⟩ ?_; simp only [List.take_succ_cons, List.take_zero, List.drop_succ_cons, List.drop_zero]; (repeat (go_big_quiet_step (fail))); refine wpQuiet_nil ?_; rintro _ ⟨nq, rfl⟩)
  go_wp2_with fail
  refine (H2.out _).mono ?_
  rintro _ w1 ⟨r1, rfl, ho1, hb1⟩
  have hSr1 := ho1.isS
  have hb1' := undrewN hb1
  have p0 := keep_row hb1' HRW.out
  obtain ⟨y1', g1⟩ := row_at (i := 1) p0 rfl
  have p1 := rowset (i := 1) r1 p0
  have o1 := (ho1.away p0 (by decide) 1 r1).mono (show B ≤ W.heap.size by omega)
  have bb1 := bset (i := 1) (u := r1) (HBW.out.trans (hb1'.mono (show B ≤ W.heap.size by omega))) hB
  have q3 := (HQ3.out.below hb1').other (b := b) (i := 1) (u := r1) (by rw [subS_blk hS]; exact HNE.out)
  obtain ⟨X, hX⟩ : ∃ X, X = w1.setCell ⟨b, 1, none⟩ r1 := ⟨_, rfl⟩
  go_upto_region 17 with fail
  rw [← hX] at p1 o1 bb1 q3 ⊢
  clear hX y1 y1' g1 p0 ho1 hb1 hb1'
  have y3 : X.cell? ⟨b, 3, none⟩ = some (.slice none 0 0) := (row_at (i := 3) p1 rfl).1
  have hXs : b < X.heap.size := (heap_alloc_lt (o := .cells #[] 0) p1).2
  have H3 := Lib.hid (fun j => setBytes_nil (subS buf I T) cb d (X.drewN j) (q3.drewN j) HD.out (by omega))
  have HP1 := Lib.hid p1
  have HO1 := Lib.hid o1
  have HB1 := Lib.hid bb1
  clear p1 o1 bb1 q3
  (refine wp_region_hoist 9 (by kernel_rfl) (by kernel_rfl) ⟨fun _ _ _ h => (by first | exact (hQp _ _ _ h).elim | cases h.2.1 | (obtain ⟨_, h3, _⟩ := h.2; cases h3)), fun _ _ h => (by first | exact (hQo _ _ h).elim | cases h.1 | (obtain ⟨_, h3, _⟩ := h; cases h3))⟩ ?_; simp only [List.take_succ_cons, List.take_zero, List.drop_succ_cons, List.drop_zero]; (repeat (go_big_quiet_step (fail))); refine wpQuiet_nil ?_; rintro _ ⟨nq, rfl⟩)
  go_wp2_with fail
  refine (H3.out _).mono ?_
  rintro _ w3 ⟨r2, rfl, ho3, hb3⟩
  have hSr2 := ho3.isS
  have hb3' := undrewN hb3
  have p0 := keep_row hb3' HP1.out
  obtain ⟨y3', g3⟩ := row_at (i := 3) p0 rfl
  have p3 := rowset (i := 3) r2 p0
  have o1 := (HO1.out.below hb3').away p0 (by decide) 3 r2
  have o2 := (ho3.away p0 (by decide) 3 r2).mono (show B ≤ X.heap.size by omega)
  have bb3 := bset (i := 3) (u := r2) (HB1.out.trans (hb3'.mono (show B ≤ X.heap.size by omega))) hB
  have Q : Hid (RatP (w3.setCell ⟨b, 3, none⟩ r2) B b neg n d ∧ Below B w (w3.setCell ⟨b, 3, none⟩ r2)) := Lib.hid ⟨⟨r1, r2, hB, p3, o1, o2⟩, bb3⟩
  clear p0 p3 o1 o2 bb3 ho3 hb3 hb3'
  go_wp2
  go_ret
  exact ⟨rfl, Q.out⟩
end Go.Proofs.Ytlapgbkngkejpaa

/-
The package's numbers: cmp. No condition.
-/
namespace Go.Proofs.Ytlapgbkngkejpaa
open Go.RowKit

theorem wdiv_step (n i : Nat) : n / 18446744073709551616 ^ i = 18446744073709551616 * (n / 18446744073709551616 ^ (i + 1)) + wdg n i := by
  unfold wdg
  rw [Nat.pow_succ, ← Nat.div_div_eq_div_mul]
  omega
theorem lt_of_nw {x y : Nat} (h : nw x < nw y) : x < y := by
  refine Nat.lt_of_not_le fun hc => ?_
  have := nw_mono hc
  omega
theorem lt_of_wdg {x y i : Nat} (he : x / 18446744073709551616 ^ (i + 1) = y / 18446744073709551616 ^ (i + 1)) (h : wdg x i < wdg y i) : x < y := by
  have h1 := wdiv_step x i
  have h2 := wdiv_step y i
  refine Nat.lt_of_not_le fun hc => ?_
  have := Nat.div_le_div_right (c := 18446744073709551616 ^ i) hc
  omega
end Go.Proofs.Ytlapgbkngkejpaa

/-
The package's fractions: Sign, IsInt. No condition.
-/
namespace Go.Proofs.Ytlapgbkngkejpaa
open Go.RowKit

theorem keepc {w w' : World} {b i : Nat} {v : Value} (h : w.cell? ⟨b, i, none⟩ = some v) (hb : Below w.heap.size w w') : w'.cell? ⟨b, i, none⟩ = some v :=
  (hb.cell (p := ⟨b, i, none⟩) (World.block_lt_of_cell? w _ h)).trans h
end Go.Proofs.Ytlapgbkngkejpaa

/-
Fractions of the statements: fraction. No condition.
-/
namespace Go.Proofs.Ytlapgbkngkejpaa
open Go.RowKit

/-- What fraction answers. -/
def FrPost (n : Nat) (b : Bool) (ns ds : List Nat) (w : World) (v : Value) (w' : World) : Prop :=
  ∃ bb a1 a2 ok, v = .tuple #[.agg #[.bool bb, a1, a2], .bool ok] ∧ IsS a1 ∧ IsS a2 ∧ Below w.heap.size w w' ∧
    (ok = true → bb = b ∧ ns.length ≤ n ∧ ds.length ≤ n ∧ 0 < wv ds ∧ isFrac b ns ds b (wv ns) (wv ds) = true ∧ Nat.gcd (wv ns) (wv ds) = 1 ∧ NatV w' a1 (wv ns) ∧ NatV w' a2 (wv ds))
set_option maxRecDepth 100000 in
set_option maxHeartbeats 800000 in
theorem fraction_any (b : Bool) (v1 v2 : Value) (n : Nat) (ns ds : List Nat) (w : World) (h1 : RW w v1 ns) (h2 : RW w v2 ds) (hn : n ≤ 100000) :
    Calls Try.prog 5 #[.agg #[.bool b, v1, v2], .int .i64 n] w fun e w' => ∃ v, e = .returned v ∧ FrPost n b ns ds w v w' := by
  have hS1 := h1.isS
  have hS2 := h2.isS
  have H1 := Lib.hid h1
  have H2 := Lib.hid h2
  clear h1 h2
  have hab := ((Below.refl w.heap.size w).alloc (Nat.le_refl _) (.cells #[.bool b, v1, v2] 26))
  have hac := hab.alloc hab.size (.cells #[.bool false, .slice none 0 0, .slice none 0 0] 31)
  obtain ⟨W, hW⟩ : ∃ W, W = (w.alloc (.cells #[.bool b, v1, v2] 26)).alloc (.cells #[.bool false, .slice none 0 0, .slice none 0 0] 31) := ⟨_, rfl⟩
  rw [← hW] at hac
  have c0 : W.cell? ⟨w.heap.size, 0, none⟩ = some (.bool b) := by
    rw [hW]; exact box_cell (w := w) (cs := #[.bool b, v1, v2]) ((Below.refl _ _).alloc (Nat.le_refl _) _) rfl
  have c1 : W.cell? ⟨w.heap.size, 1, none⟩ = some v1 := by
    rw [hW]; exact box_cell (w := w) (cs := #[.bool b, v1, v2]) ((Below.refl _ _).alloc (Nat.le_refl _) _) rfl
  have c2 : W.cell? ⟨w.heap.size, 2, none⟩ = some v2 := by
    rw [hW]; exact box_cell (w := w) (cs := #[.bool b, v1, v2]) ((Below.refl _ _).alloc (Nat.le_refl _) _) rfl
  have HWs := Lib.hid (show W.heap.size = w.heap.size + 2 by rw [hW]; simp)
  have hrw : W.heap[w.heap.size + 1]? = some (.cells #[.bool false, .slice none 0 0, .slice none 0 0] 31 (0, 0)) := by
    rw [hW]
    have := box_row (Below.refl _ ((w.alloc (.cells #[.bool b, v1, v2] 26)).alloc (.cells #[.bool false, .slice none 0 0, .slice none 0 0] 31)))
    simpa using this
  have HR := Lib.hid hrw
  have R1 := Lib.hid (H1.out.below hac)
  have R2 := Lib.hid (H2.out.below hac)
  have r3 := row3 hrw
  obtain ⟨x0, x1, x2, y0, y1, y2⟩ := r3
  have HW := Lib.hid hW
  clear hrw
  go_enter Try.func5, Try.ntmps5
  go_upto_region 1 with fail
  rw [← hW]
  clear hW
  by_cases hl1 : n < ns.length
  · have t1 : decide (n < ns.length) = true := decide_eq_true hl1
    go_wp2_with fail
    refine (long_any v1 ns n W R1.out).mono ?_
    rintro _ _ ⟨rfl, rfl⟩
    rw [t1]
    go_wp2
    obtain ⟨hx0, hx1, hx2, -, -, -⟩ := row3 (row3_set (x := .bool false) (y := .slice none 0 0) (z := .slice none 0 0) (HR.out))
    have hbY := bset (i := 2) (u := .slice none 0 0) (bset (i := 1) (u := .slice none 0 0) (bset (i := 0) (u := .bool false) (hac) (Nat.le_succ _)) (Nat.le_succ _)) (Nat.le_succ _)
    refine bodyPost_ret (v := .tuple #[.agg #[.bool false, .slice none 0 0, .slice none 0 0], .bool false]) ?_ rfl ⟨_, rfl, false, .slice none 0 0, .slice none 0 0, false, rfl, IsS.nil, IsS.nil, hbY, by simp⟩
    simp [results, Try.results5, go_sem, hx0, hx1, hx2]
  · have t1 : decide (n < ns.length) = false := decide_eq_false hl1
    go_wp2_with fail
    refine (long_any v1 ns n W R1.out).mono ?_
    rintro _ _ ⟨rfl, rfl⟩
    rw [t1]
    by_cases hl2 : n < ds.length
    · have t2 : decide (n < ds.length) = true := decide_eq_true hl2
      go_wp2_with fail
      refine (long_any v2 ds n W R2.out).mono ?_
      rintro _ _ ⟨rfl, rfl⟩
      rw [t2]
      go_wp2
      obtain ⟨hx0, hx1, hx2, -, -, -⟩ := row3 (row3_set (x := .bool false) (y := .slice none 0 0) (z := .slice none 0 0) (HR.out))
      have hbY := bset (i := 2) (u := .slice none 0 0) (bset (i := 1) (u := .slice none 0 0) (bset (i := 0) (u := .bool false) (hac) (Nat.le_succ _)) (Nat.le_succ _)) (Nat.le_succ _)
      refine bodyPost_ret (v := .tuple #[.agg #[.bool false, .slice none 0 0, .slice none 0 0], .bool false]) ?_ rfl ⟨_, rfl, false, .slice none 0 0, .slice none 0 0, false, rfl, IsS.nil, IsS.nil, hbY, by simp⟩
      simp [results, Try.results5, go_sem, hx0, hx1, hx2]
    · have t2 : decide (n < ds.length) = false := decide_eq_false hl2
      go_wp2_with fail
      refine (long_any v2 ds n W R2.out).mono ?_
      rintro _ _ ⟨rfl, rfl⟩
      rw [t2]
      go_wp2_with fail
      refine (spOf v2 ds W R2.out (by omega)).mono ?_
      rintro _ w1 ⟨dv, rfl, hdv, hb1⟩
      have hSd := hdv.isS
      have hLd := hdv.len
      have HR1 := Lib.hid (keep_row hb1 HR.out)
      obtain ⟨z0, z1, z2, q0, q1, q2⟩ := row3 HR1.out
      obtain ⟨-, e0, e1, e2⟩ := ks3 c0 c1 c2 hb1
      have hbX : Below w.heap.size w w1 := hac.trans (hb1.mono hac.size)
      by_cases hd0 : wv ds = 0
      · have t3 : sLen dv = 0 := by rw [hLd, hd0]; rfl
        clear hLd
        go_wp2
        obtain ⟨hx0, hx1, hx2, -, -, -⟩ := row3 (row3_set (x := .bool false) (y := .slice none 0 0) (z := .slice none 0 0) (HR1.out))
        have hbY := bset (i := 2) (u := .slice none 0 0) (bset (i := 1) (u := .slice none 0 0) (bset (i := 0) (u := .bool false) (hbX) (Nat.le_succ _)) (Nat.le_succ _)) (Nat.le_succ _)
        refine bodyPost_ret (v := .tuple #[.agg #[.bool false, .slice none 0 0, .slice none 0 0], .bool false]) ?_ rfl ⟨_, rfl, false, .slice none 0 0, .slice none 0 0, false, rfl, IsS.nil, IsS.nil, hbY, by simp⟩
        simp [results, Try.results5, go_sem, hx0, hx1, hx2]
      · have hp := nl_pos (show 0 < wv ds by omega)
        have t3 : ((nl (wv ds) : Int) == 0) = false := by rw [beq_eq_false_iff_ne]; omega
        go_wp2_with fail
        refine (ofFraction_any b v1 v2 ns ds w1 (H1.out.below hbX) (H2.out.below hbX) (by omega) (by omega)).mono ?_
        rintro _ w2 ⟨_, rfl, a1, a2, rfl, hn1, hn2, hb2⟩
        have hSa1 := hn1.isS
        have hSa2 := hn2.isS
        have HR2 := Lib.hid (keep_row hb2 HR1.out)
        obtain ⟨m0, m1, m2, p0, p1, p2⟩ := row3 HR2.out
        obtain ⟨ok, hok⟩ : ∃ ok, ok = (isFrac b ns ds b (wv ns) (wv ds) && decide (Nat.gcd (wv ns) (wv ds) = 1)) := ⟨_, rfl⟩
        rw [← hok]
        have Hok := Lib.hid hok
        clear hok
        go_wp2
        have hbX2 := bthen hbX hb2
        obtain ⟨hx0, hx1, hx2, -, -, -⟩ := row3 (row3_set (x := .bool b) (y := a1) (z := a2) HR2.out)
        have hn1' := natv_row3 (x := .bool b) (y := a1) (z := a2) IsS.nil IsS.nil hn1 HR2.out
        have hn2' := natv_row3 (x := .bool b) (y := a1) (z := a2) IsS.nil IsS.nil hn2 HR2.out
        have hbY := bset (i := 2) (u := a2) (bset (i := 1) (u := a1) (bset (i := 0) (u := .bool b) hbX2 (Nat.le_succ _)) (Nat.le_succ _)) (Nat.le_succ _)
        refine bodyPost_ret (v := .tuple #[.agg #[.bool b, a1, a2], .bool ok]) ?_ rfl ⟨_, rfl, b, a1, a2, ok, rfl, hSa1, hSa2, hbY, fun h => ?_⟩
        · simp [results, Try.results5, go_sem, hx0, hx1, hx2]
        · rw [Hok.out, Bool.and_eq_true, decide_eq_true_iff] at h
          exact ⟨rfl, by omega, by omega, by omega, h.1, h.2, hn1', hn2'⟩
end Go.Proofs.Ytlapgbkngkejpaa

/-
Signs: SignOf, the thin package's RatSign, RatIsInt. No condition.
-/
namespace Go.Proofs.Ytlapgbkngkejpaa
open Go.RowKit

def sg (neg : Bool) (n : Nat) : Int := if n = 0 then 0 else if neg then -1 else 1
theorem sg_nw (neg : Bool) (n : Nat) : sgnI neg (nw n) = sg neg n := by
  unfold sgnI sg
  by_cases h : n = 0
  · rw [if_pos h, if_pos (nw_eq_zero.2 h)]
  · rw [if_neg h, if_neg (fun e => h (nw_eq_zero.1 e))]
theorem nl_eq_zero {n : Nat} : nl n = 0 ↔ n = 0 := ⟨fun h => by rcases Nat.eq_zero_or_pos n with h' | h'; exact h'; have := nl_pos h'; omega, fun h => by rw [h]; rfl⟩
theorem sg_nl (neg : Bool) (n : Nat) : sgnI neg (nl n) = sg neg n := by
  unfold sgnI sg
  by_cases h : n = 0
  · rw [if_pos h, if_pos (nl_eq_zero.2 h)]
  · rw [if_neg h, if_neg (fun e => h (nl_eq_zero.1 e))]
theorem sg_and (neg : Bool) (n : Nat) : sg (neg && decide (0 < n)) n = sg neg n := by
  unfold sg
  by_cases h : n = 0
  · rw [if_pos h, if_pos h]
  · rw [decide_eq_true (show 0 < n by omega), Bool.and_true]
theorem sg_bd (neg : Bool) (n : Nat) : -1 ≤ sg neg n ∧ sg neg n ≤ 1 := by unfold sg; split; omega; split <;> omega
end Go.Proofs.Ytlapgbkngkejpaa

/-
The statement on a fraction's sign. No condition.
-/
namespace Go.Proofs.Ytlapgbkngkejpaa
open Go.RowKit

theorem ks6B {W X : World} {k g : Nat} {a b c d e f : Value} (c0 : W.cell? ⟨k, 0, none⟩ = some a) (c1 : W.cell? ⟨k, 1, none⟩ = some b) (c2 : W.cell? ⟨k, 2, none⟩ = some c)
    (d0 : W.cell? ⟨g, 0, none⟩ = some d) (d1 : W.cell? ⟨g, 1, none⟩ = some e) (d2 : W.cell? ⟨g, 2, none⟩ = some f) (h : Below W.heap.size W X) :
    Below W.heap.size W X ∧ X.cell? ⟨k, 0, none⟩ = some a ∧ X.cell? ⟨k, 1, none⟩ = some b ∧ X.cell? ⟨k, 2, none⟩ = some c ∧ X.cell? ⟨g, 0, none⟩ = some d ∧ X.cell? ⟨g, 1, none⟩ = some e ∧ X.cell? ⟨g, 2, none⟩ = some f :=
  ⟨h, ks6 c0 c1 c2 d0 d1 d2 h⟩
end Go.Proofs.Ytlapgbkngkejpaa

/-
The package's fractions: Set, Abs, Neg; the thin package's RatAbs, RatNeg. No condition.
-/
namespace Go.Proofs.Ytlapgbkngkejpaa
open Go.RowKit

theorem rowoth {w : World} {g b i : Nat} {o : Obj} (u : Value) (h : w.heap[g]? = some o) (hne : g ≠ b) : (w.setCell ⟨b, i, none⟩ u).heap[g]? = some o := (heap_setCell_other w ⟨b, i, none⟩ g u (by simpa using hne)).trans h
theorem RatP.setNeg {w : World} {B b n d : Nat} {neg : Bool} (h : RatP w B b neg n d) (x : Bool) : RatP (w.setCell ⟨b, 0, none⟩ (.bool x)) B b x n d := by
  obtain ⟨v1, v2, h1, h2, h3, h4⟩ := h
  exact ⟨v1, v2, h1, rowset (i := 0) (.bool x) h2, h3.away h2 (by decide) 0 _, h4.away h2 (by decide) 0 _⟩
theorem rw_row3 {w : World} {k T : Nat} {a : Bool} {b c x y z v : Value} {ds : List Nat} (hv : RW w v ds) (hb : IsS b) (hc : IsS c) (h : w.heap[k]? = some (.cells #[.bool a, b, c] T (0, 0))) :
    RW (((w.setCell ⟨k, 0, none⟩ x).setCell ⟨k, 1, none⟩ y).setCell ⟨k, 2, none⟩ z) v ds := by
  refine ⟨⟨hv.ri.isS, hv.ri.len, fun i hi => ?_⟩, hv.lt⟩
  have hcell := hv.ri.cell i hi
  have hne : sBlk v ≠ k := by
    intro he
    rw [he, cell_of_row w k _ _ _ _ h] at hcell
    obtain ⟨b1, b2, b3, rfl⟩ := hb.form
    obtain ⟨c1, c2, c3, rfl⟩ := hc.form
    rcases Nat.lt_or_ge (sOff v + i) 3 with h3 | h3
    · rcases (by omega : sOff v + i = 0 ∨ sOff v + i = 1 ∨ sOff v + i = 2) with e | e | e <;> rw [e] at hcell <;> simp at hcell
    · rw [Array.getElem?_eq_none (by simpa using h3)] at hcell; cases hcell
  have hh : (((w.setCell ⟨k, 0, none⟩ x).setCell ⟨k, 1, none⟩ y).setCell ⟨k, 2, none⟩ z).heap[sBlk v]? = w.heap[sBlk v]? := by
    rw [heap_setCell_other _ _ _ _ (by simpa using hne), heap_setCell_other _ _ _ _ (by simpa using hne), heap_setCell_other _ _ _ _ (by simpa using hne)]
  exact (World.cell?_of_block hh).trans hcell
theorem neg_bool (b : Bool) (n : Nat) : ((decide (0 < nw n) && !(b && decide (0 < n))) && decide (0 < n)) = (!b && decide (0 < n)) := by
  rcases Nat.eq_zero_or_pos n with h | h
  · subst h; simp
  · rw [decide_eq_true h, decide_eq_true (nw_pos h)]; simp
end Go.Proofs.Ytlapgbkngkejpaa

/-
The thin package's RatKept. No condition.
-/
namespace Go.Proofs.Ytlapgbkngkejpaa
open Go.RowKit

set_option maxRecDepth 100000 in
set_option maxHeartbeats 1600000 in
theorem impKept (b : Bool) (v1 v2 : Value) (ns ds : List Nat) (w : World) (h1 : RW w v1 ns) (h2 : RW w v2 ds) (hl1 : ns.length ≤ 10000) (hl2 : ds.length ≤ 10000) (hd0 : 0 < wv ds) :
    Calls Try.prog 6 #[.agg #[.bool b, v1, v2]] w fun e w' => ∃ r1 r2, e = .returned (.tuple #[.agg #[.bool (b && decide (0 < wv ns)), r1, r2], .bool true]) ∧ RW w' r1 (wds (wv ns)) ∧ RW w' r2 (wds (wv ds)) ∧ Below w.heap.size w w' := by
  have hS1 := h1.isS
  have hS2 := h2.isS
  have hna : nw (wv ns) ≤ 100000 := Nat.le_trans (nw_le (wv_lt h1.lt)) (by omega)
  have hda : nw (wv ds) ≤ 100000 := Nat.le_trans (nw_le (wv_lt h2.lt)) (by omega)
  have hab := ((Below.refl w.heap.size w).alloc (Nat.le_refl _) (.cells #[.bool b, v1, v2] 26)).alloc ((Below.refl w.heap.size w).alloc (Nat.le_refl _) (.cells #[.bool b, v1, v2] 26)).size (.cells #[.bool false, .slice none 0 0, .slice none 0 0] 26)
  obtain ⟨W, hW⟩ : ∃ W, W = (w.alloc (.cells #[.bool b, v1, v2] 26)).alloc (.cells #[.bool false, .slice none 0 0, .slice none 0 0] 26) := ⟨_, rfl⟩
  have hrow0 : W.heap[w.heap.size]? = some (.cells #[.bool b, v1, v2] 26 (0, 0)) := by rw [hW]; exact box_row ((Below.refl _ _).alloc (Nat.le_refl _) _)
  have hrow1 : W.heap[w.heap.size + 1]? = some (.cells #[.bool false, .slice none 0 0, .slice none 0 0] 26 (0, 0)) := by
    rw [hW]
    have := box_row (Below.refl _ ((w.alloc (.cells #[.bool b, v1, v2] 26)).alloc (.cells #[.bool false, .slice none 0 0, .slice none 0 0] 26)))
    simpa using this
  rw [← hW] at hab
  have hWs := hab.size
  obtain ⟨x0, x1, x2, -, -, -⟩ := row3 hrow0
  have hWlt : w.heap.size < W.heap.size := (heap_alloc_lt (o := .cells #[] 0) hrow0).2
  have R1 := Lib.hid (h1.below hab)
  have R2 := Lib.hid (h2.below hab)
  have H1 := Lib.hid hrow1
  obtain ⟨x, hx⟩ : ∃ x, x = (b && decide (0 < wv ns)) := ⟨_, rfl⟩
  have hxx : (x && decide (0 < wv ns)) = x := by rw [hx, Bool.and_assoc, Bool.and_self]
  have HX := Lib.hid hx
  have HXX := Lib.hid hxx
  rw [← hx]
  clear hrow0 hrow1 h1 h2 hx hxx
  go_enter Try.func6, Try.ntmps6
  go_upto_region 1 with fail
  rw [← hW]
  clear hW
  go_wp2_with fail
  refine (rat_any b v1 v2 ns ds _ R1.out R2.out (by omega) (by omega)).mono ?_
  rintro _ w1 ⟨g, rfl, hR, hb1⟩
  rw [← HX.out] at hR
  have HR := Lib.hid hR
  have HB1 := Lib.hid hb1
  clear hR hb1 x0 x1 x2
  go_wp2_with fail
  refine (gobEncode g W.heap.size x _ _ w1 HR.out hna hda).mono ?_
  rintro _ w2 ⟨v, rfl, ⟨ca, cb, hri, hnc, hdc, hca, hcb⟩, hb2⟩
  have hSv := hri.isS
  have hvlt := hri.lt (by rw [ints_length, kept_len]; omega)
  have hb12 := bthen HB1.out hb2
  have ha2 := (Below.refl w2.heap.size w2).alloc (Nat.le_refl _) (.cells #[.bool false, .slice none 0 0, .bool false, .slice none 0 0] 53)
  have hz2 := box_row (cs := #[.bool false, .slice none 0 0, .bool false, .slice none 0 0]) (T := 53) (Below.refl _ (w2.alloc (.cells #[.bool false, .slice none 0 0, .bool false, .slice none 0 0] 53)))
  have HDE := Lib.hid (gobDecode w2.heap.size w2.heap.size v x ca cb _ _ _ hz2 (hri.below ha2) (by omega) hnc hdc hca hcb (Nat.le_refl _))
  have HB2 := Lib.hid (bthen hb12 ha2)
  have hs2 := hb12.size
  clear hri hvlt hb2 hb12 ha2 hz2 hnc hdc
  go_wp2_with fail
  refine HDE.out.mono ?_
  rintro _ w3 ⟨rfl, hR3, hb3⟩
  have HR3 := Lib.hid hR3
  have HB3 : Hid (Below W.heap.size W w3) := Lib.hid (HB2.out.trans (hb3.mono hs2))
  clear hR3 hb3
  go_wp2_with fail
  refine (frac_any w2.heap.size w2.heap.size x _ _ w3 HR3.out hd0 (by omega) (by omega)).mono ?_
  rintro _ w4 ⟨r1, r2, rfl, hr1, hr2, hb4⟩
  rw [HXX.out]
  have hSr1 := hr1.isS
  have hSr2 := hr2.isS
  have hb34 := bthen HB3.out hb4
  have hrw := keep_row hb34 H1.out
  obtain ⟨k0, k1, k2, f0, f1, f2⟩ := row3 hrw
  have q3 := row3_set (x := .bool x) (y := r1) (z := r2) hrw
  obtain ⟨e0, e1, e2, -, -, -⟩ := row3 q3
  have a1 := rw_row3 (x := .bool x) (y := r1) (z := r2) hr1 IsS.nil IsS.nil hrw
  have a2 := rw_row3 (x := .bool x) (y := r1) (z := r2) hr2 IsS.nil IsS.nil hrw
  have b1 := bset3 (a := .bool x) (b := r1) (c := r2) (hab.trans (hb34.mono hWs)) (show w.heap.size ≤ w.heap.size + 1 by omega)
  have A1 := Lib.hid a1
  have A2 := Lib.hid a2
  have B1 := Lib.hid b1
  clear hr1 hr2 hb4 hb34 hrw q3 a1 a2 b1
  go_wp2
  refine bodyPost_ret (v := .tuple #[.agg #[.bool x, r1, r2], .bool true]) ?_ rfl ⟨r1, r2, rfl, A1.out, A2.out, B1.out⟩
  simp [results, Try.results6, go_sem, e0, e1, e2]
end Go.Proofs.Ytlapgbkngkejpaa

/-
The statement on a fraction that is kept as bytes. No condition.
-/
namespace Go.Proofs.Ytlapgbkngkejpaa
open Go.RowKit

theorem isFrac_kept (b : Bool) (n d : Nat) : isFrac (b && decide (0 < n)) (wds n) (wds d) b n d = true := by
  unfold isFrac isNum; simp
set_option maxRecDepth 100000 in
set_option maxHeartbeats 1600000 in
theorem lawRatKept (b : Bool) (v1 v2 : Value) (ns ds : List Nat) (w : World) (h1 : RW w v1 ns) (h2 : RW w v2 ds) :
    Calls Try.prog 3 #[.agg #[.bool b, v1, v2]] w fun e w' => e = .returned (.bool true) ∧ Below w.heap.size w w' := by
  have hS1 := h1.isS
  have hS2 := h2.isS
  have hab := (Below.refl w.heap.size w).alloc (Nat.le_refl _) (.cells #[.bool b, v1, v2] 26)
  obtain ⟨W, hW⟩ : ∃ W, W = w.alloc (.cells #[.bool b, v1, v2] 26) := ⟨_, rfl⟩
  have hrow : W.heap[w.heap.size]? = some (.cells #[.bool b, v1, v2] 26 (0, 0)) := by rw [hW]; exact box_row (Below.refl _ _)
  rw [← hW] at hab
  obtain ⟨x0, x1, x2, -, -, -⟩ := row3 hrow
  have hWlt : w.heap.size < W.heap.size := (heap_alloc_lt (o := .cells #[] 0) hrow).2
  have HR := Lib.hid hrow
  have R1 := Lib.hid (h1.below hab)
  have R2 := Lib.hid (h2.below hab)
  have hWs := hab.size
  clear hrow h1 h2
  go_enter Try.func3, Try.ntmps3
  go_upto_region 1 with fail
  rw [← hW]
  clear hW
  go_wp2_with fail
  refine (zzFits3_any b v1 v2 ns ds W R1.out R2.out).mono ?_
  rintro _ w1 ⟨rfl, hb1⟩
  obtain ⟨y0, y1, y2, -, -, -⟩ := row3 (keep_row hb1 HR.out)
  have bb1 := hab.trans (hb1.mono hWs)
  obtain ⟨fits, hfits⟩ : ∃ f, f = (decide (ns.length ≤ 2147483647) && decide (ds.length ≤ 2147483647)) := ⟨_, rfl⟩
  rw [← hfits]
  clear hfits
  have HB1 := Lib.hid hb1
  clear hb1
  cases fits with
  | false =>
    go_wp2
    go_ret
    exact ⟨rfl, bb1⟩
  | true =>
    go_wp2_with fail
    refine (fraction_any b v1 v2 40 ns ds w1 (R1.out.below HB1.out) (R2.out.below HB1.out) (by decide)).mono ?_
    rintro _ w2 ⟨_, rfl, bb, a1, a2, ok, rfl, hA1, hA2, hb2, hok⟩
    have HOK := Lib.hid hok
    have HB2 := Lib.hid (bthen HB1.out hb2)
    clear hok hb2
    have hr2 := keep_row HB2.out HR.out
    have ha3 := (Below.refl w2.heap.size w2).alloc (Nat.le_refl _) (.cells #[.bool bb, a1, a2] 31)
    go_upto_region 4 with fail
    obtain ⟨X, hX⟩ : ∃ X, X = w2.alloc (.cells #[.bool bb, a1, a2] 31) := ⟨_, rfl⟩
    have hrX : X.heap[w2.heap.size]? = some (.cells #[.bool bb, a1, a2] 31 (0, 0)) := by rw [hX]; exact box_row (Below.refl _ _)
    rw [← hX] at ha3 ⊢
    clear hX
    obtain ⟨c0, c1, c2, -, -, -⟩ := row3 (keep_row ha3 hr2)
    have hWX := bthen HB2.out ha3
    have hwX := hab.trans (hWX.mono hWs)
    cases ok with
    | false =>
      go_wp2
      go_ret
      exact ⟨rfl, hwX⟩
    | true =>
      obtain ⟨hbb, hn40, hd40, hdp, hfr, -, hN1, hN2⟩ := HOK.out rfl
      subst hbb
      have Q1 := Lib.hid (R1.out.below hWX)
      have Q2 := Lib.hid (R2.out.below hWX)
      have N1 := Lib.hid (hN1.below ha3)
      have N2 := Lib.hid (hN2.below ha3)
      have hnn : nl (wv ns) ≤ 1000000000 := Nat.le_trans (nl_wv R1.out.lt) (by omega)
      have hnd : nl (wv ds) ≤ 1000000000 := Nat.le_trans (nl_wv R2.out.lt) (by omega)
      have hwn : (wds (wv ns)).length ≤ 1000000000 := by rw [wds_length]; exact Nat.le_trans (nw_le (wv_lt R1.out.lt)) (by omega)
      have hwd : (wds (wv ds)).length ≤ 1000000000 := by rw [wds_length]; exact Nat.le_trans (nw_le (wv_lt R2.out.lt)) (by omega)
      have HI := Lib.hid (impKept bb v1 v2 ns ds X Q1.out Q2.out (Nat.le_trans hn40 (by decide)) (Nat.le_trans hd40 (by decide)) hdp)
      obtain ⟨x, hx⟩ : ∃ x, x = (bb && decide (0 < wv ns)) := ⟨_, rfl⟩
      rw [← hx] at HI
      have HIS : Hid (∀ r1 r2 w', RW w' r1 (wds (wv ns)) → RW w' r2 (wds (wv ds)) → Below X.heap.size X w' → Calls Try.prog 7 #[.agg #[.bool x, r1, r2], .agg #[.bool bb, a1, a2]] w' fun e w'' => e = .returned (.bool true) ∧ Below w'.heap.size w' w'') := Lib.hid (fun r1 r2 w' g1 g2 g3 => by
        have := isFraction_any x bb r1 r2 a1 a2 _ _ _ _ w' g1 g2 (N1.out.below g3) (N2.out.below g3) hwn hwd hnn hnd
        rw [show isFrac x (wds (wv ns)) (wds (wv ds)) bb (wv ns) (wv ds) = true by rw [hx]; exact isFrac_kept _ _ _] at this
        exact this)
      have HRX := Lib.hid hrX
      have HwX := Lib.hid hwX
      have hXs := hwX.size
      clear hN1 hN2 hfr hn40 hd40 hdp hnn hnd hwn hwd hrX hx hwX hWX ha3 bb1
      go_wp2_with fail
      refine HI.out.mono ?_
      rintro _ w3 ⟨r1, r2, rfl, hr1, hr2, hb3⟩
      have hSr1 := hr1.isS
      have hSr2 := hr2.isS
      have ha4 := (Below.refl w3.heap.size w3).alloc (Nat.le_refl _) (.cells #[.bool x, r1, r2] 26)
      go_upto_region 7 with fail
      obtain ⟨Y, hY⟩ : ∃ Y, Y = w3.alloc (.cells #[.bool x, r1, r2] 26) := ⟨_, rfl⟩
      have hrY : Y.heap[w3.heap.size]? = some (.cells #[.bool x, r1, r2] 26 (0, 0)) := by rw [hY]; exact box_row (Below.refl _ _)
      rw [← hY] at ha4 ⊢
      clear hY
      have hXY := bthen hb3 ha4
      obtain ⟨d0, d1, d2, -, -, -⟩ := row3 hrY
      obtain ⟨e0, e1, e2, -, -, -⟩ := row3 (keep_row hXY HRX.out)
      have HC := Lib.hid (HIS.out r1 r2 Y (hr1.below ha4) (hr2.below ha4) hXY)
      have HXY := Lib.hid hXY
      clear hr1 hr2 hb3 ha4 hXY hrY c0 c1 c2
      go_wp2_with fail
      refine HC.out.mono ?_
      rintro _ w4 ⟨rfl, hb4⟩
      have hfin := HwX.out.trans ((bthen HXY.out hb4).mono hXs)
      go_wp2
      go_ret
      exact ⟨rfl, hfin⟩
end Go.Proofs.Ytlapgbkngkejpaa
