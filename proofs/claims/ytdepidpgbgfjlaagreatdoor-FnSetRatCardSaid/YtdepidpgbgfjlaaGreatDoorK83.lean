/-
Texts of this proof, joined: SeC SeD AhA SeE. No condition.
-/
import Derived.Test.YtdepidpgbgfjlaaGreatDoorK49
import Derived.Test.YtdepidpgbgfjlaaGreatDoorK50
import Derived.Test.YtdepidpgbgfjlaaGreatDoorK63
import Derived.Test.YtdepidpgbgfjlaaGreatDoorK64
import Derived.Test.YtdepidpgbgfjlaaGreatDoorK65
import Derived.Test.YtdepidpgbgfjlaaGreatDoorK67
import Derived.Test.YtdepidpgbgfjlaaGreatDoorK70
import Derived.Test.YtdepidpgbgfjlaaGreatDoorK80
import Derived.Test.YtdepidpgbgfjlaaGreatDoorK82
namespace Go.Proofs.YtdepidpgbgfjlaaGreatDoor
open Go.RowKit

theorem quN_one (q N : Nat) : quN q N 1 = N * 2 ^ (quK q N 1 + 1) := by
  unfold quN qN qS
  rw [Nat.div_one, Nat.mod_one, Nat.pow_succ]
  simp [Nat.mul_comm, Nat.mul_left_comm]
theorem addR_one {w : World} {B b q m N : Nat} {neg : Bool} (h : FVal w B b q m (sbA q m neg N) (fO N) neg (rQ q m neg 0 N) (0 + rk q N)) : AddR w B b q m neg (sI neg (quN q N 1)) (-((quK q N 1 : Nat) : Int) - 1) := by
  rcases Nat.eq_zero_or_pos N with h0 | h0
  · subst h0
    rw [quN_zero, sI_zero]
    obtain ⟨v, e, h1, -⟩ := h
    exact AddR.zero h1
  · have hf : fO N = 1 := by unfold fO; rw [if_neg (by omega)]
    have ha : sbA q m neg N = rA q m neg 0 N := by unfold sbA; rw [if_neg (by omega)]
    rw [hf, ha] at h
    have hp : 0 < quN q N 1 := by rw [quN_one]; exact Nat.mul_pos h0 (Nat.two_pow_pos _)
    refine AddR.pos hp (fval_trans h h0 ?_)
    rw [quN_one]
    exact ⟨quK q N 1 + 1, 0, by simp, by push_cast; omega⟩
theorem FloatAt.only {w w' : World} {B g c p m f M p2 m2 f2 : Nat} {n n2 : Bool} {E a2 E2 : Int} {v2 : Value} (h : FloatAt w B g p m f n M E) (hr : FltR w c p2 m2 a2 f2 n2 v2 E2) (hne : g ≠ c) (ho : Frm c w w') : FloatAt w' B g p m f n M E := by
  obtain ⟨h1, r, x, h2, h3⟩ := h
  refine ⟨h1, r, x, (ho g h2.lt hne).trans h2, fun hf => ?_⟩
  obtain ⟨h4, h5⟩ := h3 hf
  exact ⟨h4, h5.only hr fun k hk hk2 => ho k hk hk2⟩
set_option maxRecDepth 100000 in
set_option maxHeartbeats 6400000 in
theorem setRat_any (b B g Bg p0 m f0 N D : Nat) (a0 e0 : Int) (nz neg : Bool) (w : World) (h : FltR w b p0 m a0 f0 nz (.slice none 0 0) e0) (hB : B ≤ b) (hx : RatP w Bg g neg N D) (hbg : b ≠ g) (hD : 0 < D) (hbN : bl N ≤ 2400) (hbD : bl D ≤ 2400) (hp0 : p0 ≤ 64000) (hm : m ≤ 5) (hK : DivW w) (dg : 3 < B) :
    Calls Tryz.prog 65 #[.pointer (some ⟨b, 0, none⟩), .pointer (some ⟨g, 0, none⟩)] w fun e' w' => e' = .returned (.pointer (some ⟨b, 0, none⟩)) ∧
      AddR w' B b (pOf p0 (max (max (bl N) 64) (max (bl D) 64))) m neg (sI neg (quN (pOf p0 (max (max (bl N) 64) (max (bl D) 64))) N D)) (-((quK (pOf p0 (max (max (bl N) 64) (max (bl D) 64))) N D : Nat) : Int) - 1) ∧ Below B w w' := by
  obtain ⟨v1, v2, hgB, hrg, ho1, ho2⟩ := hx
  have hBw : B ≤ w.heap.size := Nat.le_of_lt (Nat.lt_of_le_of_lt hB h.lt)
  have hv2 := ho2.rw' (wds_all D)
  have hnN : nw N ≤ 1000000 := by
    rcases Nat.eq_zero_or_pos N with e | e
    · subst e; decide
    · have := nw_bl e; omega
  have hnD : nw D ≤ 1000000 := by have := nw_bl hD; omega
  have g3 : w.cell? ⟨g, 3, none⟩ = some v2 := (row_at (i := 3) hrg rfl).1
  obtain ⟨ci, hci⟩ : ∃ c, c = (cmpN D 1 == 0) := ⟨_, rfl⟩
  have HI := Lib.hid (ratIsInt g v2 D w g3 hv2 hD (by omega))
  rw [← hci] at HI
  have HCI : Hid (ci = true → D = 1) := Lib.hid (fun hc => by rw [hci] at hc; exact (cmpN_zero D 1).1 (by simpa using hc))
  have hS1 := ho1.isS
  have hS2 := ho2.isS
  have hL2 : 0 < sLen v2 := by rw [ho2.len, cellsW_length, wds_length]; exact nw_pos hD
  have H0 := Lib.hid h
  have HG := Lib.hid hrg
  have O1 := Lib.hid ho1
  have O2 := Lib.hid ho2
  have HK := Lib.hid hK
  have hglt := (Array.getElem?_eq_some_iff.1 hrg).1
  have hblt := h.lt
  clear h hrg ho1 ho2 hv2 hci hK g3
  cases ci with
  | true =>
    obtain rfl := HCI.out rfl
    go_enter Tryz.func65, Tryz.ntmps65
    go_wp2_with fail
    refine HI.out.mono ?_
    rintro _ w1 ⟨rfl, hb1⟩
    have hr1 := keep_row hb1 HG.out
    have HS := Lib.hid (setIntF_at b B g 0 Bg p0 m f0 N v1 a0 e0 nz neg w1 (H0.out.below hb1) hB (row_at (i := 0) hr1 rfl).1 (row_at (i := 1) hr1 rfl).1 (O1.out.below hb1) hbg (by omega) hm hnN)
    have HB1 := Lib.hid (hb1.mono hBw)
    clear hr1 hb1
    go_wp2_with fail
    refine (ratNum g w1).mono ?_
    rintro _ _ ⟨rfl, rfl⟩
    go_wp2_with fail
    refine HS.out.mono ?_
    rintro _ w2 ⟨rfl, hF, hb2⟩
    have HF := Lib.hid hF
    have HB2 := Lib.hid (HB1.out.trans hb2)
    clear hF hb2 HS
    go_wp2
    go_ret
    refine ⟨rfl, ?_, HB2.out⟩
    have e1 : pOf p0 (max (max (bl N) 64) (max (bl 1) 64)) = pD p0 (max (bl N) 64) := by
      have : bl 1 = 1 := by decide
      unfold pOf pD; rw [this]; split <;> omega
    rw [e1]
    exact addR_one HF.out
  | false =>
    clear HCI
    go_enter Tryz.func65, Tryz.ntmps65
    go_wp2_with fail
    refine HI.out.mono ?_
    rintro _ w1 ⟨rfl, hb1⟩
    obtain ⟨u, hu⟩ : ∃ u, u = w1.heap.size := ⟨_, rfl⟩
    obtain ⟨X, hX⟩ : ∃ X, X = (w1.alloc (.cells #[.int .u32 0, .int .u8 0, .int .i8 0, .int .u8 0, .bool false, .slice none 0 0, .int .i32 0] 155)).alloc (.cells #[.int .u32 0, .int .u8 0, .int .i8 0, .int .u8 0, .bool false, .slice none 0 0, .int .i32 0] 155) := ⟨_, rfl⟩
    have hbX : Below w1.heap.size w1 X := by rw [hX]; exact bthen (fbone _) (fbone _)
    have hA : FltR X u 0 0 0 0 false (.slice none 0 0) 0 := by rw [hX]; exact keep_row (fbone _) (row_new _ _ _ _ hu.symm)
    have hBx : FltR X (u + 1) 0 0 0 0 false (.slice none 0 0) 0 := by rw [hX]; exact row_new _ _ _ _ (by simp [hu])
    have hXz : X.heap.size = u + 2 := by rw [hX]; simp [hu]
    have hw1 := hb1.size
    have hgu : u ≠ g := by omega
    have hgu1 : u + 1 ≠ g := by omega
    have hbu : b ≠ u := by omega
    have hbu1 : b ≠ u + 1 := by omega
    have hBu : B ≤ u := by omega
    have hrX := keep_row hbX (keep_row hb1 HG.out)
    have HSA := Lib.hid (setIntF_zero u u g 0 Bg 0 0 0 N v1 0 0 false neg X hA (Nat.le_refl _) (row_at (i := 0) hrX rfl).1 (row_at (i := 1) hrX rfl).1 ((O1.out.below hb1).below hbX) hgu rfl hnN)
    have HX1 := Lib.hid hb1
    have HXX := Lib.hid hbX
    have HBX := Lib.hid hBx
    clear hA hBx hrX
    go_upto_region 4 with fail
    rw [← hX, ← hu]
    have HU := Lib.hid hu
    have HXZ := Lib.hid hXz
    clear hX hu hXz
    go_wp2_with fail
    refine (ratNum g X).mono ?_
    rintro _ _ ⟨rfl, rfl⟩
    go_wp2_with fail
    refine HSA.out.mono ?_
    rintro _ w2 ⟨rfl, hFA, hb2, hf2⟩
    have hb12 : Below w1.heap.size w1 w2 := HXX.out.trans (by rw [← HU.out]; exact hb2)
    have hz2 : X.heap.size ≤ w2.heap.size := hb2.size
    have hB2 : FltR w2 (u + 1) 0 0 0 0 false (.slice none 0 0) 0 := (hf2 (u + 1) (by have := HXZ.out; omega) (by omega)).trans HBX.out
    have hr2 := keep_row hb12 (keep_row HX1.out HG.out)
    have HFA := Lib.hid hFA
    have g3 : w2.cell? ⟨g, 3, none⟩ = some v2 := (row_at (i := 3) hr2 rfl).1
    have HSB := Lib.hid (setIntF_zero (u + 1) u g 2 Bg 0 0 0 D v2 0 0 false false w2 hB2 (Nat.le_succ _) (row_at (i := 2) hr2 rfl).1 (row_at (i := 3) hr2 rfl).1 ((O2.out.below HX1.out).below hb12) hgu1 rfl hnD)
    have HB2 := Lib.hid hB2
    have H12 := Lib.hid hb12
    clear HSA hFA hb2 hf2 hb12 hB2 hr2
    go_wp2_with fail
    refine (ratDenom g v2 w2 g3 hS2 hL2).mono ?_
    rintro _ _ ⟨rfl, rfl⟩
    go_wp2_with fail
    refine HSB.out.mono ?_
    rintro _ w3 ⟨rfl, hFB, hb3, hf3⟩
    have hFA3 := HFA.out.only HB2.out (by omega) hf3
    have hz3 : w2.heap.size ≤ w3.heap.size := hb3.size
    have hb13 : Below w1.heap.size w1 w3 := H12.out.trans (by rw [← HU.out]; exact hb3)
    have h3 : FltR w3 b p0 m a0 f0 nz (.slice none 0 0) e0 := (H0.out.below HX1.out).below hb13
    have hfD : fO D = 1 := by unfold fO; rw [if_neg (by omega)]
    rw [hfD] at hFB
    have hd1 : dyM (fO N) N = N := by unfold dyM fO; split <;> rename_i e <;> simp_all
    have hd2 : dyE (fO N) 0 = 0 := by unfold dyE; split <;> rfl
    have hf1 : fO N ≤ 1 := by unfold fO; split <;> omega
    have K3 : DivW w3 := (HK.out.below HX1.out).below hb13
    have hb03 : Below B w w3 := (HX1.out.mono hBw).trans (hb13.mono (by omega))
    have k1 : fO N = 1 → 0 < N ∧ bl N ≤ max (bl N) 64 ∧ bl N ≤ 2400 ∧ -1050000000 ≤ (0 : Int) ∧ (0 : Int) ≤ 1050000000 := fun hc => by
      have : 0 < N := Nat.pos_of_ne_zero fun h0 => by rw [h0] at hc; cases hc
      omega
    have k2 : (1 : Nat) = 1 → 0 < D ∧ bl D ≤ max (bl D) 64 ∧ bl D ≤ 2400 ∧ -600000000 ≤ (0 : Int) ∧ (0 : Int) ≤ 600000000 := fun _ => by omega
    clear HSB HFA HB2 H12 hb3 hf3 hb13 g3
    by_cases hp : p0 = 0
    · have t0 : ((p0 : Int) == 0) = true := by rw [hp]; rfl
      obtain ⟨P1, hP1⟩ : ∃ P, P = max (bl N) 64 := ⟨_, rfl⟩
      obtain ⟨P2, hP2⟩ : ∃ P, P = max (bl D) 64 := ⟨_, rfl⟩
      rw [← hP1] at hFA3 k1
      rw [← hP2] at hFB k2
      have HPE := Lib.hid (And.intro hP1 hP2)
      obtain ⟨q, hq⟩ : ∃ q, q = max P1 P2 := ⟨_, rfl⟩
      have em : max (P1 : Int) (P2 : Int) = (q : Int) := by omega
      have hqp : pOf q (max P1 P2) = pOf p0 (max P1 P2) := by unfold pOf; rw [if_pos hp, if_neg (by omega)]; exact hq
      have HQ := Lib.hid (quoF_any b B u u u (u + 1) q m P1 0 P2 0 f0 (fO N) 1 N D a0 e0 0 0 nz neg false (w3.setCell ⟨b, 0, none⟩ (.int .u32 (q : Int))) (h3.s0 q) hB hf1 rfl (h3.at 0 _ hbu hFA3) (h3.at 0 _ hbu1 hFB) k1 k2 hbu hbu1 (by omega) (by omega) (by omega) (by omega) (by omega) hm (K3.belowB (bset (Below.refl B w3) hB) dg) dg)
      rw [hd1, hd2, hqp] at HQ
      have HB3 := Lib.hid (bset (i := 0) (u := .int .u32 (q : Int)) hb03 hB)
      obtain ⟨c0, c1, c2, c3, c4, c5, c6⟩ := h3.cells
      obtain ⟨f0', f1', f2', f3', f4', f5', f6'⟩ := h3.free
      obtain ⟨rA, xA, hrA⟩ := hFA3.row
      obtain ⟨rB, xB, hrB⟩ := hFB.row
      have a0c := hrA.cells.1
      have b0c := hrB.cells.1
      have hbu1' : ¬ b = u + 1 := hbu1
      have hbu' : ¬ b = u := hbu
      clear hFA3 hFB h3 hb03 K3 k1 k2 hd1 hd2 hp hP1 hP2 hq hqp hrA hrB c1 c2 c3 c4 c5 c6
      go_wp2_with fail
      refine HQ.out.mono ?_
      rintro _ w4 ⟨rfl, hR, hb4⟩
      have hq := Lib.hid hR
      have hb := Lib.hid (HB3.out.trans hb4)
      clear hR hb4 HQ
      go_wp2
      go_ret
      refine ⟨rfl, ?_, hb.out⟩
      have := hq.out
      rw [HPE.out.1, HPE.out.2] at this
      simpa using this
    · have t0 : ((p0 : Int) == 0) = false := by rw [beq_eq_false_iff_ne]; omega
      have HQ := Lib.hid (quoF_any b B u u u (u + 1) p0 m (max (bl N) 64) 0 (max (bl D) 64) 0 f0 (fO N) 1 N D a0 e0 0 0 nz neg false w3 h3 hB hf1 rfl hFA3 hFB k1 k2 hbu hbu1 hp0 (by omega) (by omega) (by omega) (by omega) hm K3 dg)
      rw [hd1, hd2] at HQ
      have HB3 := Lib.hid hb03
      obtain ⟨c0, c1, c2, c3, c4, c5, c6⟩ := h3.cells
      clear hFA3 hFB h3 hb03 K3 k1 k2 hd1 hd2 hp
      go_wp2_with fail
      refine HQ.out.mono ?_
      rintro _ w4 ⟨rfl, hR, hb4⟩
      have hq := Lib.hid hR
      have hb := Lib.hid (HB3.out.trans hb4)
      clear hR hb4 HQ
      go_wp2
      go_ret
      refine ⟨rfl, ?_, hb.out⟩
      have := hq.out
      simpa using this
theorem ksF {W X : World} {k : Nat} {a b c : Value} {T : TypeId} (hr : W.heap[k]? = some (.cells #[a, b, c] T (0, 0))) (h : Below W.heap.size W X) :
    X.cell? ⟨k, 0, none⟩ = some a ∧ X.cell? ⟨k, 1, none⟩ = some b ∧ X.cell? ⟨k, 2, none⟩ = some c := by
  obtain ⟨x, y, z, -, -, -⟩ := row3 (keep_row h hr)
  exact ⟨x, y, z⟩
theorem ksFR {X : World} {k t i : Nat} {a b c u : Value} (hk : t ≠ k) (h : X.cell? ⟨k, 0, none⟩ = some a ∧ X.cell? ⟨k, 1, none⟩ = some b ∧ X.cell? ⟨k, 2, none⟩ = some c) :
    (X.setCell ⟨t, i, none⟩ u).cell? ⟨k, 0, none⟩ = some a ∧ (X.setCell ⟨t, i, none⟩ u).cell? ⟨k, 1, none⟩ = some b ∧ (X.setCell ⟨t, i, none⟩ u).cell? ⟨k, 2, none⟩ = some c := by
  have hk' : ∀ j, (X.setCell ⟨t, i, none⟩ u).cell? ⟨k, j, none⟩ = X.cell? ⟨k, j, none⟩ := fun j => cell_other (by simpa using hk)
  simp only [hk']; exact h
def seP (q N D : Nat) : Nat := pOf q (max (max (bl N) 64) (max (bl D) 64))
theorem seP_bd {q N D k : Nat} (hq : q ≤ k) (hN : bl N ≤ k) (hD : bl D ≤ k) (hk : 64 ≤ k) : 0 < seP q N D ∧ seP q N D ≤ k := by
  unfold seP pOf; split <;> omega
set_option maxRecDepth 100000 in
set_option maxHeartbeats 6400000 in
theorem impSetRat (q k N D : Nat) (n : Bool) (v1 v2 : Value) (ns ds : List Nat) (w : World) (hv1 : RW w v1 ns) (hv2 : RW w v2 ds) (hN : wv ns = N) (hD : wv ds = D) (hbN : bl N ≤ 2000) (hbD : bl D ≤ 2000) (hD0 : 0 < D) (hl1 : ns.length ≤ 100000) (hl2 : ds.length ≤ 100000) (hq : q ≤ 2000) (hk : k ≤ 5) (hT : TabW w) (hK : DivW w) :
    Calls Tryz.prog 18 #[.int .u64 q, .int .i64 k, .agg #[.bool n, v1, v2]] w fun e' w' => ∃ z A, e' = .returned (.tuple #[z, .int .i64 A]) ∧ AddZ w' z A (seP q N D) k (n && decide (0 < N)) (sI (n && decide (0 < N)) (quN (seP q N D) N D)) (-((quK (seP q N D) N D : Nat) : Int) - 1) ∧ Below w.heap.size w w' := by
  have hS1 := hv1.isS
  have hS2 := hv2.isS
  have hab := (Below.refl w.heap.size w).alloc (Nat.le_refl _) (.cells #[.bool n, v1, v2] 27)
  have had := hab.alloc hab.size (.cells #[.int .u64 0, .int .i64 0, .int .i64 0, .bool false, .slice none 0 0, .int .i64 0] 39)
  obtain ⟨X, hX⟩ : ∃ X, X = (w.alloc (.cells #[.bool n, v1, v2] 27)).alloc (.cells #[.int .u64 0, .int .i64 0, .int .i64 0, .bool false, .slice none 0 0, .int .i64 0] 39) := ⟨_, rfl⟩
  have hr1 : X.heap[w.heap.size]? = some (.cells #[.bool n, v1, v2] 27 (0, 0)) := by
    rw [hX]; exact row_chain21
  have hr3 : X.heap[w.heap.size + 1]? = some (.cells #[.int .u64 0, .int .i64 0, .int .i64 0, .bool false, .slice none 0 0, .int .i64 0] 39 (0, 0)) := by
    rw [hX]; exact row_chain22
  rw [← hX] at had
  have V1 := Lib.hid (hv1.below had)
  have V2 := Lib.hid (hv2.below had)
  have HT := Lib.hid (hT.below had)
  have HK := Lib.hid (hK.below had)
  have HR1 := Lib.hid hr1
  have HR3 := Lib.hid hr3
  have hwX := Lib.hid had
  have hcc := Below.refl X.heap.size X
  have hXs := had.size
  have dg : 3 < X.heap.size := World.block_lt_of_cell? X _ HK.out
  have hN1 := Lib.hid (show w.heap.size + 1 ≠ w.heap.size by omega)
  have hX2 : w.heap.size + 2 ≤ X.heap.size := by rw [hX]; simp
  obtain ⟨zn, hzn⟩ : ∃ zn, zn = (n && decide (0 < N)) := ⟨_, rfl⟩
  obtain ⟨hpo0, hpo⟩ := seP_bd (q := q) hq hbN hbD (by decide)
  have HSR := Lib.hid (fun (W : World) (b g B1 : Nat) (h : FltR W b q k 0 0 false (.slice none 0 0) 0) (hB : X.heap.size ≤ b) (hx : RatP W B1 g zn N D) (hbg : b ≠ g) (hK : DivW W) =>
    setRat_any b X.heap.size g B1 q k 0 N D 0 0 false zn W h hB hx hbg hD0 (by omega) (by omega) (by omega) hk hK dg)
  have HRAT := Lib.hid (fun (W : World) (h1 : RW W v1 ns) (h2 : RW W v2 ds) => rat_any n v1 v2 ns ds W h1 h2 (by omega) (by omega))
  rw [hN, hD, ← hzn] at HRAT
  have hqk : quK (seP q N D) N D ≤ 5000 := by unfold quK; omega
  have hqb := quN_bl (seP q N D) N D
  change Hid (∀ (W : World) (b g B1 : Nat) (h : FltR W b q k 0 0 false (.slice none 0 0) 0) (hB : X.heap.size ≤ b) (hx : RatP W B1 g zn N D) (hbg : b ≠ g) (hK : DivW W), Calls _ _ _ _ fun e' w' => e' = .returned (.pointer (some ⟨b, 0, none⟩)) ∧ AddR w' X.heap.size b (seP q N D) k zn (sI zn (quN (seP q N D) N D)) (-((quK (seP q N D) N D : Nat) : Int) - 1) ∧ Below X.heap.size W w') at HSR
  rw [← hzn]
  obtain ⟨Z, hZ⟩ : ∃ Z, Z = seP q N D := ⟨_, rfl⟩
  rw [← hZ] at HSR hpo0 hpo hqk hqb ⊢
  obtain ⟨V, hV⟩ : ∃ V, V = sI zn (quN Z N D) := ⟨_, rfl⟩
  obtain ⟨XX, hXX⟩ : ∃ XX : Int, XX = -((quK Z N D : Nat) : Int) - 1 := ⟨_, rfl⟩
  have HXB : Hid (bl V.natAbs ≤ 1000000 ∧ -2120000000 ≤ XX ∧ XX ≤ 2120000000) := Lib.hid (by rw [hV, natAbs_sI, hXX]; omega)
  have HPO := Lib.hid (And.intro hpo hpo0)
  obtain ⟨A, hA⟩ : ∃ A, A = rA Z k (vN V) 0 V.natAbs := ⟨_, rfl⟩
  have hAb : -1 ≤ A ∧ A ≤ 1 := by rw [hA]; exact rA_bd _ _ _ _ _
  obtain ⟨f, hf⟩ : ∃ f, f = fO V.natAbs := ⟨_, rfl⟩
  have hf2' : f ≤ 2 := by rw [hf]; unfold fO; split <;> omega
  obtain ⟨sg, hsg⟩ : ∃ sg, sg = (if V = 0 then zn else vN V) := ⟨_, rfl⟩
  obtain ⟨R, hR⟩ : ∃ R, R = rQ Z k (vN V) 0 V.natAbs := ⟨_, rfl⟩
  obtain ⟨RX, hRX⟩ : ∃ RX, RX = XX + rk Z V.natAbs := ⟨_, rfl⟩
  have HRB : Hid (-2140000000 ≤ RX ∧ RX + bl R ≤ 2140000000) := Lib.hid (by rw [hRX, hR]; exact rQ_range HXB.out)
  have HIN := Lib.hid (fun (w' : World) (b : Nat) (h : AddR w' X.heap.size b Z k zn V XX) => (by unfold AddR at h; rw [← hA, ← hf, ← hsg, ← hR, ← hRX] at h; exact h : FVal w' X.heap.size b Z k A f sg R RX))
  have HOUT := Lib.hid (fun (w' : World) (z : Value) (h : RealV w' z Z k f sg R RX) => (by unfold AddZ; rw [← hA, ← hf, ← hsg, ← hR, ← hRX]; exact ⟨rfl, h⟩ : AddZ w' z A Z k zn V XX))
  rw [← hV, ← hXX] at HSR ⊢
  clear hv1 hv2 hN hD hab had hr1 hr3 hT hK hpo hpo0 hqk hqb hV hXX hzn hZ hA hf hsg hR hRX
  go_enter Tryz.func18, Tryz.ntmps18
  go_upto_region 1 with fail
  rw [← hX]
  clear hX
  first
    | (go_region_held3 (fun w' => w'.cell? ⟨w.heap.size, 0, none⟩ = some (.bool n) ∧ w'.cell? ⟨w.heap.size, 1, none⟩ = some v1 ∧ w'.cell? ⟨w.heap.size, 2, none⟩ = some v2)
        ((first | (refine ksF HR1.out ?_; with_reducible first | assumption | exact Below.drew hcc) | with_reducible exact ksFR hN1.out (ksFR hN1.out (ksFR hN1.out (ksFR hN1.out (ksFR hN1.out (ksFR hN1.out (ksF HR1.out hb7))))))))
        (first
          | (go_at_call 66; (with_reducible refine (HRAT.out _ (V1.out.below hb3) (V2.out.below hb3)).mono ?_); rintro _ w4 ⟨g1, rfl, hG, hb4⟩; have G0 := Lib.hid (GF.out.below hb4); have G1 := Lib.hid hG; have hne1 := Lib.hid (show g0 ≠ g1 by have := GF.out.lt; obtain ⟨_, _, h1, _⟩ := hG; omega); clear hG; have hb4 := bthen hb3 hb4)
          | (go_at_call 64; refine (fresh_all q k _ (by omega) (by omega)).mono ?_; rintro _ w3 ⟨g0, rfl, ⟨hg0, hF0⟩, hb3⟩; have hg0X : X.heap.size ≤ g0 := (by rw [hg0]; exact Nat.le_refl _); clear hg0; have GF := Lib.hid hF0; clear hF0; have hb3 : Below X.heap.size X w3 := bthen (Below.drew hcc) hb3)
          | (go_at_call 65; (with_reducible refine (HSR.out _ g0 g1 _ G0.out hg0X G1.out hne1.out (HK.out.below hb4)).mono ?_); rintro _ w6 ⟨rfl, hA6, hb6⟩; have F6 := Lib.hid (HIN.out _ _ hA6); clear hA6; have hb6 := bthenX hb4 hb6)
          | (go_at_call 63; (with_reducible refine (implBoth _ g0 Z k f A _ _ _ _ F6.out hf2' (by have := HPO.out; omega) (by omega) (fun _ => HPO.out.2) (fun _ => HRB.out) (HT.out.below hb6) hAb).mono ?_); rintro _ w7 ⟨z, rfl, hz, hb7⟩; have hb7 := bthen hb6 hb7; have hq2 := keep_row hb7 HR3.out; obtain ⟨vz, Ez, zs, Bz, rfl, hz2, hzd, hz3, hz4⟩ := hz; have hSz := hz2.isS; obtain ⟨⟨y0, y1, y2, y3, y4, y5⟩, s0, s1, s2, s3, s4, s5⟩ := row6 hq2; have H2 := Lib.hid hz2; have H34 := Lib.hid (And.intro hzd (And.intro hz3 hz4)); have HQ2 := Lib.hid hq2; clear hz2 hzd hz3 hz4 hq2)))
    | fail
  all_goals go_wp2_with fail
  all_goals
    have HS := row6_set (x := .int .u64 (Z : Int)) (y := .int .i64 (k : Int)) (z := .int .i64 (f : Int)) (x' := .bool sg) (y' := vz) (z' := .int .i64 Ez) HQ2.out
    have HB := bset6 (x := .int .u64 (Z : Int)) (y := .int .i64 (k : Int)) (z := .int .i64 (f : Int)) (x' := .bool sg) (y' := vz) (z' := .int .i64 Ez) (hwX.out.trans (hb7.mono hXs)) (Nat.le_succ _)
    obtain ⟨⟨a0, a1, a2, a3, a4, a5⟩, -⟩ := row6 HS
    refine bodyPost_ret (v := .tuple #[.agg #[.int .u64 Z, .int .i64 k, .int .i64 f, .bool sg, vz, .int .i64 Ez], .int .i64 A]) ?_ rfl ⟨_, _, rfl, HOUT.out _ _ ⟨_, _, _, Bz, rfl, ?_, H34.out.1, H34.out.2⟩, HB⟩
    · simp [results, Tryz.results18, go_sem, a0, a1, a2, a3, a4, a5]
    · exact H2.out.same fun hc => by
        have hne : sBlk vz ≠ w.heap.size + 1 := H2.out.ne_row HQ2.out (by decide) hc
        exact heap6_other hne
theorem add_mark {q r : Nat} : (if 0 < nl r then q * 2 + 1 else q * 2) = 2 * q + (if r = 0 then 0 else 1) := by
  rcases Nat.eq_zero_or_pos r with h | h
  · rw [h, nl_zero, if_neg (by omega), if_pos rfl]; omega
  · have : 0 < nl r := by
      refine Nat.pos_of_ne_zero fun h0 => ?_
      have := lt_nl r
      rw [h0, Nat.pow_zero] at this
      omega
    rw [if_pos this, if_neg (by omega)]; omega
theorem ks6A {W X : World} {k0 k1 T0 T1 : Nat} {a0 b0 c0 a1 b1 c1 : Value} (h0 : W.heap[k0]? = some (.cells #[a0, b0, c0] T0 (0, 0))) (h1 : W.heap[k1]? = some (.cells #[a1, b1, c1] T1 (0, 0))) (h : Below W.heap.size W X) :
    Below W.heap.size W X ∧ (X.cell? ⟨k0, 0, none⟩ = some a0 ∧ X.cell? ⟨k0, 1, none⟩ = some b0 ∧ X.cell? ⟨k0, 2, none⟩ = some c0) ∧ X.cell? ⟨k1, 0, none⟩ = some a1 ∧ X.cell? ⟨k1, 1, none⟩ = some b1 ∧ X.cell? ⟨k1, 2, none⟩ = some c1 := by
  obtain ⟨x0, y0, z0, -, -, -⟩ := row3 (keep_row h h0)
  obtain ⟨x1, y1, z1, -, -, -⟩ := row3 (keep_row h h1)
  exact ⟨h, ⟨x0, y0, z0⟩, x1, y1, z1⟩
set_option maxRecDepth 100000 in
set_option maxHeartbeats 3200000 in
theorem ahead_any (n1 n2 : Bool) (a b : Value) (e1 e2 : Int) (X Y n : Nat) (w : World) (ha : NatV w a X) (hb : NatV w b Y) (hX : bl X ≤ 100000) (hY0 : 0 < Y) (hY : bl Y ≤ 100000) (hn : n ≤ 100000) (h1 : -2000000000 ≤ e1 ∧ e1 ≤ 2000000000) (h2 : -2000000000 ≤ e2 ∧ e2 ≤ 2000000000) :
    Calls Tryz.prog 20 #[.agg #[.bool n1, a, .int .i64 e1], .agg #[.bool n2, b, .int .i64 e2], .int .i64 n] w fun e' w' => ∃ c, e' = .returned (.agg #[.bool (n1 != n2), c, .int .i64 (e1 - e2 - ((n + 1 + bl Y - bl X : Nat) : Int) - 1)]) ∧
      NatV w' c (2 * qN X Y (n + 1 + bl Y - bl X) + qS X Y (n + 1 + bl Y - bl X)) ∧ Below w.heap.size w w' := by
  have hSa := ha.isS
  have hSb := hb.isS
  obtain ⟨W, hW⟩ : ∃ W, W = ((w.alloc (.cells #[.bool n1, a, .int .i64 e1] 44)).alloc (.cells #[.bool n2, b, .int .i64 e2] 44)).alloc (.cells #[.bool false, .slice none 0 0, .int .i64 0] 44) := ⟨_, rfl⟩
  have hac : Below w.heap.size w W := by rw [hW]; exact (((Below.refl _ w).alloc (Nat.le_refl _) _).alloc (by simp) _).alloc (by simp; omega) _
  have hr1 : W.heap[w.heap.size]? = some (.cells #[.bool n1, a, .int .i64 e1] 44 (0, 0)) := by rw [hW]; exact keep_row (fbone _) (keep_row (fbone _) (row_new _ _ _ _ rfl))
  have hr2 : W.heap[w.heap.size + 1]? = some (.cells #[.bool n2, b, .int .i64 e2] 44 (0, 0)) := by rw [hW]; exact keep_row (fbone _) (row_new _ _ _ _ (by simp))
  have hr3 : W.heap[w.heap.size + 1 + 1]? = some (.cells #[.bool false, .slice none 0 0, .int .i64 0] 44 (0, 0)) := by rw [hW]; exact row_new _ _ _ _ (by simp)
  obtain ⟨x0, x1, x2, -, -, -⟩ := row3 hr1
  obtain ⟨y0, y1, y2, -, -, -⟩ := row3 hr2
  obtain ⟨la, hla⟩ : ∃ l, l = bl X := ⟨_, rfl⟩
  obtain ⟨lb, hlb⟩ : ∃ l, l = bl Y := ⟨_, rfl⟩
  obtain ⟨k, hk⟩ : ∃ k, k = n + 1 + bl Y - bl X := ⟨_, rfl⟩
  have hnX : nl X ≤ 100000 := nl_of_bl (by omega)
  have hnY : nl Y ≤ 100000 := nl_of_bl (by omega)
  have emax : max (0 : Int) ((n : Int) + 1 + (lb : Int) - (la : Int)) = (k : Int) := by omega
  have hkb : k ≤ 300000 := by omega
  have hla2 : la ≤ 100000 := by omega
  have hlb2 : lb ≤ 100000 := by omega
  rw [← hk]
  have NA := Lib.hid (ha.below hac)
  have NB := Lib.hid (hb.below hac)
  have HLA : Hid (∀ j : Nat, Calls Tryz.prog 19 #[a] (W.drewN j) fun e' w' => e' = .returned (.int .i64 (la : Int)) ∧ w' = W.drewN j) := Lib.hid (fun j => by
    rw [hla]
    exact (spLen a X (W.drewN j) (NA.out.below (undrewN' (Below.refl _ _))) (by omega)).mono (fun _ _ h => ⟨h.1, h.2.symm⟩))
  have HLB : Hid (∀ j : Nat, Calls Tryz.prog 19 #[b] (W.drewN j) fun e' w' => e' = .returned (.int .i64 (lb : Int)) ∧ w' = W.drewN j) := Lib.hid (fun j => by
    rw [hlb]
    exact (spLen b Y (W.drewN j) (NB.out.below (undrewN' (Below.refl _ _))) (by omega)).mono (fun _ _ h => ⟨h.1, h.2.symm⟩))
  have hnXk : nl (X * 2 ^ k) ≤ 1000000 := nl_of_bl (by have := bl_two X k; omega)
  have HSH : Hid (∀ w', Below W.heap.size W w' → Calls Tryz.prog 36 #[a, .int .i64 k] w' fun e w5 => ∃ r, e = .returned r ∧ NatV w5 r (X * 2 ^ k) ∧ Below w'.heap.size w' w5) := Lib.hid (fun w' h => (spShl a X k w' (NA.out.below h) (by omega) (by omega)).mono fun _ _ h => h)
  have HDM : Hid (∀ w' r, Below W.heap.size W w' → NatV w' r (X * 2 ^ k) → Calls Tryz.prog 67 #[r, b] w' fun e w5 => ∃ q t, e = .returned (.tuple #[q, t]) ∧ NatV w5 q (X * 2 ^ k / Y) ∧ NatV w5 t (X * 2 ^ k % Y) ∧ Below w'.heap.size w' w5) := Lib.hid (fun w' r h hr => by
    refine (spDivMod r b (X * 2 ^ k) Y w' hr (NB.out.below h) (by omega) (by omega) hY0).mono ?_
    rintro _ w5 ⟨_, rfl, q, t, rfl, k1, k2, k3⟩
    exact ⟨q, t, rfl, k1, k2, k3⟩)
  obtain ⟨Z, hZ⟩ : ∃ Z, Z = X * 2 ^ k := ⟨_, rfl⟩
  have hqb : nl (Z / Y) ≤ 1000000 := Nat.le_trans (nl_mono (Nat.div_le_self _ _)) (by rw [hZ]; exact hnXk)
  have hqb2 : nl (Z / Y * 2 ^ 1) ≤ 2000000 := nl_of_bl (by
    have h1 := bl_two (Z / Y) 1
    have h2 := bl_mono (Nat.div_le_self Z Y)
    have h3 := bl_two X k
    rw [← hZ] at h3
    omega)
  have HFIN : Hid (2 * qN X Y k + qS X Y k = if 0 < nl (Z % Y) then Z / Y * 2 + 1 else Z / Y * 2) := Lib.hid (by rw [add_mark]; unfold qN qS; rw [← hZ])
  rw [← hZ] at HSH HDM
  rw [HFIN.out]
  obtain ⟨Q, hQ⟩ : ∃ Q, Q = Z / Y := ⟨_, rfl⟩
  obtain ⟨T, hT⟩ : ∃ T, T = Z % Y := ⟨_, rfl⟩
  rw [← hQ] at HDM hqb hqb2
  rw [← hT] at HDM
  rw [← hQ, ← hT]
  obtain ⟨RN, hRN⟩ : ∃ N, N = if 0 < nl T then Q * 2 + 1 else Q * 2 := ⟨_, rfl⟩
  rw [← hRN]
  have HRN := Lib.hid hRN
  clear hRN
  obtain ⟨E, hE⟩ : ∃ E : Int, E = e1 - e2 - (k : Int) - 1 := ⟨_, rfl⟩
  have w1 : IntKind.i64.wrap (e1 - e2) = e1 - e2 := wrap_i64_id (by omega) (by omega)
  have w2 : IntKind.i64.wrap (e1 - e2 - (k : Int)) = e1 - e2 - (k : Int) := wrap_i64_id (by omega) (by omega)
  have w3 : IntKind.i64.wrap (e1 - e2 - (k : Int) - 1) = E := by rw [hE]; exact wrap_i64_id (by omega) (by omega)
  rw [← hE]
  obtain ⟨sg, hsg⟩ : ∃ sg, sg = (n1 != n2) := ⟨_, rfl⟩
  rw [← hsg]
  have Hsg := Lib.hid hsg
  have HR1 := Lib.hid hr1
  have HR2 := Lib.hid hr2
  have HR3 := Lib.hid hr3
  have HW := Lib.hid hac
  have hWs := hac.size
  have hcc := Below.refl W.heap.size W
  clear ha hb hac hr1 hr2 hr3 hla hlb hk hX hY0 hY hZ hQ hT hE hsg HFIN hnXk hnX hnY
  go_enter Tryz.func20, Tryz.ntmps20
  go_upto_region 1 with fail
  rw [← hW]
  clear hW
  go_quiet ((go_at_call 19; first | (with_reducible exact Calls.quiet_of_same (HLA.out _)) | (with_reducible exact Calls.quiet_of_same (HLB.out _))))
  go_upto_region 2 with fail
  (go_region_held3 (fun w' => Below W.heap.size W w' ∧ (w'.cell? ⟨w.heap.size, 0, none⟩ = some (.bool n1) ∧ w'.cell? ⟨w.heap.size, 1, none⟩ = some a ∧ w'.cell? ⟨w.heap.size, 2, none⟩ = some (.int .i64 e1)) ∧ w'.cell? ⟨w.heap.size + 1, 0, none⟩ = some (.bool n2) ∧ w'.cell? ⟨w.heap.size + 1, 1, none⟩ = some b ∧ w'.cell? ⟨w.heap.size + 1, 2, none⟩ = some (.int .i64 e2))
        ((refine ks6A HR1.out HR2.out ?_; (repeat (with_reducible first | assumption | refine Below.drew ?_ | refine undrewN' ?_))))
        (first
          | (go_at_call 67; (with_reducible refine (HDM.out _ _ hb5 HZ5.out).mono ?_); rintro _ w6 ⟨q, t, rfl, hq, ht, hb6'⟩; have hb6 := bthen hb5 hb6'; have HQ6 := Lib.hid hq; have HT6 := Lib.hid ht; have hSq := hq.isS; have hSt := ht.isS; have hLt : sLen t = nl T := ht.len; clear hq ht)
          | (go_at_call 36; (with_reducible refine (HSH.out _ (by repeat (with_reducible first | assumption | refine Below.drew ?_ | refine undrewN' ?_))).mono ?_); rintro _ w5 ⟨r, rfl, hr, hb5'⟩; have hb5 : Below W.heap.size W w5 := bthen (by repeat (with_reducible first | assumption | refine Below.drew ?_ | refine undrewN' ?_)) hb5'; have HZ5 := Lib.hid hr; have hSr := hr.isS; clear hr)))
  all_goals
    have HB6 := Lib.hid hb6
    have HR16 := Lib.hid (keep_row hb6 HR1.out)
    have HR26 := Lib.hid (keep_row hb6 HR2.out)
    have HR36 := Lib.hid (keep_row hb6 HR3.out)
    clear x0 x1 x2 y0 y1 y2 hb5 hb5' hb6 hb6' HZ5
    go_wp2_with fail
    refine (spShl q Q 1 w6 HQ6.out (by omega) (by decide)).mono ?_
    rintro _ w7 ⟨q2, rfl, hq2, hb7⟩
    have hSq2 := hq2.isS
    have HQ7 := Lib.hid hq2
    clear hq2
    rw [show (2 : Nat) ^ 1 = 2 from rfl] at HQ7 hqb2
    by_cases hT0 : 0 < nl T
    · have u1 : decide ((0 : Int) < (nl T : Int)) = true := decide_eq_true (by omega)
      have HRP : Hid (RN = Q * 2 + 1) := Lib.hid (by rw [HRN.out, if_pos hT0])
      obtain ⟨lt, hlt⟩ : ∃ l, l = nl T := ⟨_, rfl⟩
      rw [← hlt] at u1 hLt hT0
      clear hlt
      go_wp2_with fail
      refine (spSmall 1 w7 (by decide)).mono ?_
      rintro _ w8 ⟨o1, rfl, ho1, hb8⟩
      have hSo := ho1.isS
      have HO := Lib.hid ho1
      clear ho1
      go_wp2_with fail
      refine (spAdd q2 o1 (Q * 2) 1 w8 (HQ7.out.below hb8) HO.out (by omega) (by decide)).mono ?_
      rintro _ w9 ⟨q3, rfl, hq3, hb9⟩
      have hb69 := bthen (bthen hb7 hb8) hb9
      have hSq3 := hq3.isS
      have HQ9 := Lib.hid hq3
      have hrw := keep_row hb69 HR36.out
      obtain ⟨p0, p1, p2, -, -, -⟩ := row3 (keep_row hb69 HR16.out)
      obtain ⟨q0, q1, q2', -, -, -⟩ := row3 (keep_row hb69 HR26.out)
      obtain ⟨z0, z1, z2, z3, z4, z5⟩ := row3 hrw
      have HRw := Lib.hid hrw
      have HB9 := Lib.hid (HW.out.trans ((bthen HB6.out hb69).mono hWs))
      clear hq3 hb7 hb8 hb9 hb69 hrw
      go_wp2
      obtain ⟨hx0, hx1, hx2, -, -, -⟩ := row3 (row3_set (x := .bool (!(n1 == n2))) (y := q3) (z := .int .i64 E) HRw.out)
      refine bodyPost_ret (v := .agg #[.bool (!(n1 == n2)), q3, .int .i64 E]) ?_ rfl ⟨q3, by rw [Hsg.out]; rfl, by rw [HRP.out]; exact natv_dyad (x := .bool (!(n1 == n2))) (y := q3) (z := .int .i64 E) IsS.nil HQ9.out HRw.out, bset (bset (bset HB9.out (by omega)) (by omega)) (by omega)⟩
      simp [results, Tryz.results20, go_sem, hx0, hx1, hx2]
    · have u1 : decide ((0 : Int) < (nl T : Int)) = false := decide_eq_false (by omega)
      have HRP : Hid (RN = Q * 2) := Lib.hid (by rw [HRN.out, if_neg hT0])
      obtain ⟨lt, hlt⟩ : ∃ l, l = nl T := ⟨_, rfl⟩
      rw [← hlt] at u1 hLt hT0
      clear hlt
      have hrw := keep_row hb7 HR36.out
      obtain ⟨p0, p1, p2, -, -, -⟩ := row3 (keep_row hb7 HR16.out)
      obtain ⟨q0, q1, q2', -, -, -⟩ := row3 (keep_row hb7 HR26.out)
      obtain ⟨z0, z1, z2, z3, z4, z5⟩ := row3 hrw
      have HRw := Lib.hid hrw
      have HB9 := Lib.hid (HW.out.trans ((bthen HB6.out hb7).mono hWs))
      clear hb7 hrw
      go_wp2
      obtain ⟨hx0, hx1, hx2, -, -, -⟩ := row3 (row3_set (x := .bool (!(n1 == n2))) (y := q2) (z := .int .i64 E) HRw.out)
      refine bodyPost_ret (v := .agg #[.bool (!(n1 == n2)), q2, .int .i64 E]) ?_ rfl ⟨q2, by rw [Hsg.out]; rfl, by rw [HRP.out]; exact natv_dyad (x := .bool (!(n1 == n2))) (y := q2) (z := .int .i64 E) IsS.nil HQ7.out HRw.out, bset (bset (bset HB9.out (by omega)) (by omega)) (by omega)⟩
      simp [results, Tryz.results20, go_sem, hx0, hx1, hx2]
theorem seFrac {b : Bool} {ns ds : List Nat} {n d : Nat} (h : isFrac b ns ds b n d = true) : b = (b && decide (0 < n)) := by
  unfold isFrac isNum at h
  cases b with
  | false => rfl
  | true =>
    simp only [Bool.and_eq_true, Bool.true_and, beq_iff_eq, decide_eq_true_eq] at h ⊢
    simp_all
theorem natv_se {w Y : World} {a u : Value} {n i : Nat} {o : Obj} (h : NatV w a n) (hY : Y = w.alloc o) : NatV (Y.setCell ⟨w.heap.size, i, none⟩ u) a n := by
  subst hY
  refine ⟨h.isS, h.len, fun j hj => ?_⟩
  have hc := h.cell j hj
  have hlt : sBlk a < w.heap.size := World.block_lt_of_cell? w _ hc
  have hne : sBlk a ≠ w.heap.size := by omega
  have hh : ((w.alloc o).setCell ⟨w.heap.size, i, none⟩ u).heap[sBlk a]? = w.heap[sBlk a]? := by
    rw [heap_setCell_other _ _ _ _ (by simpa using hne)]
    exact (fbone (W := w) o).block _ hlt
  exact (World.cell?_of_block hh).trans hc
set_option maxRecDepth 100000 in
set_option maxHeartbeats 3200000 in
theorem lawSetRat (a0 a1 : Int) (b : Bool) (v1 v2 : Value) (ns ds : List Nat) (w : World) (hT : TabW w) (_hKar : KarW w) (hK : DivW w) (l0 : 0 ≤ a0) (h0 : a0 ≤ 65535) (l1 : 0 ≤ a1) (h1 : a1 ≤ 255) (hv1 : RW w v1 ns) (hv2 : RW w v2 ds) :
    Calls Tryz.prog 3 #[.int .u16 a0, .int .u8 a1, .agg #[.bool b, v1, v2]] w fun e' w' => e' = .returned (.bool true) ∧ Below w.heap.size w w' := by
  obtain ⟨b0, rfl⟩ := Int.eq_ofNat_of_zero_le l0
  have ib0 : b0 ≤ 65535 := by omega
  obtain ⟨b1, rfl⟩ := Int.eq_ofNat_of_zero_le l1
  have ib1 : b1 ≤ 255 := by omega
  have hS1 := hv1.isS
  have hS2 := hv2.isS
  have hab := (Below.refl w.heap.size w).alloc (Nat.le_refl _) (.cells #[.bool b, v1, v2] 27)
  obtain ⟨W, hW⟩ : ∃ W, W = w.alloc (.cells #[.bool b, v1, v2] 27) := ⟨_, rfl⟩
  have hrow : W.heap[w.heap.size]? = some (.cells #[.bool b, v1, v2] 27 (0, 0)) := by rw [hW]; exact box_row (Below.refl _ _)
  rw [← hW] at hab
  obtain ⟨x0, x1, x2, -, -, -⟩ := row3 hrow
  have HR := Lib.hid hrow
  have R1 := Lib.hid (hv1.below hab)
  have R2 := Lib.hid (hv2.below hab)
  have HT0 := Lib.hid hT
  have HK0 := Lib.hid hK
  have hWs := hab.size
  clear hrow hv1 hv2 hT hK _hKar l0 h0 l1 h1
  go_enter Tryz.func3, Tryz.ntmps3
  go_upto_region 1 with fail
  rw [← hW]
  clear hW
  go_wp2_with fail
  refine (zzFits3_any b v1 v2 ns ds W R1.out R2.out).mono ?_
  rintro _ w1 ⟨rfl, hb1⟩
  obtain ⟨y0, y1, y2, -, -, -⟩ := row3 (keep_row hb1 HR.out)
  have bb1 := hab.trans (hb1.mono hWs)
  obtain ⟨fits, hfits⟩ : ∃ f, f = (decide (ns.length ≤ 2147483647) && decide (ds.length ≤ 2147483647)) := ⟨_, rfl⟩
  rw [← hfits]
  clear hfits
  have HB1 := Lib.hid hb1
  clear hb1
  cases fits with
  | false =>
    go_wp2
    go_ret
    exact ⟨rfl, bb1⟩
  | true =>
  go_wp2_with fail
  refine (fraction_any b v1 v2 8 ns ds w1 (R1.out.below HB1.out) (R2.out.below HB1.out) (by decide)).mono ?_
  rintro _ w2 ⟨_, rfl, bb, a1, a2, ok, rfl, hA1, hA2, hb2, hok⟩
  have HOK := Lib.hid hok
  have HB2 := Lib.hid (bthen HB1.out hb2)
  clear hok hb2
  have hr2 := keep_row HB2.out HR.out
  have ha3 := (Below.refl w2.heap.size w2).alloc (Nat.le_refl _) (.cells #[.bool bb, a1, a2] 32)
  go_upto_region 4 with fail
  obtain ⟨X, hX⟩ : ∃ X, X = w2.alloc (.cells #[.bool bb, a1, a2] 32) := ⟨_, rfl⟩
  have hrX : X.heap[w2.heap.size]? = some (.cells #[.bool bb, a1, a2] 32 (0, 0)) := by rw [hX]; exact box_row (Below.refl _ _)
  rw [← hX] at ha3 ⊢
  clear hX
  obtain ⟨c0, c1, c2, -, -, -⟩ := row3 (keep_row ha3 hr2)
  have hWX := bthen HB2.out ha3
  have hwX := hab.trans (hWX.mono hWs)
  cases ok with
  | false =>
    go_wp2
    go_ret
    exact ⟨rfl, hwX⟩
  | true =>
  obtain ⟨hbb, hn8, hd8, hdp, hfr, -, hN1, hN2⟩ := HOK.out rfl
  subst hbb
  have hbz := seFrac hfr
  have Q1 := Lib.hid (R1.out.below hWX)
  have Q2 := Lib.hid (R2.out.below hWX)
  have N1 := Lib.hid (hN1.below ha3)
  have N2 := Lib.hid (hN2.below ha3)
  have TX := Lib.hid (HT0.out.below hwX)
  have KX := Lib.hid (HK0.out.below hwX)
  obtain ⟨N, hN⟩ : ∃ N, N = wv ns := ⟨_, rfl⟩
  obtain ⟨D, hD⟩ : ∃ D, D = wv ds := ⟨_, rfl⟩
  have hbN : bl N ≤ 512 := by
    have h1 : N < 18446744073709551616 ^ 8 := by rw [hN]; exact Nat.lt_of_lt_of_le (wv_lt R1.out.lt) (Nat.pow_le_pow_right (by decide) hn8)
    have h2 := nw_le h1
    have h3 := bl_nw N
    omega
  have hbD : bl D ≤ 512 := by
    have h1 : D < 18446744073709551616 ^ 8 := by rw [hD]; exact Nat.lt_of_lt_of_le (wv_lt R2.out.lt) (Nat.pow_le_pow_right (by decide) hd8)
    have h2 := nw_le h1
    have h3 := bl_nw D
    omega
  rw [← hN] at N1 hbz
  rw [← hD] at N2 hdp
  have HI := Lib.hid (fun (q k : Nat) (hq : q ≤ 300) (hk : k ≤ 5) => impSetRat q k N D bb v1 v2 ns ds X Q1.out Q2.out hN.symm hD.symm (by omega) (by omega) hdp (by omega) (by omega) (by omega) hk TX.out KX.out)
  rw [← hbz] at HI
  have HRX := Lib.hid hrX
  have HwX := Lib.hid hwX
  have hXs := hwX.size
  have HBN := Lib.hid (And.intro hbN hbD)
  have HDP := Lib.hid hdp
  clear hN1 hN2 hfr hn8 hd8 hdp hrX hwX ha3 bb1 hN hD hbN hbD hr2 HR HT0 HK0 HB1 HB2 HOK hbz hab hWX Q1 Q2 TX KX
  go_wp2_with fail
  refine (target_any b0 b1 X ib0 ib1).mono ?_
  rintro _ _ ⟨rfl, rfl⟩
  have hqb : b0 % 301 ≤ 300 := by omega
  have hkb : b1 % 6 ≤ 5 := by omega
  obtain ⟨q, hq⟩ : ∃ q, q = b0 % 301 := ⟨_, rfl⟩
  obtain ⟨k, hk⟩ : ∃ k, k = b1 % 6 := ⟨_, rfl⟩
  rw [← hq] at hqb ⊢
  rw [← hk] at hkb ⊢
  clear hq hk ib0 ib1
  go_wp2_with fail
  refine (HI.out q k hqb hkb).mono ?_
  rintro _ wN ⟨z, A, rfl, hz, hb1⟩
  obtain ⟨hZp, hZ2⟩ := seP_bd (q := q) (N := N) (D := D) (k := 512) (by omega) HBN.out.1 HBN.out.2 (by decide)
  have hZe : seP q N D = if q = 0 then max (max (bl N) 64) (max (bl D) 64) else q := rfl
  obtain ⟨Z, hZ⟩ : ∃ Z, Z = seP q N D := ⟨_, rfl⟩
  rw [← hZ] at hz hZp hZ2 hZe
  clear hZ HI
  obtain ⟨lN, hlN⟩ : ∃ l, l = bl N := ⟨_, rfl⟩
  obtain ⟨lD, hlD⟩ : ∃ l, l = bl D := ⟨_, rfl⟩
  rw [← hlN, ← hlD] at hZe
  have HLN := Lib.hid hlN
  have HLD := Lib.hid hlD
  have HZE := Lib.hid hZe
  have hqk : quK Z N D ≤ 2000 := by have := HBN.out; unfold quK; omega
  have hqn := quN_bl Z N D
  obtain ⟨XX, hXX⟩ : ∃ XX : Int, XX = -((quK Z N D : Nat) : Int) - 1 := ⟨_, rfl⟩
  obtain ⟨M, hM⟩ : ∃ M, M = quN Z N D := ⟨_, rfl⟩
  have HXB : Hid (bl M ≤ 9000000 ∧ -4000 ≤ XX ∧ XX ≤ 4000) := Lib.hid (by have := HBN.out; rw [hM, hXX]; omega)
  have wz : IntKind.i64.wrap (Z : Int) = (Z : Int) := wrap_i64_id (by omega) (by omega)
  have wz1 : IntKind.i64.wrap ((Z : Int) + 1) = (Z : Int) + 1 := wrap_i64_id (by omega) (by omega)
  have HAH : Hid (∀ (U : World), Below X.heap.size X U → Calls Tryz.prog 20 #[.agg #[.bool false, a1, .int .i64 0], .agg #[.bool false, a2, .int .i64 0], .int .i64 ((Z : Int) + 1)] U fun e w5 => ∃ c, e = .returned (.agg #[.bool false, c, .int .i64 XX]) ∧ NatV w5 c M ∧ Below U.heap.size U w5) := Lib.hid (fun U hU => by
    have hb := HBN.out
    have := ahead_any false false a1 a2 0 0 N D (Z + 1) U (N1.out.below hU) (N2.out.below hU) (by omega) HDP.out (by omega) (by omega) (by decide) (by decide)
    rw [show ((Z + 1 : Nat) : Int) = (Z : Int) + 1 by push_cast; rfl] at this
    refine this.mono ?_
    rintro _ w5 ⟨c, rfl, k1, k2⟩
    have he : (0 : Int) - 0 - ((Z + 1 + 1 + bl D - bl N : Nat) : Int) - 1 = XX := by rw [hXX]; unfold quK; omega
    refine ⟨c, ?_, ?_, k2⟩
    · rw [he]; rfl
    · rw [hM]; exact k1)
  rw [← hM, ← hXX] at hz
  have HLA := Lib.hid (fun (U : World) (hU : Below X.heap.size X U) => spLen a1 N U (N1.out.below hU) (nl_of_bl (by have := HBN.out; omega)))
  have HLB := Lib.hid (fun (U : World) (hU : Below X.heap.size X U) => spLen a2 D U (N2.out.below hU) (nl_of_bl (by have := HBN.out; omega)))
  rw [← hlN] at HLA
  rw [← hlD] at HLB
  have HZP := Lib.hid (And.intro hZp hZ2)
  clear hM hXX hqk hqn hlN hlD hZe
  obtain ⟨fz, sg, vz, Ez, rfl, hSz⟩ := hz.form
  obtain ⟨Y, hY⟩ : ∃ Y, Y = wN.alloc (.cells #[.int .u64 (Z : Int), .int .i64 (k : Int), .int .i64 (fz : Int), .bool sg, vz, .int .i64 Ez] 39) := ⟨_, rfl⟩
  have hbY : Below wN.heap.size wN Y := by rw [hY]; exact fbone _
  have hrz : Y.heap[wN.heap.size]? = some (.cells #[.int .u64 (Z : Int), .int .i64 (k : Int), .int .i64 (fz : Int), .bool sg, vz, .int .i64 Ez] 39 (0, 0)) := by rw [hY]; exact row_chain11
  have hbX := bthen hb1 hbY
  have HRz := Lib.hid hrz
  have HZ := Lib.hid (hz.below hbY)
  have HXY := Lib.hid hbX
  have HRY := Lib.hid (keep_row hbX HRX.out)
  have HWY := Lib.hid (HwX.out.trans (hbX.mono hXs))
  have hYs := HWY.out.size
  have hcc := Below.refl Y.heap.size Y
  clear hb1 hbY hrz hbX hz c0 c1 c2 HRX HwX
  obtain ⟨d0, d1, d2, -, -, -⟩ := row3 HRY.out
  go_upto_if 38 with fail
  rw [← hY]
  clear hY
  go_cut [9] (fun s9 wx => s9 = .int .u64 (Z : Int) ∧ Below Y.heap.size Y wx)
  case first =>
    by_cases hq0 : q = 0
    · have t : ((q : Int) == 0) = true := by rw [hq0]; rfl
      have em : IntKind.u64.wrap (if (if (64 : Int) < (lN : Int) then (lN : Int) else 64) < (lD : Int) then (lD : Int) else if (64 : Int) < (lN : Int) then (lN : Int) else 64) = (Z : Int) := by
        have h1 := HZE.out
        rw [if_pos hq0] at h1
        have h2 : (if (if (64 : Int) < (lN : Int) then (lN : Int) else 64) < (lD : Int) then (lD : Int) else if (64 : Int) < (lN : Int) then (lN : Int) else 64) = (Z : Int) := by split <;> split <;> omega
        rw [h2]
        rw [IntKind.wrap_u64]; omega
      clear hq0
      go_upto_region 9 with fail
      first
        | (go_region_held3 (fun w' => Below Y.heap.size Y w' ∧ w'.cell? ⟨w2.heap.size, 0, none⟩ = some (.bool bb) ∧ w'.cell? ⟨w2.heap.size, 1, none⟩ = some a1 ∧ w'.cell? ⟨w2.heap.size, 2, none⟩ = some a2)
            ((refine ⟨?_, ksF HRY.out ?_⟩ <;> with_reducible first | assumption | exact Below.drew hcc | exact hcc))
            (first
              | (go_at_call 19; (with_reducible refine (HLA.out _ (bthen HXY.out (And.left (by assumption)))).mono ?_); rintro _ _ ⟨rfl, rfl⟩)
              | (go_at_call 19; (with_reducible refine (HLB.out _ (bthen HXY.out (And.left (by assumption)))).mono ?_); rintro _ _ ⟨rfl, rfl⟩)))
        | fail
      all_goals go_wp2_with fail
      all_goals
        go_meet
        exact ⟨rfl, And.left (by assumption)⟩
    · have t : ((q : Int) == 0) = false := by rw [beq_eq_false_iff_ne]; omega
      have hZq : Z = q := by
        have h1 := HZE.out
        rw [if_neg hq0] at h1
        exact h1
      have hzq : (q : Int) = (Z : Int) := by rw [hZq]
      clear hq0
      go_wp2_with fail
      go_meet
      exact ⟨by rw [hZq], hcc⟩
  case rest =>
    obtain ⟨rfl, hcc⟩ := hcut
    have HWC := Lib.hid (HWY.out.trans (hcc.mono hYs))
    have HC := Lib.hid hcc
    have HRY2 := Lib.hid (keep_row hcc HRY.out)
    have HRz2 := Lib.hid (keep_row hcc HRz.out)
    have HZ2 := Lib.hid (HZ.out.below hcc)
    clear hcc d0 d1 d2 HRY HRz HZ HWY
    obtain ⟨d0, d1, d2, -, -, -⟩ := row3 HRY2.out
    go_wp2_with fail
    refine (HAH.out _ (bthen HXY.out HC.out)).mono ?_
    rintro _ w5 ⟨c, rfl, hc, hb5⟩
    have hSc := hc.isS
    obtain ⟨U, hU⟩ : ∃ U, U = w5.alloc (.cells #[.bool false, c, .int .i64 XX] 44) := ⟨_, rfl⟩
    have hbU : Below w5.heap.size w5 U := by rw [hU]; exact fbone _
    have hrU : U.heap[w5.heap.size]? = some (.cells #[.bool false, c, .int .i64 XX] 44 (0, 0)) := by rw [hU]; exact row_chain11
    have hb6 := bthen hb5 hbU
    have hbw : Below w.heap.size w U := HWC.out.trans (hb6.mono HWC.out.size)
    obtain ⟨d0, d1, d2, -, -, -⟩ := row3 (keep_row hb6 HRY2.out)
    obtain ⟨e0, e1, e2, e3, -, -⟩ := row3 hrU
    go_upto_region 11 with fail
    rw [← hU]
    have hnw : w5.heap.size ≠ w2.heap.size := by
      have h1 := hb5.size
      have h2 := get_lt HRY2.out
      omega
    obtain ⟨T, hT⟩ : ∃ T, T = U.setCell ⟨w5.heap.size, 0, none⟩ (.bool bb) := ⟨_, rfl⟩
    have hbT : Below wc.heap.size wc T := by rw [hT]; exact bset hb6 hb5.size
    have hrT : T.heap[w5.heap.size]? = some (.cells #[.bool bb, c, .int .i64 XX] 44 (0, 0)) := by rw [hT]; exact rowset (i := 0) (.bool bb) hrU
    have hcT := Lib.hid (by rw [hT]; exact natv_se hc hU : NatV T c M)
    have HWT := Lib.hid (HWC.out.trans (hbT.mono HWC.out.size))
    have HZT := Lib.hid ((HZ2.out.below hbT).told (ng := bb) (M := M) rfl HZP.out.1)
    obtain ⟨⟨z0, z1, z2, z3, z4, z5⟩, -⟩ := row6 (keep_row hbT HRz2.out)
    obtain ⟨f0, f1, f2, -, -, -⟩ := row3 hrT
    clear hU hc hb5 hbU hrU hb6 hbw hrT hbT
    go_upto_region 12 with fail
    rw [← hT]
    clear hT d0 d1 d2 e0 e1 e2 e3
    go_wp2_with fail
    refine (rounds_any _ A bb c M XX Z k T HZT.out.1 HZT.out.2 hcT.out HXB.out.1 (by have := HZP.out; omega) hkb (by have := HXB.out; omega) (by have := HXB.out; omega)).mono ?_
    rintro _ w7 ⟨rfl, hb7⟩
    have HF := Lib.hid (HWT.out.trans (hb7.mono HWT.out.size))
    clear hb7
    go_wp2
    go_ret
    exact ⟨rfl, HF.out⟩
end Go.Proofs.YtdepidpgbgfjlaaGreatDoor
