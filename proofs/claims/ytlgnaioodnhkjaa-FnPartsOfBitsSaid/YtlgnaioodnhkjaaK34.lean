/-
Texts of this proof, joined: FdH. No condition.
-/
import Derived.Test.YtlgnaioodnhkjaaK32
/-
The statements' between. No condition.
-/
namespace Go.Proofs.Ytlgnaioodnhkjaa
open Go.RowKit

theorem bl_one1 : bl 1 = 1 := rfl
theorem natv_set2' {w Y : World} {a u : Value} {n i : Nat} {o : Obj} (h : NatV w a n) (hY : Y = w.alloc o) : NatV (Y.setCell ⟨w.heap.size, i, none⟩ u) a n := by
  subst hY
  refine ⟨h.isS, h.len, fun j hj => ?_⟩
  have hc := h.cell j hj
  have hlt : sBlk a < w.heap.size := World.block_lt_of_cell? w _ hc
  have hne : sBlk a ≠ w.heap.size := by omega
  have hh : ((w.alloc o).setCell ⟨w.heap.size, i, none⟩ u).heap[sBlk a]? = w.heap[sBlk a]? := by
    rw [heap_setCell_other _ _ _ _ (by simpa using hne)]
    exact (fbone (W := w) o).block _ hlt
  exact (World.cell?_of_block hh).trans hc
theorem ksD1 {W X : World} {k : Nat} {a b c : Value} {T : TypeId} (hr : W.heap[k]? = some (.cells #[a, b, c] T (0, 0))) (h : Below W.heap.size W X) :
    Below W.heap.size W X ∧ X.cell? ⟨k, 0, none⟩ = some a ∧ X.cell? ⟨k, 1, none⟩ = some b ∧ X.cell? ⟨k, 2, none⟩ = some c := by
  obtain ⟨x0, x1, x2, -, -, -⟩ := row3 (keep_row h hr)
  exact ⟨h, x0, x1, x2⟩
theorem ordS_bd (a b : Int) : -1 ≤ cmpI a b ∧ cmpI a b ≤ 1 := by unfold cmpI; repeat' split
                                                                 all_goals omega
set_option maxRecDepth 100000 in
set_option maxHeartbeats 6400000 in
theorem between_any (n : Bool) (a : Value) (E : Int) (M : Nat) (L T B : Int) (w : World) (ha : NatV w a M) (hMb : bl M ≤ 20000) (hE : -20000 ≤ E ∧ E ≤ 20000) (hL : -2000 ≤ L ∧ L ≤ 0) (hT : 0 ≤ T ∧ T ≤ 2000) (hB : 1 ≤ B ∧ B ≤ 100) :
    Calls Try.prog 22 #[.agg #[.bool n, a, .int .i64 E], .int .i64 L, .int .i64 T, .int .i64 B] w fun e' w' => ∃ r : Bool, e' = .returned (.bool r) ∧ (r = false → 0 < M → E + bl M ≠ L) ∧ Below w.heap.size w w' := by
  have hS := ha.isS
  have HW := Lib.hid (Below.refl w.heap.size w)
  obtain ⟨X, hX⟩ : ∃ X, X = w.alloc (.cells #[.bool false, a, .int .i64 E] 32) := ⟨_, rfl⟩
  have hab : Below w.heap.size w X := by rw [hX]; exact fbone _
  have hr1 : X.heap[w.heap.size]? = some (.cells #[.bool false, a, .int .i64 E] 32 (0, 0)) := by rw [hX]; exact row_chain11
  obtain ⟨x0, x1, x2, -, -, -⟩ := row3 hr1
  have HA := Lib.hid (ha.below hab)
  have HR := Lib.hid hr1
  have HB := Lib.hid hab
  have hXs := hab.size
  obtain ⟨hE1, hE2⟩ := hE
  obtain ⟨hL1, hL2⟩ := hL
  obtain ⟨hT1, hT2⟩ := hT
  obtain ⟨hB1, hB2⟩ := hB
  have HMB := Lib.hid hMb
  have HSM : Hid (∀ W : World, Calls Try.prog 48 #[.int .i64 1] W fun e' w' => ∃ r, e' = .returned r ∧ NPost 1 W r w') := Lib.hid (fun W => spSmall 1 W (by decide))
  have HKEY : Hid (0 < M → E + bl M = L → 0 ≤ cmpI (sI false (M * 2 ^ (E - min E (L - 1)).toNat)) (sI false (1 * 2 ^ (L - 1 - min E (L - 1)).toNat)) ∧ cmpI (sI false (M * 2 ^ (E - min E L).toNat)) (sI false (1 * 2 ^ (L - min E L).toNat)) < 0) := Lib.hid (fun hM => btw_key hM)
  have HO := Lib.hid (fun (sb : Bool) (b : Value) (Y : Nat) (F : Int) (W : World) (h1 : NatV W a M) (h2 : NatV W b Y) (h3 : bl Y ≤ 20000) (h4 : -20000 ≤ F ∧ F ≤ 20000) => order_real 20000 20000 1 1 false sb a b E F M Y W h1 h2 hMb (by omega) (by omega) h3 (by omega) (by omega) (by decide) (by decide))
  obtain ⟨H, hH⟩ : ∃ H : Int, H = L - 1 := ⟨_, rfl⟩
  have hHL : L - 1 = H := hH.symm
  have hHb : -3000 ≤ H ∧ H ≤ 0 := by omega
  rw [hHL] at HKEY
  clear ha hab hr1 hMb hH
  go_enter Try.func22, Try.ntmps22
  go_upto_region 2 with fail
  rw [← hX]
  clear hX
  go_wp2_with fail
  refine (spSmall 1 X (by decide)).mono ?_
  rintro _ w1 ⟨r1, rfl, hn1, hb1⟩
  have hS1 := hn1.isS
  obtain ⟨U, hU⟩ : ∃ U, U = w1.alloc (.cells #[.bool false, r1, .int .i64 L] 32) := ⟨_, rfl⟩
  have hbU : Below w1.heap.size w1 U := by rw [hU]; exact fbone _
  have hrU : U.heap[w1.heap.size]? = some (.cells #[.bool false, r1, .int .i64 L] 32 (0, 0)) := by rw [hU]; exact row_chain11
  have hbXU := bthen hb1 hbU
  have HAU := Lib.hid (HA.out.below hbXU)
  have HRU := Lib.hid (keep_row hbXU HR.out)
  have HN1 := Lib.hid (hn1.below hbU)
  have HRU1 := Lib.hid hrU
  have HBU := Lib.hid (HB.out.trans (hbXU.mono hXs))
  have hUs := HBU.out.size
  clear hn1 hb1 hbU hrU hbXU HA HR HB hXs x0 x1 x2
  go_upto_region 3 with fail
  rw [← hU]
  clear hU
  go_wp2_with fail
  refine (spSmall 1 U (by decide)).mono ?_
  rintro _ w2 ⟨r2, rfl, hn2, hb2⟩
  have hS2 := hn2.isS
  obtain ⟨V, hV⟩ : ∃ V, V = w2.alloc (.cells #[.bool false, r2, .int .i64 H] 32) := ⟨_, rfl⟩
  have hbV : Below w2.heap.size w2 V := by rw [hV]; exact fbone _
  have hrV : V.heap[w2.heap.size]? = some (.cells #[.bool false, r2, .int .i64 H] 32 (0, 0)) := by rw [hV]; exact row_chain11
  have hbUV := bthen hb2 hbV
  have HAV := Lib.hid (HAU.out.below hbUV)
  have HRV := Lib.hid (keep_row hbUV HRU.out)
  have HRV1 := Lib.hid (keep_row hbUV HRU1.out)
  have HN1V := Lib.hid (HN1.out.below hbUV)
  have HN2 := Lib.hid (hn2.below hbV)
  have HRV2 := Lib.hid hrV
  have HBV := Lib.hid (HBU.out.trans (hbUV.mono hUs))
  have hVs := HBV.out.size
  clear hn2 hb2 hbV hrV hbUV HAU HRU HRU1 HN1 HBU hUs
  go_upto_region 4 with fail
  rw [← hV]
  clear hV
  obtain ⟨x0, x1, x2, -, -, -⟩ := row3 HRV.out
  obtain ⟨y0, y1, y2, -, -, -⟩ := row3 HRV1.out
  obtain ⟨z0, z1, z2, -, -, -⟩ := row3 HRV2.out
  go_wp2_with fail
  refine (HO.out false r2 1 H V HAV.out HN2.out (by rw [bl_one1]; decide) (by omega)).mono ?_
  rintro _ w3 ⟨rfl, hb3⟩
  obtain ⟨o1, o2⟩ := ordS_bd (sI false (M * 2 ^ (E - min E H).toNat)) (sI false (1 * 2 ^ (H - min E H).toNat))
  obtain ⟨O1, hO1⟩ : ∃ O, O = cmpI (sI false (M * 2 ^ (E - min E H).toNat)) (sI false (1 * 2 ^ (H - min E H).toNat)) := ⟨_, rfl⟩
  rw [← hO1] at HKEY o1 o2 ⊢
  have HA3 := Lib.hid (HAV.out.below hb3)
  have HR3 := Lib.hid (keep_row hb3 HRV.out)
  have HR31 := Lib.hid (keep_row hb3 HRV1.out)
  have HN13 := Lib.hid (HN1V.out.below hb3)
  have HB3 := Lib.hid (HBV.out.trans (hb3.mono hVs))
  have h3s := HB3.out.size
  clear hO1 hb3 HAV HRV HRV1 HRV2 HN1V HN2 HBV hVs x0 x1 x2 y0 y1 y2 z0 z1 z2
  obtain ⟨x0, x1, x2, -, -, -⟩ := row3 HR3.out
  obtain ⟨y0, y1, y2, -, -, -⟩ := row3 HR31.out
  by_cases c1 : 0 ≤ O1
  · have t1 : decide (0 ≤ O1) = true := decide_eq_true c1
    go_wp2_with fail
    refine (HO.out false r1 1 L w3 HA3.out HN13.out (by rw [bl_one1]; decide) (by omega)).mono ?_
    rintro _ w4 ⟨rfl, hb4⟩
    obtain ⟨o3, o4⟩ := ordS_bd (sI false (M * 2 ^ (E - min E L).toNat)) (sI false (1 * 2 ^ (L - min E L).toNat))
    obtain ⟨O2, hO2⟩ : ∃ O, O = cmpI (sI false (M * 2 ^ (E - min E L).toNat)) (sI false (1 * 2 ^ (L - min E L).toNat)) := ⟨_, rfl⟩
    rw [← hO2] at HKEY o3 o4 ⊢
    have HA4 := Lib.hid (HA3.out.below hb4)
    have HR4 := Lib.hid (keep_row hb4 HR3.out)
    have HB4 := Lib.hid (HB3.out.trans (hb4.mono h3s))
    have h4s := HB4.out.size
    clear hO2 hb4 HA3 HR3 HR31 HN13 HB3 h3s x0 x1 x2 y0 y1 y2
    by_cases c2 : O2 < 0
    · have t2 : decide (O2 < 0) = true := decide_eq_true c2
      clear c1 c2 HKEY
      go_wp2
      go_ret
      exact ⟨true, rfl, fun h => absurd h (by decide), HB4.out⟩
    · have t2 : decide (O2 < 0) = false := decide_eq_false c2
      have HNE : Hid (0 < M → E + bl M ≠ L) := Lib.hid (fun hM h => c2 (HKEY.out hM h).2)
      clear c1 c2 HKEY t1
      go_wp2_with fail
      refine (spSmall 1 w4 (by decide)).mono ?_
      rintro _ w5 ⟨r5, rfl, hn5, hb5⟩
      have hS5 := hn5.isS
      have HN5 := Lib.hid hn5
      have HB5 := Lib.hid hb5
      clear hn5 hb5
      go_wp2_with fail
      refine (whole_any (-1) w5 (by omega) (by omega)).mono ?_
      rintro _ w6 ⟨_, rfl, ⟨r6, rfl, hn6⟩, hb6⟩
      have hS6 := hn6.isS
      have HN6 := Lib.hid hn6
      have HN56 := Lib.hid (HN5.out.below hb6)
      have HB6 := Lib.hid (bthen HB5.out hb6)
      clear hn6 hb6 HN5 HB5
      rw [show decide ((-1 : Int) < 0) = true from rfl]
      go_wp2_with fail
      refine (dSumB false true r5 r6 B 0 1 1 200 w6 HN56.out HN6.out (by rw [bl_one1]; omega) (by rw [bl_one1]; omega) (by decide) (by omega) (by decide)).mono ?_
      rintro _ w7 ⟨ng, c7, M7, rfl, hn7, hM7, hb7⟩
      rw [show min B 0 = 0 by omega]
      have hS7 := hn7.isS
      obtain ⟨P, hP⟩ : ∃ P, P = w7.alloc (.cells #[.bool ng, c7, .int .i64 0] 32) := ⟨_, rfl⟩
      have hbP : Below w7.heap.size w7 P := by rw [hP]; exact fbone _
      have hrP : P.heap[w7.heap.size]? = some (.cells #[.bool ng, c7, .int .i64 0] 32 (0, 0)) := by rw [hP]; exact row_chain11
      have hbWP := bthen HB6.out (bthen hb7 hbP)
      have HM7 := Lib.hid hM7
      obtain ⟨Q, hQ⟩ : ∃ Q, Q = P.setCell ⟨w7.heap.size, 2, none⟩ (.int .i64 T) := ⟨_, rfl⟩
      have hrQ : Q.heap[w7.heap.size]? = some (.cells #[.bool ng, c7, .int .i64 T] 32 (0, 0)) := by rw [hQ]; exact rowset (i := 2) (.int .i64 T) hrP
      have hlt7 : w4.heap.size ≤ w7.heap.size := (bthen HB6.out hb7).size
      have hbWQ : Below w4.heap.size w4 Q := by rw [hQ]; exact bset (i := 2) (u := .int .i64 T) hbWP hlt7
      have HN7 : Hid (NatV Q c7 M7) := Lib.hid (by rw [hQ]; exact natv_set2' hn7 hP)
      have HAQ := Lib.hid (HA4.out.below hbWQ)
      have HRQ := Lib.hid (keep_row hbWQ HR4.out)
      have HRQ7 := Lib.hid hrQ
      have HBQ := Lib.hid (HB4.out.trans (hbWQ.mono h4s))
      have hQs := HBQ.out.size
      obtain ⟨p0, p1, p2, q0, q1, q2⟩ := row3 hrP
      clear hn7 hb7 hbP hrP hbWP hM7 hrQ hlt7 hbWQ HN6 HN56 HB6
      go_upto_region 7 with fail
      rw [← hP]
      clear hP
      have hT0 : (0 : Int) + T = T := Int.zero_add T
      go_upto_region 8 with fail
      rw [← hQ]
      clear hQ hT0 p0 p1 p2 q0 q1 q2
      have hcc := Below.refl Q.heap.size Q
      have hTW : IntKind.i64.wrap (T - 1) = T - 1 := by simp [IntKind.wrap, IntKind.signed, IntKind.bits]; omega
      have hle0 : Q.heap.size ≤ Q.heap.size := Nat.le_refl _
      go_cut [12] (fun s12 wx => ∃ (g : Nat) (ng9 : Bool) (c9 : Value) (M9 : Nat), s12 = .pointer (some ⟨g, 0, none⟩) ∧ OneD Q wx ng9 (min T (T - 1)) M9 g c9 ∧ bl M9 ≤ 5000)
      case first =>
        first
          | (go_region_held3 (fun w' => Below Q.heap.size Q w' ∧ w'.cell? ⟨w7.heap.size, 0, none⟩ = some (.bool ng) ∧ w'.cell? ⟨w7.heap.size, 1, none⟩ = some c7 ∧ w'.cell? ⟨w7.heap.size, 2, none⟩ = some (.int .i64 T))
              ((refine ksD1 HRQ7.out ?_; repeat (with_reducible first | assumption | refine Below.drew ?_ | refine ballc ?_ _ | refine bset3 ?_ ?_)))
              (first
                | (go_at_call 48; (with_reducible refine (HSM.out _).mono ?_); rintro _ w8 ⟨r8, rfl, hn8, hb8⟩; have hS8 := hn8.isS; have hbw8 : Below Q.heap.size Q w8 := bthen (by repeat (with_reducible first | assumption | refine Below.drew ?_ | refine ballc ?_ _)) hb8; have hz8 := hbw8.size;
                    (first | (have hrU := box_rowD hb8; have hlU := (Array.getElem?_eq_some_iff.1 hrU).1) | skip))
                | (go_at_call 53; (with_reducible refine (dSumB ng false c7 r8 T (T - 1) M7 1 2500 _ (HN7.out.below (by repeat (with_reducible first | assumption | refine Below.drew ?_ | refine ballc ?_ _))) (by first | exact hn8 | exact hn8.below (fbone _)) (by have := HM7.out; omega) (by rw [bl_one1]; omega) (by decide) (by omega) (by omega)).mono ?_); rintro _ w9 ⟨ng9, c9, M9, rfl, hn9, hM9, hb9⟩; have hS9 := hn9.isS; have hbw9 : Below Q.heap.size Q w9 := bthen (by repeat (with_reducible first | assumption | refine Below.drew ?_ | refine ballc ?_ _)) hb9; have hz9 := hbw9.size; have hM9' : bl M9 ≤ 5000 := Nat.le_trans hM9 (by decide);
                    (first | (have hrU2 := keep_row hb9 hrU; have hlU2 := (Array.getElem?_eq_some_iff.1 hrU2).1; obtain ⟨k0, k1, k2, k3, k4, k5⟩ := row3 hrU2) | (have hrV2 := box_row hb9; have hlV2 := (Array.getElem?_eq_some_iff.1 hrV2).1; obtain ⟨k0, k1, k2, k3, k4, k5⟩ := row3 hrV2) | skip))))
          | fail
        all_goals
          go_wp2_with fail
          go_meet
          first
            | with_reducible exact ⟨_, _, _, _, rfl, oneD0 hbw9 hn9, hM9'⟩
            | with_reducible exact ⟨_, _, _, _, rfl, oneD1 hbw9 hn9 (by assumption) (by assumption), hM9'⟩
      case rest =>
        obtain ⟨g, ng9, c9, M9, rfl, ⟨hg, hrg, hng, hbg⟩, hM9⟩ := hcut
        have hS9 := hng.isS
        have HAx := Lib.hid (HAQ.out.below hbg)
        have HN7x := Lib.hid (HN7.out.below hbg)
        have HN9x := Lib.hid hng
        have HRx := Lib.hid (keep_row hbg HRQ.out)
        have HRx7 := Lib.hid (keep_row hbg HRQ7.out)
        have HRx9 := Lib.hid hrg
        have HBx := Lib.hid (HBQ.out.trans (hbg.mono hQs))
        have hxs := HBx.out.size
        have HM9 := Lib.hid hM9
        obtain ⟨F, hF⟩ : ∃ F : Int, F = min T (T - 1) := ⟨_, rfl⟩
        have hFb : -1 ≤ F ∧ F ≤ 2000 := by omega
        rw [← hF] at HRx9
        clear hF hng hrg hbg hg hM9 hTW HAQ HRQ HRQ7 HBQ hQs hcc hle0 HN7
        obtain ⟨x0, x1, x2, -, -, -⟩ := row3 HRx.out
        obtain ⟨y0, y1, y2, -, -, -⟩ := row3 HRx7.out
        go_wp2_with fail
        refine (HO.out ng c7 M7 T _ HAx.out HN7x.out (by have := HM7.out; omega) (by omega)).mono ?_
        rintro _ wy ⟨rfl, hby⟩
        obtain ⟨o7, o8⟩ := ordS_bd (sI false (M * 2 ^ (E - min E T).toNat)) (sI ng (M7 * 2 ^ (T - min E T).toNat))
        obtain ⟨O3, hO3⟩ : ∃ O, O = cmpI (sI false (M * 2 ^ (E - min E T).toNat)) (sI ng (M7 * 2 ^ (T - min E T).toNat)) := ⟨_, rfl⟩
        rw [← hO3] at o7 o8 ⊢
        have HAy := Lib.hid (HAx.out.below hby)
        have HN9y := Lib.hid (HN9x.out.below hby)
        have HRy := Lib.hid (keep_row hby HRx.out)
        have HRy9 := Lib.hid (keep_row hby HRx9.out)
        have HBy := Lib.hid (HBx.out.trans (hby.mono hxs))
        have hys := HBy.out.size
        clear hO3 hby HAx HN7x HN9x HRx HRx7 HRx9 HBx hxs x0 x1 x2 y0 y1 y2
        obtain ⟨x0, x1, x2, -, -, -⟩ := row3 HRy.out
        obtain ⟨y0, y1, y2, -, -, -⟩ := row3 HRy9.out
        by_cases c3 : 0 < O3
        · have t3 : decide (0 < O3) = true := decide_eq_true c3
          clear c3
          go_wp2_with fail
          refine (HO.out ng9 c9 M9 F _ HAy.out HN9y.out (by have := HM9.out; omega) (by omega)).mono ?_
          rintro _ wz ⟨rfl, hbz⟩
          obtain ⟨o9, o10⟩ := ordS_bd (sI false (M * 2 ^ (E - min E F).toNat)) (sI ng9 (M9 * 2 ^ (F - min E F).toNat))
          obtain ⟨O4, hO4⟩ : ∃ O, O = cmpI (sI false (M * 2 ^ (E - min E F).toNat)) (sI ng9 (M9 * 2 ^ (F - min E F).toNat)) := ⟨_, rfl⟩
          rw [← hO4] at o9 o10 ⊢
          have HBz := Lib.hid (HBy.out.trans (hbz.mono hys))
          obtain ⟨b4, hb4'⟩ : ∃ b, b = decide (O4 < 0) := ⟨_, rfl⟩
          have t4 : decide (O4 < 0) = b4 := hb4'.symm
          clear hO4 hbz hb4'
          go_wp2
          go_ret
          exact ⟨_, rfl, fun _ => HNE.out, HBz.out⟩
        · have t3 : decide (0 < O3) = false := decide_eq_false c3
          clear c3
          go_wp2
          go_ret
          exact ⟨_, rfl, fun _ => HNE.out, HBy.out⟩
  · have t1 : decide (0 ≤ O1) = false := decide_eq_false c1
    have HNE : Hid (0 < M → E + bl M ≠ L) := Lib.hid (fun hM h => c1 (HKEY.out hM h).1)
    clear c1 HKEY HR31 HN13 x0 x1 x2 y0 y1 y2
    go_wp2_with fail
    refine (spSmall 1 w3 (by decide)).mono ?_
    rintro _ w5 ⟨r5, rfl, hn5, hb5⟩
    have hS5 := hn5.isS
    have HN5 := Lib.hid hn5
    have HB5 := Lib.hid hb5
    clear hn5 hb5
    go_wp2_with fail
    refine (whole_any (-1) w5 (by omega) (by omega)).mono ?_
    rintro _ w6 ⟨_, rfl, ⟨r6, rfl, hn6⟩, hb6⟩
    have hS6 := hn6.isS
    have HN6 := Lib.hid hn6
    have HN56 := Lib.hid (HN5.out.below hb6)
    have HB6 := Lib.hid (bthen HB5.out hb6)
    clear hn6 hb6 HN5 HB5
    rw [show decide ((-1 : Int) < 0) = true from rfl]
    go_wp2_with fail
    refine (dSumB false true r5 r6 B 0 1 1 200 w6 HN56.out HN6.out (by rw [bl_one1]; omega) (by rw [bl_one1]; omega) (by decide) (by omega) (by decide)).mono ?_
    rintro _ w7 ⟨ng, c7, M7, rfl, hn7, hM7, hb7⟩
    rw [show min B 0 = 0 by omega]
    have hS7 := hn7.isS
    obtain ⟨P, hP⟩ : ∃ P, P = w7.alloc (.cells #[.bool ng, c7, .int .i64 0] 32) := ⟨_, rfl⟩
    have hbP : Below w7.heap.size w7 P := by rw [hP]; exact fbone _
    have hrP : P.heap[w7.heap.size]? = some (.cells #[.bool ng, c7, .int .i64 0] 32 (0, 0)) := by rw [hP]; exact row_chain11
    have hbWP := bthen HB6.out (bthen hb7 hbP)
    have HM7 := Lib.hid hM7
    obtain ⟨Q, hQ⟩ : ∃ Q, Q = P.setCell ⟨w7.heap.size, 2, none⟩ (.int .i64 T) := ⟨_, rfl⟩
    have hrQ : Q.heap[w7.heap.size]? = some (.cells #[.bool ng, c7, .int .i64 T] 32 (0, 0)) := by rw [hQ]; exact rowset (i := 2) (.int .i64 T) hrP
    have hlt7 : w3.heap.size ≤ w7.heap.size := (bthen HB6.out hb7).size
    have hbWQ : Below w3.heap.size w3 Q := by rw [hQ]; exact bset (i := 2) (u := .int .i64 T) hbWP hlt7
    have HN7 : Hid (NatV Q c7 M7) := Lib.hid (by rw [hQ]; exact natv_set2' hn7 hP)
    have HAQ := Lib.hid (HA3.out.below hbWQ)
    have HRQ := Lib.hid (keep_row hbWQ HR3.out)
    have HRQ7 := Lib.hid hrQ
    have HBQ := Lib.hid (HB3.out.trans (hbWQ.mono h3s))
    have hQs := HBQ.out.size
    obtain ⟨p0, p1, p2, q0, q1, q2⟩ := row3 hrP
    clear hn7 hb7 hbP hrP hbWP hM7 hrQ hlt7 hbWQ HN6 HN56 HB6
    go_upto_region 7 with fail
    rw [← hP]
    clear hP
    have hT0 : (0 : Int) + T = T := Int.zero_add T
    go_upto_region 8 with fail
    rw [← hQ]
    clear hQ hT0 p0 p1 p2 q0 q1 q2
    have hcc := Below.refl Q.heap.size Q
    have hTW : IntKind.i64.wrap (T - 1) = T - 1 := by simp [IntKind.wrap, IntKind.signed, IntKind.bits]; omega
    have hle0 : Q.heap.size ≤ Q.heap.size := Nat.le_refl _
    go_cut [12] (fun s12 wx => ∃ (g : Nat) (ng9 : Bool) (c9 : Value) (M9 : Nat), s12 = .pointer (some ⟨g, 0, none⟩) ∧ OneD Q wx ng9 (min T (T - 1)) M9 g c9 ∧ bl M9 ≤ 5000)
    case first =>
      first
        | (go_region_held3 (fun w' => Below Q.heap.size Q w' ∧ w'.cell? ⟨w7.heap.size, 0, none⟩ = some (.bool ng) ∧ w'.cell? ⟨w7.heap.size, 1, none⟩ = some c7 ∧ w'.cell? ⟨w7.heap.size, 2, none⟩ = some (.int .i64 T))
            ((refine ksD1 HRQ7.out ?_; repeat (with_reducible first | assumption | refine Below.drew ?_ | refine ballc ?_ _ | refine bset3 ?_ ?_)))
            (first
              | (go_at_call 48; (with_reducible refine (HSM.out _).mono ?_); rintro _ w8 ⟨r8, rfl, hn8, hb8⟩; have hS8 := hn8.isS; have hbw8 : Below Q.heap.size Q w8 := bthen (by repeat (with_reducible first | assumption | refine Below.drew ?_ | refine ballc ?_ _)) hb8; have hz8 := hbw8.size;
                  (first | (have hrU := box_rowD hb8; have hlU := (Array.getElem?_eq_some_iff.1 hrU).1) | skip))
              | (go_at_call 53; (with_reducible refine (dSumB ng false c7 r8 T (T - 1) M7 1 2500 _ (HN7.out.below (by repeat (with_reducible first | assumption | refine Below.drew ?_ | refine ballc ?_ _))) (by first | exact hn8 | exact hn8.below (fbone _)) (by have := HM7.out; omega) (by rw [bl_one1]; omega) (by decide) (by omega) (by omega)).mono ?_); rintro _ w9 ⟨ng9, c9, M9, rfl, hn9, hM9, hb9⟩; have hS9 := hn9.isS; have hbw9 : Below Q.heap.size Q w9 := bthen (by repeat (with_reducible first | assumption | refine Below.drew ?_ | refine ballc ?_ _)) hb9; have hz9 := hbw9.size; have hM9' : bl M9 ≤ 5000 := Nat.le_trans hM9 (by decide);
                  (first | (have hrU2 := keep_row hb9 hrU; have hlU2 := (Array.getElem?_eq_some_iff.1 hrU2).1; obtain ⟨k0, k1, k2, k3, k4, k5⟩ := row3 hrU2) | (have hrV2 := box_row hb9; have hlV2 := (Array.getElem?_eq_some_iff.1 hrV2).1; obtain ⟨k0, k1, k2, k3, k4, k5⟩ := row3 hrV2) | skip))))
        | fail
      all_goals
        go_wp2_with fail
        go_meet
        first
          | with_reducible exact ⟨_, _, _, _, rfl, oneD0 hbw9 hn9, hM9'⟩
          | with_reducible exact ⟨_, _, _, _, rfl, oneD1 hbw9 hn9 (by assumption) (by assumption), hM9'⟩
    case rest =>
      obtain ⟨g, ng9, c9, M9, rfl, ⟨hg, hrg, hng, hbg⟩, hM9⟩ := hcut
      have hS9 := hng.isS
      have HAx := Lib.hid (HAQ.out.below hbg)
      have HN7x := Lib.hid (HN7.out.below hbg)
      have HN9x := Lib.hid hng
      have HRx := Lib.hid (keep_row hbg HRQ.out)
      have HRx7 := Lib.hid (keep_row hbg HRQ7.out)
      have HRx9 := Lib.hid hrg
      have HBx := Lib.hid (HBQ.out.trans (hbg.mono hQs))
      have hxs := HBx.out.size
      have HM9 := Lib.hid hM9
      obtain ⟨F, hF⟩ : ∃ F : Int, F = min T (T - 1) := ⟨_, rfl⟩
      have hFb : -1 ≤ F ∧ F ≤ 2000 := by omega
      rw [← hF] at HRx9
      clear hF hng hrg hbg hg hM9 hTW HAQ HRQ HRQ7 HBQ hQs hcc hle0 HN7
      obtain ⟨x0, x1, x2, -, -, -⟩ := row3 HRx.out
      obtain ⟨y0, y1, y2, -, -, -⟩ := row3 HRx7.out
      go_wp2_with fail
      refine (HO.out ng c7 M7 T _ HAx.out HN7x.out (by have := HM7.out; omega) (by omega)).mono ?_
      rintro _ wy ⟨rfl, hby⟩
      obtain ⟨o7, o8⟩ := ordS_bd (sI false (M * 2 ^ (E - min E T).toNat)) (sI ng (M7 * 2 ^ (T - min E T).toNat))
      obtain ⟨O3, hO3⟩ : ∃ O, O = cmpI (sI false (M * 2 ^ (E - min E T).toNat)) (sI ng (M7 * 2 ^ (T - min E T).toNat)) := ⟨_, rfl⟩
      rw [← hO3] at o7 o8 ⊢
      have HAy := Lib.hid (HAx.out.below hby)
      have HN9y := Lib.hid (HN9x.out.below hby)
      have HRy := Lib.hid (keep_row hby HRx.out)
      have HRy9 := Lib.hid (keep_row hby HRx9.out)
      have HBy := Lib.hid (HBx.out.trans (hby.mono hxs))
      have hys := HBy.out.size
      clear hO3 hby HAx HN7x HN9x HRx HRx7 HRx9 HBx hxs x0 x1 x2 y0 y1 y2
      obtain ⟨x0, x1, x2, -, -, -⟩ := row3 HRy.out
      obtain ⟨y0, y1, y2, -, -, -⟩ := row3 HRy9.out
      by_cases c3 : 0 < O3
      · have t3 : decide (0 < O3) = true := decide_eq_true c3
        clear c3
        go_wp2_with fail
        refine (HO.out ng9 c9 M9 F _ HAy.out HN9y.out (by have := HM9.out; omega) (by omega)).mono ?_
        rintro _ wz ⟨rfl, hbz⟩
        obtain ⟨o9, o10⟩ := ordS_bd (sI false (M * 2 ^ (E - min E F).toNat)) (sI ng9 (M9 * 2 ^ (F - min E F).toNat))
        obtain ⟨O4, hO4⟩ : ∃ O, O = cmpI (sI false (M * 2 ^ (E - min E F).toNat)) (sI ng9 (M9 * 2 ^ (F - min E F).toNat)) := ⟨_, rfl⟩
        rw [← hO4] at o9 o10 ⊢
        have HBz := Lib.hid (HBy.out.trans (hbz.mono hys))
        obtain ⟨b4, hb4'⟩ : ∃ b, b = decide (O4 < 0) := ⟨_, rfl⟩
        have t4 : decide (O4 < 0) = b4 := hb4'.symm
        clear hO4 hbz hb4'
        go_wp2
        go_ret
        exact ⟨_, rfl, fun _ => HNE.out, HBz.out⟩
      · have t3 : decide (0 < O3) = false := decide_eq_false c3
        clear c3
        go_wp2
        go_ret
        exact ⟨_, rfl, fun _ => HNE.out, HBy.out⟩
end Go.Proofs.Ytlgnaioodnhkjaa
