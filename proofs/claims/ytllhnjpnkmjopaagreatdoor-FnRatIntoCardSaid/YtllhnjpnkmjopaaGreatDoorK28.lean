/-
Texts of this proof, joined: GcC. No condition.
-/
import Derived.Test.YtllhnjpnkmjopaaGreatDoorK27
namespace Go.Proofs.YtllhnjpnkmjopaaGreatDoor
open Go.RowKit

def SimP (A B : Nat) (w : World) (e : Ending) (w' : World) : Prop :=
  ∃ (u0 u1 v0 v1 : Nat) (ev : Bool), e = .returned (.tuple #[.int .u64 u0, .int .u64 u1, .int .u64 v0, .int .u64 v1, .bool ev]) ∧
    (u0 < 18446744073709551616 ∧ u1 < 18446744073709551616 ∧ v0 < 18446744073709551616 ∧ v1 < 18446744073709551616 ∧ Lead A B u0 u1 v0 v1 ev) ∧ ∃ k, w' = w.drewN k
theorem sim_round {a b x y u0 u1 u2 v0 v1 v2 : Nat} {ev : Bool} (h : Sim a b x y u0 u1 u2 v0 v1 v2 ev) (hba : b ≤ a) (ha : a < 18446744073709551616) (c1 : v2 ≤ y) (c2 : v1 + v2 ≤ x - y) :
    Sim a b y (x % y) u1 u2 (u1 + x / y * u2) v1 v2 (v1 + x / y * v2) (!ev) ∧ 0 < y ∧ u1 + x / y * u2 < 18446744073709551616 ∧ v1 + x / y * v2 < 18446744073709551616 ∧ x / y * u2 < 18446744073709551616 ∧ x / y * v2 < 18446744073709551616 ∧ x % y < y := by
  have hy : 0 < y := Nat.lt_of_lt_of_le h.v2 c1
  have hm := Nat.mod_lt x hy
  have hs := h.step (q := x / y) (r := x % y) c1 c2 (by rw [Nat.mul_comm]; exact (Nat.div_add_mod x y).symm) hm
  obtain ⟨b1, b2, -⟩ := hs.bd hy hba
  refine ⟨hs, hy, Nat.lt_of_le_of_lt b2 ha, Nat.lt_of_le_of_lt b1 ha, ?_, ?_, hm⟩
  · exact Nat.lt_of_le_of_lt (Nat.le_trans (Nat.le_add_left _ _) b2) ha
  · exact Nat.lt_of_le_of_lt (Nat.le_trans (Nat.le_add_left _ _) b1) ha
set_option maxRecDepth 100000 in
set_option maxHeartbeats 3200000 in
theorem sim_same (pa pb A B : Nat) (va vb : Value) (w : World) (ca : w.cell? ⟨pa, 1, none⟩ = some va) (cb : w.cell? ⟨pb, 1, none⟩ = some vb) (ha : RW w va (wds A)) (hb : RW w vb (wds B)) (hBA : B ≤ A) (hm2 : 2 ≤ nw B) (hn : nw A ≤ 1000000) (hnm : nw A = nw B) :
    Calls Tryz.prog 191 #[.pointer (some ⟨pa, 0, none⟩), .pointer (some ⟨pb, 0, none⟩)] w (SimP A B w) := by
  have hSa := ha.isS
  have hSb := hb.isS
  have hmn := nw_mono hBA
  obtain ⟨n, hne⟩ : ∃ n, n = nw A := ⟨_, rfl⟩
  obtain ⟨m, hme⟩ : ∃ m, m = nw B := ⟨_, rfl⟩
  have hLa : sLen va = n := by rw [ha.len, wds_length, hne]
  have hLb : sLen vb = m := by rw [hb.len, wds_length, hme]
  rw [← hne, ← hme] at hmn
  rw [← hme] at hm2
  rw [← hne] at hn
  have hA0 : 0 < A := by rcases Nat.eq_zero_or_pos A with h | h; (rw [h, nw_zero] at hne; omega); exact h
  obtain ⟨i1, hi1⟩ : ∃ i, i = n - 1 := ⟨_, rfl⟩
  obtain ⟨i0, hi0⟩ : ∃ i, i = n - 2 := ⟨_, rfl⟩
  obtain ⟨x1, hx1⟩ : ∃ x, x = wdg A i1 := ⟨_, rfl⟩
  obtain ⟨x0, hx0⟩ : ∃ x, x = wdg A i0 := ⟨_, rfl⟩
  obtain ⟨y1, hy1⟩ : ∃ x, x = wdg B i1 := ⟨_, rfl⟩
  obtain ⟨y0, hy0⟩ : ∃ x, x = wdg B i0 := ⟨_, rfl⟩
  have hx1l : x1 < 18446744073709551616 := by rw [hx1]; exact wdg_lt _ _
  have hx0l : x0 < 18446744073709551616 := by rw [hx0]; exact wdg_lt _ _
  have hy1l : y1 < 18446744073709551616 := by rw [hy1]; exact wdg_lt _ _
  have hy0l : y0 < 18446744073709551616 := by rw [hy0]; exact wdg_lt _ _
  obtain ⟨h, hh⟩ : ∃ h, h = 64 - bl x1 := ⟨_, rfl⟩
  obtain ⟨g1, g2, -⟩ := dl_shift (s := h) hA0 hne (by rw [hh, hx1, hi1])
  obtain ⟨a, hav⟩ : ∃ a, a = ldw A n h := ⟨_, rfl⟩
  obtain ⟨b, hbv⟩ : ∃ b, b = ldw B n h := ⟨_, rfl⟩
  obtain ⟨K, al, be, p1, p2, p3, p4, p5⟩ := ldw_parts (B := B) (by omega : 2 ≤ n) g1 g2 hBA
  rw [← hav] at p1 p5
  rw [← hbv] at p2 p5
  have hal : a < 18446744073709551616 := by rw [hav]; exact wdg_lt _ _
  obtain ⟨S, hS⟩ : ∃ S, S = 2 ^ h := ⟨_, rfl⟩
  obtain ⟨g, hg⟩ : ∃ g, g = 64 - h := ⟨_, rfl⟩
  obtain ⟨T, hT⟩ : ∃ T, T = 2 ^ g := ⟨_, rfl⟩
  have hS2 : (2 : Int) ^ h = (S : Int) := by rw [hS]; push_cast; rfl
  have hT2 : (2 : Int) ^ g = (T : Int) := by rw [hT]; push_cast; rfl
  have eA := ldw_eq (X := A) (by omega : 2 ≤ n) g1
  rw [← hav, ← hi0, ← hi1, ← hx1, ← hx0] at eA
  have eB := ldw_eq (X := B) (by omega : 2 ≤ n) g1
  rw [← hbv, ← hi0, ← hi1, ← hy1, ← hy0] at eB
  have oA := ldw_or (x := x1) (y := x0) g1 hx0l eA
  have oB := ldw_or (x := y1) (y := y0) g1 hy0l eB
  rw [← hS, ← hg, ← hT] at oA oB
  obtain ⟨s1, hs1⟩ : ∃ s, s = x1 * S % 18446744073709551616 := ⟨_, rfl⟩
  obtain ⟨s0, hs0⟩ : ∃ s, s = x0 / T := ⟨_, rfl⟩
  obtain ⟨t1, ht1⟩ : ∃ s, s = y1 * S % 18446744073709551616 := ⟨_, rfl⟩
  obtain ⟨t0, ht0⟩ : ∃ s, s = y0 / T := ⟨_, rfl⟩
  rw [← hs1, ← hs0] at oA
  rw [← ht1, ← ht0] at oB
  have k1 : IntKind.u64.wrap ((x1 : Int) * (S : Int)) = (s1 : Int) := by rw [wrapU, hs1]
  have k2 : (x0 : Int) / (T : Int) = (s0 : Int) := by rw [hs0]; push_cast; rfl
  have k3 : IntKind.u64.wrap ((y1 : Int) * (S : Int)) = (t1 : Int) := by rw [wrapU, ht1]
  have k4 : (y0 : Int) / (T : Int) = (t0 : Int) := by rw [ht0]; push_cast; rfl
  have k5 : IntKind.u64.wrap (64 - (h : Int)) = (g : Int) := by rw [IntKind.wrap_u64]; omega
  have k5' : (64 : Int) - (h : Int) = (g : Int) := by omega
  have k6 : (n : Int) - 1 = (i1 : Int) := by omega
  have k7 : (n : Int) - 2 = (i0 : Int) := by omega
  have k6' : IntKind.i64.wrap ((n : Int) - 1) = (i1 : Int) := by rw [IntKind.wrap_i64]; omega
  have k7' : IntKind.i64.wrap ((n : Int) - 2) = (i0 : Int) := by rw [IntKind.wrap_i64]; omega
  have l1 : i1 < n := by omega
  have l0 : i0 < n := by omega
  have cx1 : w.cell? ⟨sBlk va, sOff va + i1, none⟩ = some (.int .u64 (x1 : Int)) := by
    have := ha.cell i1 (by rw [wds_length]; omega)
    rw [wds_getD, ← hx1] at this
    exact this
  have cx0 : w.cell? ⟨sBlk va, sOff va + i0, none⟩ = some (.int .u64 (x0 : Int)) := by
    have := ha.cell i0 (by rw [wds_length]; omega)
    rw [wds_getD, ← hx0] at this
    exact this
  have cy1 : w.cell? ⟨sBlk vb, sOff vb + i1, none⟩ = some (.int .u64 (y1 : Int)) := by
    have := hb.cell i1 (by rw [wds_length]; omega)
    rw [wds_getD, ← hy1] at this
    exact this
  have cy0 : w.cell? ⟨sBlk vb, sOff vb + i0, none⟩ = some (.int .u64 (y0 : Int)) := by
    have := hb.cell i0 (by rw [wds_length]; omega)
    rw [wds_getD, ← hy0] at this
    exact this
  have HNL := Lib.hid (nlz_any x1 w hx1l)
  rw [← hh] at HNL
  have e0 : ((n : Int) == (m : Int)) = true := by rw [beq_iff_eq]; omega
  have j1 : i1 < m := by omega
  have j0 : i0 < m := by omega
  have HSIM := Lib.hid (Sim.start p5)
  have HP := Lib.hid (show ∀ (x y u0 u1 u2 v0 v1 v2 : Nat) (ev : Bool), Sim a b x y u0 u1 u2 v0 v1 v2 ev → Lead A B u0 u1 v0 v1 ev from fun _ _ _ _ _ _ _ _ _ hs => hs.lead p1 p2 p3 p4)
  have HBA := Lib.hid p5
  have hbl : b < 18446744073709551616 := by omega
  have hmb : m ≤ 1000000 := by omega
  have hg1 : h < 64 := g1
  have hgle : g ≤ 64 := by omega
  clear ha hb hBA hmn hne hme hA0 hi1 hi0 hx1 hx0 hy1 hy0 hh g1 g2 hav hbv p1 p2 p3 p4 p5 hS hg hT eA eB hs1 hs0 ht1 ht0 hnm
  go_enter Tryz.func191, Tryz.ntmps191
  go_wp2_with fail
  refine HNL.out.mono ?_
  rintro _ _ ⟨rfl, rfl⟩
  go_wp2_with fail
  go_quiet (fail)
  go_wp2_with fail
  go_quiet (fail)
  go_wp2
  go_loopw [4, 5, 6, 7, 8, 9, 10, 11, 12] (fun c4 c5 c6 c7 c8 c9 c10 c11 c12 wr => ∃ (x y u0 u1 u2 v0 v1 v2 : Nat) (ev : Bool), c4 = .int .u64 u0 ∧ c5 = .int .u64 u1 ∧ c6 = .int .u64 v0 ∧ c7 = .int .u64 v1 ∧ c8 = .bool ev ∧ c9 = .int .u64 x ∧ c10 = .int .u64 y ∧ c11 = .int .u64 u2 ∧ c12 = .int .u64 v2 ∧ (Sim a b x y u0 u1 u2 v0 v1 v2 ev ∧ x < 18446744073709551616 ∧ y < 18446744073709551616 ∧ u0 < 18446744073709551616 ∧ u1 < 18446744073709551616 ∧ u2 < 18446744073709551616 ∧ v0 < 18446744073709551616 ∧ v1 < 18446744073709551616 ∧ v2 < 18446744073709551616) ∧ ∃ k, wr = w.drewN k) (fun _ _ _ _ _ _ c10 _ _ _ => (intOf c10).toNat)
  case atStart => exact ⟨a, b, 0, 1, 0, 0, 0, 1, false, rfl, rfl, rfl, rfl, rfl, rfl, rfl, rfl, rfl, ⟨HSIM.out, hal, hbl, by decide, by decide, by decide, by decide, by decide, by decide⟩, by first | exact ⟨_, rfl⟩ | exact ⟨_, World.drewN_drewN _ _ _⟩⟩
  case round =>
    obtain ⟨x, y, u0, u1, u2, v0, v1, v2, ev, rfl, rfl, rfl, rfl, rfl, rfl, rfl, rfl, rfl, ⟨hs, b1, b2, b3, b4, b5, b6, b7, b8⟩, k, rfl⟩ := hrel
    have hyx := hs.yx
    have HS := Lib.hid hs
    have hld := HP.out _ _ _ _ _ _ _ _ _ hs
    have Q : Hid (SimP A B w (.returned (.tuple #[.int .u64 u0, .int .u64 u1, .int .u64 v0, .int .u64 v1, .bool ev])) (w.drewN k)) := Lib.hid ⟨u0, u1, v0, v1, ev, rfl, ⟨b3, b4, b6, b7, hld⟩, k, rfl⟩
    by_cases c1 : v2 ≤ y
    · have q1 : decide (v2 ≤ y) = true := decide_eq_true c1
      have hypos : 0 < y := Nat.lt_of_lt_of_le hs.v2 c1
      have hbd := (hs.bd (by omega) HBA.out).2.2 hypos
      obtain ⟨d, hd⟩ : ∃ d, d = x - y := ⟨_, rfl⟩
      obtain ⟨f, hf⟩ : ∃ f, f = v1 + v2 := ⟨_, rfl⟩
      have hfl : f < 18446744073709551616 := by omega
      have r1 : (x : Int) - (y : Int) = (d : Int) := by omega
      have r2 : (v1 : Int) + (v2 : Int) = (f : Int) := by omega
      have r1' : IntKind.u64.wrap ((x : Int) - (y : Int)) = (d : Int) := by rw [IntKind.wrap_u64]; omega
      have r2' : IntKind.u64.wrap ((v1 : Int) + (v2 : Int)) = (f : Int) := by rw [IntKind.wrap_u64]; omega
      by_cases c2 : f ≤ d
      · have q2 : decide (f ≤ d) = true := decide_eq_true c2
        obtain ⟨n1, n2, n3, n4, n5, n6, n7⟩ := sim_round hs HBA.out hal c1 (by rw [← hd, ← hf]; exact c2)
        obtain ⟨q, hq⟩ : ∃ q, q = x / y := ⟨_, rfl⟩
        obtain ⟨r, hr⟩ : ∃ r, r = x % y := ⟨_, rfl⟩
        rw [← hq, ← hr] at n1
        rw [← hq] at n3 n4 n5 n6
        rw [← hr] at n7
        obtain ⟨qu, hqu⟩ : ∃ z, z = q * u2 := ⟨_, rfl⟩
        obtain ⟨qv, hqv⟩ : ∃ z, z = q * v2 := ⟨_, rfl⟩
        rw [← hqu, ← hqv] at n1
        rw [← hqu] at n3 n5
        rw [← hqv] at n4 n6
        have z1 : (x : Int) / (y : Int) = (q : Int) := by rw [hq]; push_cast; rfl
        have z2 : (x : Int) % (y : Int) = (r : Int) := by rw [hr]; push_cast; rfl
        have hql : q < 18446744073709551616 := by rw [hq]; exact Nat.lt_of_le_of_lt (Nat.div_le_self _ _) b1
        have z3 : IntKind.u64.wrap ((q : Int) * (u2 : Int)) = (qu : Int) := by rw [wrapU, ← hqu, Nat.mod_eq_of_lt n5]
        have z4 : IntKind.u64.wrap ((q : Int) * (v2 : Int)) = (qv : Int) := by rw [wrapU, ← hqv, Nat.mod_eq_of_lt n6]
        have z5 : IntKind.u64.wrap ((u1 : Int) + (qu : Int)) = ((u1 + qu : Nat) : Int) := by rw [IntKind.wrap_u64]; omega
        have z6 : IntKind.u64.wrap ((v1 : Int) + (qv : Int)) = ((v1 + qv : Nat) : Int) := by rw [IntKind.wrap_u64]; omega
        have hyz : ((y : Int) == 0) = false := by rw [beq_eq_false_iff_ne]; omega
        have hyz' : (y : Int) ≠ 0 := by omega
        have HN1 := Lib.hid n1
        clear hs hld hd hf hq hr hqu hqv n1 hyx hbd c1 c2
        go_wp2_with fail
        go_quiet (fail)
        go_wp2
        go_roundw
        case rel => exact ⟨y, r, u1, u2, u1 + qu, v1, v2, v1 + qv, !ev, by go_num, by go_num, by go_num, by go_num, rfl, by go_num, by go_num, by go_num, by go_num, ⟨HN1.out, b2, by omega, b4, b5, n3, b7, b8, n4⟩, by first | exact ⟨_, rfl⟩ | exact ⟨_, World.drewN_drewN _ _ _⟩⟩
        case measure => simp [intOf]; omega
      · have q2 : decide (f ≤ d) = false := decide_eq_false c2
        clear hs hld hd hf hyx hbd c1 c2
        go_wp2
        refine bodyPost_ret (v := .tuple #[.int .u64 u0, .int .u64 u1, .int .u64 v0, .int .u64 v1, .bool ev]) ?_ rfl Q.out
        simp [results, Tryz.results191, go_sem]
    · have q1 : decide (v2 ≤ y) = false := decide_eq_false c1
      clear hs hld hyx c1
      go_wp2
      refine bodyPost_ret (v := .tuple #[.int .u64 u0, .int .u64 u1, .int .u64 v0, .int .u64 v1, .bool ev]) ?_ rfl Q.out
      simp [results, Tryz.results191, go_sem]
set_option maxRecDepth 100000 in
set_option maxHeartbeats 3200000 in
theorem sim_one (pa pb A B : Nat) (va vb : Value) (w : World) (ca : w.cell? ⟨pa, 1, none⟩ = some va) (cb : w.cell? ⟨pb, 1, none⟩ = some vb) (ha : RW w va (wds A)) (hb : RW w vb (wds B)) (hBA : B ≤ A) (hm2 : 2 ≤ nw B) (hn : nw A ≤ 1000000) (hnm : nw A = nw B + 1) :
    Calls Tryz.prog 191 #[.pointer (some ⟨pa, 0, none⟩), .pointer (some ⟨pb, 0, none⟩)] w (SimP A B w) := by
  have hSa := ha.isS
  have hSb := hb.isS
  have hmn := nw_mono hBA
  obtain ⟨n, hne⟩ : ∃ n, n = nw A := ⟨_, rfl⟩
  obtain ⟨m, hme⟩ : ∃ m, m = nw B := ⟨_, rfl⟩
  have hLa : sLen va = n := by rw [ha.len, wds_length, hne]
  have hLb : sLen vb = m := by rw [hb.len, wds_length, hme]
  rw [← hne, ← hme] at hmn
  rw [← hme] at hm2
  rw [← hne] at hn
  have hA0 : 0 < A := by rcases Nat.eq_zero_or_pos A with h | h; (rw [h, nw_zero] at hne; omega); exact h
  obtain ⟨i1, hi1⟩ : ∃ i, i = n - 1 := ⟨_, rfl⟩
  obtain ⟨i0, hi0⟩ : ∃ i, i = n - 2 := ⟨_, rfl⟩
  obtain ⟨x1, hx1⟩ : ∃ x, x = wdg A i1 := ⟨_, rfl⟩
  obtain ⟨x0, hx0⟩ : ∃ x, x = wdg A i0 := ⟨_, rfl⟩
  obtain ⟨y1, hy1⟩ : ∃ x, x = wdg B i1 := ⟨_, rfl⟩
  obtain ⟨y0, hy0⟩ : ∃ x, x = wdg B i0 := ⟨_, rfl⟩
  have hx1l : x1 < 18446744073709551616 := by rw [hx1]; exact wdg_lt _ _
  have hx0l : x0 < 18446744073709551616 := by rw [hx0]; exact wdg_lt _ _
  have hy1l : y1 < 18446744073709551616 := by rw [hy1]; exact wdg_lt _ _
  have hy0l : y0 < 18446744073709551616 := by rw [hy0]; exact wdg_lt _ _
  obtain ⟨h, hh⟩ : ∃ h, h = 64 - bl x1 := ⟨_, rfl⟩
  obtain ⟨g1, g2, -⟩ := dl_shift (s := h) hA0 hne (by rw [hh, hx1, hi1])
  obtain ⟨a, hav⟩ : ∃ a, a = ldw A n h := ⟨_, rfl⟩
  obtain ⟨b, hbv⟩ : ∃ b, b = ldw B n h := ⟨_, rfl⟩
  obtain ⟨K, al, be, p1, p2, p3, p4, p5⟩ := ldw_parts (B := B) (by omega : 2 ≤ n) g1 g2 hBA
  rw [← hav] at p1 p5
  rw [← hbv] at p2 p5
  have hal : a < 18446744073709551616 := by rw [hav]; exact wdg_lt _ _
  obtain ⟨S, hS⟩ : ∃ S, S = 2 ^ h := ⟨_, rfl⟩
  obtain ⟨g, hg⟩ : ∃ g, g = 64 - h := ⟨_, rfl⟩
  obtain ⟨T, hT⟩ : ∃ T, T = 2 ^ g := ⟨_, rfl⟩
  have hS2 : (2 : Int) ^ h = (S : Int) := by rw [hS]; push_cast; rfl
  have hT2 : (2 : Int) ^ g = (T : Int) := by rw [hT]; push_cast; rfl
  have eA := ldw_eq (X := A) (by omega : 2 ≤ n) g1
  rw [← hav, ← hi0, ← hi1, ← hx1, ← hx0] at eA
  have eB := ldw_eq (X := B) (by omega : 2 ≤ n) g1
  rw [← hbv, ← hi0, ← hi1, ← hy1, ← hy0] at eB
  have oA := ldw_or (x := x1) (y := x0) g1 hx0l eA
  have oB := ldw_or (x := y1) (y := y0) g1 hy0l eB
  rw [← hS, ← hg, ← hT] at oA oB
  obtain ⟨s1, hs1⟩ : ∃ s, s = x1 * S % 18446744073709551616 := ⟨_, rfl⟩
  obtain ⟨s0, hs0⟩ : ∃ s, s = x0 / T := ⟨_, rfl⟩
  obtain ⟨t1, ht1⟩ : ∃ s, s = y1 * S % 18446744073709551616 := ⟨_, rfl⟩
  obtain ⟨t0, ht0⟩ : ∃ s, s = y0 / T := ⟨_, rfl⟩
  rw [← hs1, ← hs0] at oA
  rw [← ht1, ← ht0] at oB
  have k1 : IntKind.u64.wrap ((x1 : Int) * (S : Int)) = (s1 : Int) := by rw [wrapU, hs1]
  have k2 : (x0 : Int) / (T : Int) = (s0 : Int) := by rw [hs0]; push_cast; rfl
  have k3 : IntKind.u64.wrap ((y1 : Int) * (S : Int)) = (t1 : Int) := by rw [wrapU, ht1]
  have k4 : (y0 : Int) / (T : Int) = (t0 : Int) := by rw [ht0]; push_cast; rfl
  have k5 : IntKind.u64.wrap (64 - (h : Int)) = (g : Int) := by rw [IntKind.wrap_u64]; omega
  have k5' : (64 : Int) - (h : Int) = (g : Int) := by omega
  have k6 : (n : Int) - 1 = (i1 : Int) := by omega
  have k7 : (n : Int) - 2 = (i0 : Int) := by omega
  have k6' : IntKind.i64.wrap ((n : Int) - 1) = (i1 : Int) := by rw [IntKind.wrap_i64]; omega
  have k7' : IntKind.i64.wrap ((n : Int) - 2) = (i0 : Int) := by rw [IntKind.wrap_i64]; omega
  have l1 : i1 < n := by omega
  have l0 : i0 < n := by omega
  have cx1 : w.cell? ⟨sBlk va, sOff va + i1, none⟩ = some (.int .u64 (x1 : Int)) := by
    have := ha.cell i1 (by rw [wds_length]; omega)
    rw [wds_getD, ← hx1] at this
    exact this
  have cx0 : w.cell? ⟨sBlk va, sOff va + i0, none⟩ = some (.int .u64 (x0 : Int)) := by
    have := ha.cell i0 (by rw [wds_length]; omega)
    rw [wds_getD, ← hx0] at this
    exact this
  have cy0 : w.cell? ⟨sBlk vb, sOff vb + i0, none⟩ = some (.int .u64 (y0 : Int)) := by
    have := hb.cell i0 (by rw [wds_length]; omega)
    rw [wds_getD, ← hy0] at this
    exact this
  have HNL := Lib.hid (nlz_any x1 w hx1l)
  rw [← hh] at HNL
  have e0 : ((n : Int) == (m : Int)) = false := by rw [beq_eq_false_iff_ne]; omega
  have e00 : ((n : Int) == (m : Int) + 1) = true := by rw [beq_iff_eq]; omega
  have j0 : i0 < m := by omega
  have hy10 : y1 = 0 := by rw [hy1]; exact wdg_small (lt_nw B) (by omega)
  have hbt : b = t0 := by rw [ht0, hT, hg, eB, hy10]; simp
  subst hbt
  have HSIM := Lib.hid (Sim.start p5)
  have HP := Lib.hid (show ∀ (x y u0 u1 u2 v0 v1 v2 : Nat) (ev : Bool), Sim a b x y u0 u1 u2 v0 v1 v2 ev → Lead A B u0 u1 v0 v1 ev from fun _ _ _ _ _ _ _ _ _ hs => hs.lead p1 p2 p3 p4)
  have HBA := Lib.hid p5
  have hbl : b < 18446744073709551616 := by omega
  have hmb : m ≤ 1000000 := by omega
  have hg1 : h < 64 := g1
  have hgle : g ≤ 64 := by omega
  clear ha hb hBA hmn hne hme hA0 hi1 hi0 hx1 hx0 hy1 hy0 hh g1 g2 hav hbv p1 p2 p3 p4 p5 hS hg hT eA eB hs1 hs0 ht1 ht0 hnm hy10
  go_enter Tryz.func191, Tryz.ntmps191
  go_wp2_with fail
  refine HNL.out.mono ?_
  rintro _ _ ⟨rfl, rfl⟩
  go_wp2_with fail
  go_quiet (fail)
  go_wp2
  go_loopw [4, 5, 6, 7, 8, 9, 10, 11, 12] (fun c4 c5 c6 c7 c8 c9 c10 c11 c12 wr => ∃ (x y u0 u1 u2 v0 v1 v2 : Nat) (ev : Bool), c4 = .int .u64 u0 ∧ c5 = .int .u64 u1 ∧ c6 = .int .u64 v0 ∧ c7 = .int .u64 v1 ∧ c8 = .bool ev ∧ c9 = .int .u64 x ∧ c10 = .int .u64 y ∧ c11 = .int .u64 u2 ∧ c12 = .int .u64 v2 ∧ (Sim a b x y u0 u1 u2 v0 v1 v2 ev ∧ x < 18446744073709551616 ∧ y < 18446744073709551616 ∧ u0 < 18446744073709551616 ∧ u1 < 18446744073709551616 ∧ u2 < 18446744073709551616 ∧ v0 < 18446744073709551616 ∧ v1 < 18446744073709551616 ∧ v2 < 18446744073709551616) ∧ ∃ k, wr = w.drewN k) (fun _ _ _ _ _ _ c10 _ _ _ => (intOf c10).toNat)
  case atStart => exact ⟨a, b, 0, 1, 0, 0, 0, 1, false, rfl, rfl, rfl, rfl, rfl, rfl, rfl, rfl, rfl, ⟨HSIM.out, hal, hbl, by decide, by decide, by decide, by decide, by decide, by decide⟩, by first | exact ⟨_, rfl⟩ | exact ⟨_, World.drewN_drewN _ _ _⟩⟩
  case round =>
    obtain ⟨x, y, u0, u1, u2, v0, v1, v2, ev, rfl, rfl, rfl, rfl, rfl, rfl, rfl, rfl, rfl, ⟨hs, b1, b2, b3, b4, b5, b6, b7, b8⟩, k, rfl⟩ := hrel
    have hyx := hs.yx
    have HS := Lib.hid hs
    have hld := HP.out _ _ _ _ _ _ _ _ _ hs
    have Q : Hid (SimP A B w (.returned (.tuple #[.int .u64 u0, .int .u64 u1, .int .u64 v0, .int .u64 v1, .bool ev])) (w.drewN k)) := Lib.hid ⟨u0, u1, v0, v1, ev, rfl, ⟨b3, b4, b6, b7, hld⟩, k, rfl⟩
    by_cases c1 : v2 ≤ y
    · have q1 : decide (v2 ≤ y) = true := decide_eq_true c1
      have hypos : 0 < y := Nat.lt_of_lt_of_le hs.v2 c1
      have hbd := (hs.bd (by omega) HBA.out).2.2 hypos
      obtain ⟨d, hd⟩ : ∃ d, d = x - y := ⟨_, rfl⟩
      obtain ⟨f, hf⟩ : ∃ f, f = v1 + v2 := ⟨_, rfl⟩
      have hfl : f < 18446744073709551616 := by omega
      have r1 : (x : Int) - (y : Int) = (d : Int) := by omega
      have r2 : (v1 : Int) + (v2 : Int) = (f : Int) := by omega
      have r1' : IntKind.u64.wrap ((x : Int) - (y : Int)) = (d : Int) := by rw [IntKind.wrap_u64]; omega
      have r2' : IntKind.u64.wrap ((v1 : Int) + (v2 : Int)) = (f : Int) := by rw [IntKind.wrap_u64]; omega
      by_cases c2 : f ≤ d
      · have q2 : decide (f ≤ d) = true := decide_eq_true c2
        obtain ⟨n1, n2, n3, n4, n5, n6, n7⟩ := sim_round hs HBA.out hal c1 (by rw [← hd, ← hf]; exact c2)
        obtain ⟨q, hq⟩ : ∃ q, q = x / y := ⟨_, rfl⟩
        obtain ⟨r, hr⟩ : ∃ r, r = x % y := ⟨_, rfl⟩
        rw [← hq, ← hr] at n1
        rw [← hq] at n3 n4 n5 n6
        rw [← hr] at n7
        obtain ⟨qu, hqu⟩ : ∃ z, z = q * u2 := ⟨_, rfl⟩
        obtain ⟨qv, hqv⟩ : ∃ z, z = q * v2 := ⟨_, rfl⟩
        rw [← hqu, ← hqv] at n1
        rw [← hqu] at n3 n5
        rw [← hqv] at n4 n6
        have z1 : (x : Int) / (y : Int) = (q : Int) := by rw [hq]; push_cast; rfl
        have z2 : (x : Int) % (y : Int) = (r : Int) := by rw [hr]; push_cast; rfl
        have hql : q < 18446744073709551616 := by rw [hq]; exact Nat.lt_of_le_of_lt (Nat.div_le_self _ _) b1
        have z3 : IntKind.u64.wrap ((q : Int) * (u2 : Int)) = (qu : Int) := by rw [wrapU, ← hqu, Nat.mod_eq_of_lt n5]
        have z4 : IntKind.u64.wrap ((q : Int) * (v2 : Int)) = (qv : Int) := by rw [wrapU, ← hqv, Nat.mod_eq_of_lt n6]
        have z5 : IntKind.u64.wrap ((u1 : Int) + (qu : Int)) = ((u1 + qu : Nat) : Int) := by rw [IntKind.wrap_u64]; omega
        have z6 : IntKind.u64.wrap ((v1 : Int) + (qv : Int)) = ((v1 + qv : Nat) : Int) := by rw [IntKind.wrap_u64]; omega
        have hyz : ((y : Int) == 0) = false := by rw [beq_eq_false_iff_ne]; omega
        have hyz' : (y : Int) ≠ 0 := by omega
        have HN1 := Lib.hid n1
        clear hs hld hd hf hq hr hqu hqv n1 hyx hbd c1 c2
        go_wp2_with fail
        go_quiet (fail)
        go_wp2
        go_roundw
        case rel => exact ⟨y, r, u1, u2, u1 + qu, v1, v2, v1 + qv, !ev, by go_num, by go_num, by go_num, by go_num, rfl, by go_num, by go_num, by go_num, by go_num, ⟨HN1.out, b2, by omega, b4, b5, n3, b7, b8, n4⟩, by first | exact ⟨_, rfl⟩ | exact ⟨_, World.drewN_drewN _ _ _⟩⟩
        case measure => simp [intOf]; omega
      · have q2 : decide (f ≤ d) = false := decide_eq_false c2
        clear hs hld hd hf hyx hbd c1 c2
        go_wp2
        refine bodyPost_ret (v := .tuple #[.int .u64 u0, .int .u64 u1, .int .u64 v0, .int .u64 v1, .bool ev]) ?_ rfl Q.out
        simp [results, Tryz.results191, go_sem]
    · have q1 : decide (v2 ≤ y) = false := decide_eq_false c1
      clear hs hld hyx c1
      go_wp2
      refine bodyPost_ret (v := .tuple #[.int .u64 u0, .int .u64 u1, .int .u64 v0, .int .u64 v1, .bool ev]) ?_ rfl Q.out
      simp [results, Tryz.results191, go_sem]
set_option maxRecDepth 100000 in
set_option maxHeartbeats 3200000 in
theorem sim_far (pa pb A B : Nat) (va vb : Value) (w : World) (ca : w.cell? ⟨pa, 1, none⟩ = some va) (cb : w.cell? ⟨pb, 1, none⟩ = some vb) (ha : RW w va (wds A)) (hb : RW w vb (wds B)) (hBA : B ≤ A) (hm2 : 2 ≤ nw B) (hn : nw A ≤ 1000000) (hnm : nw B + 2 ≤ nw A) :
    Calls Tryz.prog 191 #[.pointer (some ⟨pa, 0, none⟩), .pointer (some ⟨pb, 0, none⟩)] w (SimP A B w) := by
  have hSa := ha.isS
  have hSb := hb.isS
  have hmn := nw_mono hBA
  obtain ⟨n, hne⟩ : ∃ n, n = nw A := ⟨_, rfl⟩
  obtain ⟨m, hme⟩ : ∃ m, m = nw B := ⟨_, rfl⟩
  have hLa : sLen va = n := by rw [ha.len, wds_length, hne]
  have hLb : sLen vb = m := by rw [hb.len, wds_length, hme]
  rw [← hne, ← hme] at hmn
  rw [← hme] at hm2
  rw [← hne] at hn
  have hA0 : 0 < A := by rcases Nat.eq_zero_or_pos A with h | h; (rw [h, nw_zero] at hne; omega); exact h
  obtain ⟨i1, hi1⟩ : ∃ i, i = n - 1 := ⟨_, rfl⟩
  obtain ⟨i0, hi0⟩ : ∃ i, i = n - 2 := ⟨_, rfl⟩
  obtain ⟨x1, hx1⟩ : ∃ x, x = wdg A i1 := ⟨_, rfl⟩
  obtain ⟨x0, hx0⟩ : ∃ x, x = wdg A i0 := ⟨_, rfl⟩
  obtain ⟨y1, hy1⟩ : ∃ x, x = wdg B i1 := ⟨_, rfl⟩
  obtain ⟨y0, hy0⟩ : ∃ x, x = wdg B i0 := ⟨_, rfl⟩
  have hx1l : x1 < 18446744073709551616 := by rw [hx1]; exact wdg_lt _ _
  have hx0l : x0 < 18446744073709551616 := by rw [hx0]; exact wdg_lt _ _
  have hy1l : y1 < 18446744073709551616 := by rw [hy1]; exact wdg_lt _ _
  have hy0l : y0 < 18446744073709551616 := by rw [hy0]; exact wdg_lt _ _
  obtain ⟨h, hh⟩ : ∃ h, h = 64 - bl x1 := ⟨_, rfl⟩
  obtain ⟨g1, g2, -⟩ := dl_shift (s := h) hA0 hne (by rw [hh, hx1, hi1])
  obtain ⟨a, hav⟩ : ∃ a, a = ldw A n h := ⟨_, rfl⟩
  obtain ⟨b, hbv⟩ : ∃ b, b = ldw B n h := ⟨_, rfl⟩
  obtain ⟨K, al, be, p1, p2, p3, p4, p5⟩ := ldw_parts (B := B) (by omega : 2 ≤ n) g1 g2 hBA
  rw [← hav] at p1 p5
  rw [← hbv] at p2 p5
  have hal : a < 18446744073709551616 := by rw [hav]; exact wdg_lt _ _
  obtain ⟨S, hS⟩ : ∃ S, S = 2 ^ h := ⟨_, rfl⟩
  obtain ⟨g, hg⟩ : ∃ g, g = 64 - h := ⟨_, rfl⟩
  obtain ⟨T, hT⟩ : ∃ T, T = 2 ^ g := ⟨_, rfl⟩
  have hS2 : (2 : Int) ^ h = (S : Int) := by rw [hS]; push_cast; rfl
  have hT2 : (2 : Int) ^ g = (T : Int) := by rw [hT]; push_cast; rfl
  have eA := ldw_eq (X := A) (by omega : 2 ≤ n) g1
  rw [← hav, ← hi0, ← hi1, ← hx1, ← hx0] at eA
  have eB := ldw_eq (X := B) (by omega : 2 ≤ n) g1
  rw [← hbv, ← hi0, ← hi1, ← hy1, ← hy0] at eB
  have oA := ldw_or (x := x1) (y := x0) g1 hx0l eA
  have oB := ldw_or (x := y1) (y := y0) g1 hy0l eB
  rw [← hS, ← hg, ← hT] at oA oB
  obtain ⟨s1, hs1⟩ : ∃ s, s = x1 * S % 18446744073709551616 := ⟨_, rfl⟩
  obtain ⟨s0, hs0⟩ : ∃ s, s = x0 / T := ⟨_, rfl⟩
  obtain ⟨t1, ht1⟩ : ∃ s, s = y1 * S % 18446744073709551616 := ⟨_, rfl⟩
  obtain ⟨t0, ht0⟩ : ∃ s, s = y0 / T := ⟨_, rfl⟩
  rw [← hs1, ← hs0] at oA
  rw [← ht1, ← ht0] at oB
  have k1 : IntKind.u64.wrap ((x1 : Int) * (S : Int)) = (s1 : Int) := by rw [wrapU, hs1]
  have k2 : (x0 : Int) / (T : Int) = (s0 : Int) := by rw [hs0]; push_cast; rfl
  have k3 : IntKind.u64.wrap ((y1 : Int) * (S : Int)) = (t1 : Int) := by rw [wrapU, ht1]
  have k4 : (y0 : Int) / (T : Int) = (t0 : Int) := by rw [ht0]; push_cast; rfl
  have k5 : IntKind.u64.wrap (64 - (h : Int)) = (g : Int) := by rw [IntKind.wrap_u64]; omega
  have k5' : (64 : Int) - (h : Int) = (g : Int) := by omega
  have k6 : (n : Int) - 1 = (i1 : Int) := by omega
  have k7 : (n : Int) - 2 = (i0 : Int) := by omega
  have k6' : IntKind.i64.wrap ((n : Int) - 1) = (i1 : Int) := by rw [IntKind.wrap_i64]; omega
  have k7' : IntKind.i64.wrap ((n : Int) - 2) = (i0 : Int) := by rw [IntKind.wrap_i64]; omega
  have l1 : i1 < n := by omega
  have l0 : i0 < n := by omega
  have cx1 : w.cell? ⟨sBlk va, sOff va + i1, none⟩ = some (.int .u64 (x1 : Int)) := by
    have := ha.cell i1 (by rw [wds_length]; omega)
    rw [wds_getD, ← hx1] at this
    exact this
  have cx0 : w.cell? ⟨sBlk va, sOff va + i0, none⟩ = some (.int .u64 (x0 : Int)) := by
    have := ha.cell i0 (by rw [wds_length]; omega)
    rw [wds_getD, ← hx0] at this
    exact this
  have HNL := Lib.hid (nlz_any x1 w hx1l)
  rw [← hh] at HNL
  have e0 : ((n : Int) == (m : Int)) = false := by rw [beq_eq_false_iff_ne]; omega
  have e00 : ((n : Int) == (m : Int) + 1) = false := by rw [beq_eq_false_iff_ne]; omega
  have hy10 : y1 = 0 := by rw [hy1]; exact wdg_small (lt_nw B) (by omega)
  have hy00 : y0 = 0 := by rw [hy0]; exact wdg_small (lt_nw B) (by omega)
  have HB0 := Lib.hid (show b = 0 by rw [eB, hy10, hy00]; simp)
  have HSIM := Lib.hid (Sim.start p5)
  have HP := Lib.hid (show ∀ (x y u0 u1 u2 v0 v1 v2 : Nat) (ev : Bool), Sim a b x y u0 u1 u2 v0 v1 v2 ev → Lead A B u0 u1 v0 v1 ev from fun _ _ _ _ _ _ _ _ _ hs => hs.lead p1 p2 p3 p4)
  have HBA := Lib.hid p5
  have hbl : b < 18446744073709551616 := by omega
  have hmb : m ≤ 1000000 := by omega
  have hg1 : h < 64 := g1
  have hgle : g ≤ 64 := by omega
  clear ha hb hBA hmn hne hme hA0 hi1 hi0 hx1 hx0 hy1 hy0 hh g1 g2 hav hbv p1 p2 p3 p4 p5 hS hg hT eA eB hs1 hs0 ht1 ht0 hnm hy10 hy00
  go_enter Tryz.func191, Tryz.ntmps191
  go_wp2_with fail
  refine HNL.out.mono ?_
  rintro _ _ ⟨rfl, rfl⟩
  go_wp2_with fail
  go_quiet (fail)
  go_wp2
  go_loopw [4, 5, 6, 7, 8, 9, 10, 11, 12] (fun c4 c5 c6 c7 c8 c9 c10 c11 c12 wr => ∃ (x y u0 u1 u2 v0 v1 v2 : Nat) (ev : Bool), c4 = .int .u64 u0 ∧ c5 = .int .u64 u1 ∧ c6 = .int .u64 v0 ∧ c7 = .int .u64 v1 ∧ c8 = .bool ev ∧ c9 = .int .u64 x ∧ c10 = .int .u64 y ∧ c11 = .int .u64 u2 ∧ c12 = .int .u64 v2 ∧ (Sim a b x y u0 u1 u2 v0 v1 v2 ev ∧ x < 18446744073709551616 ∧ y < 18446744073709551616 ∧ u0 < 18446744073709551616 ∧ u1 < 18446744073709551616 ∧ u2 < 18446744073709551616 ∧ v0 < 18446744073709551616 ∧ v1 < 18446744073709551616 ∧ v2 < 18446744073709551616) ∧ ∃ k, wr = w.drewN k) (fun _ _ _ _ _ _ c10 _ _ _ => (intOf c10).toNat)
  case atStart => exact ⟨a, b, 0, 1, 0, 0, 0, 1, false, rfl, rfl, rfl, rfl, rfl, rfl, by rw [HB0.out]; rfl, rfl, rfl, ⟨HSIM.out, hal, hbl, by decide, by decide, by decide, by decide, by decide, by decide⟩, by first | exact ⟨_, rfl⟩ | exact ⟨_, World.drewN_drewN _ _ _⟩⟩
  case round =>
    obtain ⟨x, y, u0, u1, u2, v0, v1, v2, ev, rfl, rfl, rfl, rfl, rfl, rfl, rfl, rfl, rfl, ⟨hs, b1, b2, b3, b4, b5, b6, b7, b8⟩, k, rfl⟩ := hrel
    have hyx := hs.yx
    have HS := Lib.hid hs
    have hld := HP.out _ _ _ _ _ _ _ _ _ hs
    have Q : Hid (SimP A B w (.returned (.tuple #[.int .u64 u0, .int .u64 u1, .int .u64 v0, .int .u64 v1, .bool ev])) (w.drewN k)) := Lib.hid ⟨u0, u1, v0, v1, ev, rfl, ⟨b3, b4, b6, b7, hld⟩, k, rfl⟩
    by_cases c1 : v2 ≤ y
    · have q1 : decide (v2 ≤ y) = true := decide_eq_true c1
      have hypos : 0 < y := Nat.lt_of_lt_of_le hs.v2 c1
      have hbd := (hs.bd (by omega) HBA.out).2.2 hypos
      obtain ⟨d, hd⟩ : ∃ d, d = x - y := ⟨_, rfl⟩
      obtain ⟨f, hf⟩ : ∃ f, f = v1 + v2 := ⟨_, rfl⟩
      have hfl : f < 18446744073709551616 := by omega
      have r1 : (x : Int) - (y : Int) = (d : Int) := by omega
      have r2 : (v1 : Int) + (v2 : Int) = (f : Int) := by omega
      have r1' : IntKind.u64.wrap ((x : Int) - (y : Int)) = (d : Int) := by rw [IntKind.wrap_u64]; omega
      have r2' : IntKind.u64.wrap ((v1 : Int) + (v2 : Int)) = (f : Int) := by rw [IntKind.wrap_u64]; omega
      by_cases c2 : f ≤ d
      · have q2 : decide (f ≤ d) = true := decide_eq_true c2
        obtain ⟨n1, n2, n3, n4, n5, n6, n7⟩ := sim_round hs HBA.out hal c1 (by rw [← hd, ← hf]; exact c2)
        obtain ⟨q, hq⟩ : ∃ q, q = x / y := ⟨_, rfl⟩
        obtain ⟨r, hr⟩ : ∃ r, r = x % y := ⟨_, rfl⟩
        rw [← hq, ← hr] at n1
        rw [← hq] at n3 n4 n5 n6
        rw [← hr] at n7
        obtain ⟨qu, hqu⟩ : ∃ z, z = q * u2 := ⟨_, rfl⟩
        obtain ⟨qv, hqv⟩ : ∃ z, z = q * v2 := ⟨_, rfl⟩
        rw [← hqu, ← hqv] at n1
        rw [← hqu] at n3 n5
        rw [← hqv] at n4 n6
        have z1 : (x : Int) / (y : Int) = (q : Int) := by rw [hq]; push_cast; rfl
        have z2 : (x : Int) % (y : Int) = (r : Int) := by rw [hr]; push_cast; rfl
        have hql : q < 18446744073709551616 := by rw [hq]; exact Nat.lt_of_le_of_lt (Nat.div_le_self _ _) b1
        have z3 : IntKind.u64.wrap ((q : Int) * (u2 : Int)) = (qu : Int) := by rw [wrapU, ← hqu, Nat.mod_eq_of_lt n5]
        have z4 : IntKind.u64.wrap ((q : Int) * (v2 : Int)) = (qv : Int) := by rw [wrapU, ← hqv, Nat.mod_eq_of_lt n6]
        have z5 : IntKind.u64.wrap ((u1 : Int) + (qu : Int)) = ((u1 + qu : Nat) : Int) := by rw [IntKind.wrap_u64]; omega
        have z6 : IntKind.u64.wrap ((v1 : Int) + (qv : Int)) = ((v1 + qv : Nat) : Int) := by rw [IntKind.wrap_u64]; omega
        have hyz : ((y : Int) == 0) = false := by rw [beq_eq_false_iff_ne]; omega
        have hyz' : (y : Int) ≠ 0 := by omega
        have HN1 := Lib.hid n1
        clear hs hld hd hf hq hr hqu hqv n1 hyx hbd c1 c2
        go_wp2_with fail
        go_quiet (fail)
        go_wp2
        go_roundw
        case rel => exact ⟨y, r, u1, u2, u1 + qu, v1, v2, v1 + qv, !ev, by go_num, by go_num, by go_num, by go_num, rfl, by go_num, by go_num, by go_num, by go_num, ⟨HN1.out, b2, by omega, b4, b5, n3, b7, b8, n4⟩, by first | exact ⟨_, rfl⟩ | exact ⟨_, World.drewN_drewN _ _ _⟩⟩
        case measure => simp [intOf]; omega
      · have q2 : decide (f ≤ d) = false := decide_eq_false c2
        clear hs hld hd hf hyx hbd c1 c2
        go_wp2
        refine bodyPost_ret (v := .tuple #[.int .u64 u0, .int .u64 u1, .int .u64 v0, .int .u64 v1, .bool ev]) ?_ rfl Q.out
        simp [results, Tryz.results191, go_sem]
    · have q1 : decide (v2 ≤ y) = false := decide_eq_false c1
      clear hs hld hyx c1
      go_wp2
      refine bodyPost_ret (v := .tuple #[.int .u64 u0, .int .u64 u1, .int .u64 v0, .int .u64 v1, .bool ev]) ?_ rfl Q.out
      simp [results, Tryz.results191, go_sem]
theorem sim_any (pa pb A B : Nat) (va vb : Value) (w : World) (ca : w.cell? ⟨pa, 1, none⟩ = some va) (cb : w.cell? ⟨pb, 1, none⟩ = some vb) (ha : RW w va (wds A)) (hb : RW w vb (wds B)) (hBA : B ≤ A) (hm2 : 2 ≤ nw B) (hn : nw A ≤ 1000000) :
    Calls Tryz.prog 191 #[.pointer (some ⟨pa, 0, none⟩), .pointer (some ⟨pb, 0, none⟩)] w (SimP A B w) := by
  have h := nw_mono hBA
  by_cases h1 : nw A = nw B
  · exact sim_same pa pb A B va vb w ca cb ha hb hBA hm2 hn h1
  · by_cases h2 : nw A = nw B + 1
    · exact sim_one pa pb A B va vb w ca cb ha hb hBA hm2 hn h2
    · exact sim_far pa pb A B va vb w ca cb ha hb hBA hm2 hn (by omega)
end Go.Proofs.YtllhnjpnkmjopaaGreatDoor
