/-
Texts of this proof, joined: GcJ. No condition.
-/
import Derived.Test.YtllhnjpnkmjopaaGreatDoorK29
namespace Go.Proofs.YtllhnjpnkmjopaaGreatDoor
open Go.RowKit

set_option maxRecDepth 100000 in
set_option maxHeartbeats 3200000 in
theorem lehmer_any (z c d oc od N M : Nat) (n1 n2 : Bool) (va vb : Value) (cc dd : Array Value) (tc td : TypeId) (w : World)
    (rz : w.heap[z]? = some (.cells #[.bool false, .slice none 0 0] 110 (0, 0))) (rc : w.heap[c]? = some (.cells cc tc (0, 0))) (rd : w.heap[d]? = some (.cells dd td (0, 0)))
    (hc0 : cc[oc]? = some (.bool n1)) (hc1 : cc[oc + 1]? = some va) (hd0 : dd[od]? = some (.bool n2)) (hd1 : dd[od + 1]? = some vb) (ha : RW w va (wds N)) (hb : RW w vb (wds M))
    (hN0 : 0 < N) (hM0 : 0 < M) (hN : nw N < 40) (hM : nw M < 40) (hT : DivW w) :
    Calls Tryz.prog 162 #[.pointer (some ⟨z, 0, none⟩), .pointer none, .pointer none, .pointer (some ⟨c, oc, none⟩), .pointer (some ⟨d, od, none⟩)] w
      fun e w' => e = .returned (.pointer (some ⟨z, 0, none⟩)) ∧ ∃ rv w1, w' = (w1.setCell ⟨z, 1, none⟩ rv).setCell ⟨z, 0, none⟩ (.bool false) ∧ Own w1 w.heap.size 116 rv (cellsW (wds (Nat.gcd N M))) ∧ Below w.heap.size w w1 := by
  have hg : 4 < w.heap.size := World.block_lt_of_cell? w _ hT
  have hk1 : Below w.heap.size w (w.alloc (.cells #[.bool false, .slice none 0 0] 110)) := fbone _
  have H1 := Lib.hid (intAbs_new w.heap.size c oc N va n1 cc tc (w.alloc (.cells #[.bool false, .slice none 0 0] 110)) (by have := get_lt rc; omega) (heap_alloc_new w _) (heap_alloc_lt rc).1 hc0 hc1 (ha.below hk1) (by omega) w.heap.size (Nat.le_refl _))
  have HE := Lib.hid (And.intro rz (And.intro rd (And.intro hd0 (And.intro hd1 (And.intro hb (And.intro hN0 (And.intro hM0 (And.intro hN (And.intro hM (And.intro hT (And.intro hg hk1)))))))))))
  have HRC := Lib.hid (And.intro rc hc0)
  clear rz rc rd hc0 hc1 hd0 hd1 ha hb hN0 hM0 hN hM hT hg hk1
  go_enter Tryz.func162, Tryz.ntmps162
  go_wp2_with fail
  refine H1.out.mono ?_
  rintro _ w1 ⟨rfl, ⟨r1, x1, x2⟩, x3, x4⟩
  obtain ⟨rz, rd, hd0, hd1, hb, hN0, hM0, hN, hM, hT, hg, hk1⟩ := HE.out
  have hb1 := hk1.trans x3
  have rd1 : w1.heap[d]? = some (.cells dd td (0, 0)) := (hb1.block _ (get_lt rd)).trans rd
  have hk2 : Below w1.heap.size w1 (w1.alloc (.cells #[.bool false, .slice none 0 0] 110)) := fbone _
  have H2 := Lib.hid (intAbs_new w1.heap.size d od M vb n2 dd td (w1.alloc (.cells #[.bool false, .slice none 0 0] 110)) (by have := get_lt rd1; omega) (heap_alloc_new w1 _) (heap_alloc_lt rd1).1 hd0 hd1 ((hb.below hb1).below hk2) (by omega) w.heap.size (Nat.le_trans hb1.size (Nat.le_refl _)))
  have X1 := Lib.hid (And.intro x1 (And.intro hb1 hk2))
  clear rz rd hd0 hd1 hb hN0 hM0 hN hM hT hg hk1 x1 x2 x3 x4 hb1 rd1 hk2
  go_wp2_with fail
  refine H2.out.mono ?_
  rintro _ w2 ⟨rfl, ⟨r2, y1, y2⟩, y3, y4⟩
  obtain ⟨rz, rd, hd0, hd1, hb, hN0, hM0, hN, hM, hT, hg, hk1⟩ := HE.out
  obtain ⟨x1, hb1, hk2⟩ := X1.out
  have hz2 : w2.heap.size = w2.heap.size := rfl
  have hq := Lib.hid (quad_start x1 (fun t ht => (y4 t (by simp; omega) (by omega)).trans (hk2.block t ht)) y1 (fun hc => by have := y2 hc; simp at this; omega) _ rfl)
  have hk3 : Below w2.heap.size w2 ((w2.alloc (.cells #[.bool false, .slice none 0 0] 110)).alloc (.cells #[.bool false, .slice none 0 0] 110)) := (fbone _).alloc (by simp) _
  have hB2 := (hb1.trans (hk2.mono hb1.size)).trans y3
  have HW := Lib.hid (hB2.trans (hk3.mono hB2.size))
  clear rz rd hd0 hd1 hb hN0 hM0 hN hM hT hg hk1 x1 hb1 hk2 y1 y2 y3 y4 hz2 hk3 hB2 X1 H1 H2
  have hlg : ∀ k, Lg w ((((w2.alloc (.cells #[.bool false, .slice none 0 0] 110)).alloc (.cells #[.bool false, .slice none 0 0] 110))).drewN k) w.heap.size (if N < M then w1.heap.size else w.heap.size) (if N < M then w.heap.size else w1.heap.size) w2.heap.size (w2.heap.size + 1) (if N < M then M else N) (if N < M then N else M) (Nat.gcd N M) := fun k => by
    obtain ⟨rz, rd, hd0, hd1, hb, hN0, hM0, hN, hM, hT, hg, hk1⟩ := HE.out
    by_cases hl : N < M
    · simp only [if_pos hl]
      exact ⟨⟨_, _, _, _, _, _, _, _, (hq.out.drewN k).swap⟩, Nat.le_of_lt hl, hM0, hM, Nat.gcd_comm _ _, undrewN' HW.out⟩
    · simp only [if_neg hl]
      exact ⟨⟨_, _, _, _, _, _, _, _, hq.out.drewN k⟩, by omega, hN0, hN, rfl, undrewN' HW.out⟩
  have HLG := Lib.hid hlg
  have HC : Hid (∀ k, Calls Tryz.prog 159 #[r1, r2] ((((w2.alloc (.cells #[.bool false, .slice none 0 0] 110)).alloc (.cells #[.bool false, .slice none 0 0] 110))).drewN k) fun e w' => e = .returned (.int .i64 (cmpN N M)) ∧ ∃ n, w' = ((((w2.alloc (.cells #[.bool false, .slice none 0 0] 110)).alloc (.cells #[.bool false, .slice none 0 0] 110))).drewN k).drewN n) := Lib.hid (fun k => by
    obtain ⟨rz, rd, hd0, hd1, hb, hN0, hM0, hN, hM, hT, hg, hk1⟩ := HE.out
    exact cmp_any r1 r2 N M _ (hq.out.drewN k).ba.ro.rw (hq.out.drewN k).bb.ro.rw (by omega) (by omega))
  have ca : ((w2.alloc (.cells #[.bool false, .slice none 0 0] 110)).alloc (.cells #[.bool false, .slice none 0 0] 110)).cell? ⟨w.heap.size, 1, none⟩ = some r1 := (row_at (i := 1) hq.out.ba.row rfl).1
  have cb : ((w2.alloc (.cells #[.bool false, .slice none 0 0] 110)).alloc (.cells #[.bool false, .slice none 0 0] 110)).cell? ⟨w1.heap.size, 1, none⟩ = some r2 := (row_at (i := 1) hq.out.bb.row rfl).1
  have hr1 := hq.out.ba.own.isS
  have hr2 := hq.out.bb.own.isS
  clear hlg hq HW
  go_wp2_with fail
  (refine wp_region_hoist 8 (by kernel_rfl) (by kernel_rfl) ⟨fun _ _ _ h => (by first | exact (hQp _ _ _ h).elim | cases h.2.1 | (obtain ⟨_, h3, _⟩ := h.2; cases h3)), fun _ _ h => (by first | exact (hQo _ _ h).elim | cases h.1 | (obtain ⟨_, h3, _⟩ := h; cases h3))⟩ ?_; simp only [List.take_succ_cons, List.take_zero, List.drop_succ_cons, List.drop_zero]; (repeat (go_big_quiet_step (fail))); refine wpQuiet_nil ?_; rintro _ ⟨nq, rfl⟩)
  go_wp2_with fail
  refine (HC.out _).mono ?_
  rintro _ _ ⟨rfl, n, rfl⟩
  rw [World.drewN_drewN]
  go_upto_if 60 with fail
  go_cut [11, 12, 13, 14] from 51 to 64 (fun c11 c12 c13 c14 wx => c13 = .pointer none ∧ c14 = .pointer none ∧ ∃ a b X Y, c11 = .pointer (some ⟨a, 0, none⟩) ∧ c12 = .pointer (some ⟨b, 0, none⟩) ∧ Lg w wx w.heap.size a b w2.heap.size (w2.heap.size + 1) X Y (Nat.gcd N M))
  case first =>
    have hl2 := HLG.out
    by_cases hl : N < M
    · have hd : cmpN N M < 0 := by rw [cmpN_lt hl]; decide
      simp only [if_pos hl] at hl2
      have HL := Lib.hid hl2
      clear hl hl2 HC HLG
      go_wp2
      all_goals first | (exfalso; omega) | (go_meet; case rel => exact ⟨rfl, rfl, _, _, _, _, rfl, rfl, HL.out _⟩)
    · have hd : 0 ≤ cmpN N M := (cmpN_ge N M).2 (by omega)
      simp only [if_neg hl] at hl2
      have HL := Lib.hid hl2
      clear hl hl2 HC HLG
      go_wp2
      all_goals first | (exfalso; omega) | (go_meet; case rel => exact ⟨rfl, rfl, _, _, _, _, rfl, rfl, HL.out _⟩)
  clear HC HLG ca cb hr1 hr2
  obtain ⟨rfl, rfl, a0, b0, X0, Y0, rfl, rfl, L0⟩ := hcut
  go_wp2
  go_loopw [11, 12, 13, 14, 17] (fun c11 c12 c13 c14 c17 wr => c13 = .pointer none ∧ c14 = .pointer none ∧ ∃ a b r X Y, c11 = .pointer (some ⟨a, 0, none⟩) ∧ c12 = .pointer (some ⟨b, 0, none⟩) ∧ c17 = .pointer (some ⟨r, 0, none⟩) ∧ Lg w wr w.heap.size a b w2.heap.size r X Y (Nat.gcd N M)) (fun _ c12 _ _ _ wr => boxN wr c12)
  case atStart => exact ⟨rfl, rfl, a0, b0, _, X0, Y0, rfl, rfl, rfl, L0⟩
  case round =>
    obtain ⟨rfl, rfl, a, b, r, X, Y, rfl, rfl, rfl, L⟩ := hrel
    obtain ⟨va', vb', ca', cb', sa', sb', la', lb'⟩ := L.cells
    obtain ⟨lX, hlX⟩ : ∃ l, l = nw X := ⟨_, rfl⟩
    obtain ⟨lY, hlY⟩ : ∃ l, l = nw Y := ⟨_, rfl⟩
    rw [← hlX] at la'
    rw [← hlY] at lb'
    have LH := Lib.hid L
    by_cases h2 : 2 ≤ nw Y
    · have t1 : decide ((1 : Int) < (lY : Int)) = true := decide_eq_true (by omega)
      have HS := Lib.hid (L.sim h2)
      have HY := Lib.hid h2
      clear L h2 hlX hlY
      go_wp2_with fail
      refine HS.out.mono ?_
      rintro _ _ ⟨u0, u1, v0, v1, ev, rfl, hld, k, rfl⟩
      by_cases hv : v0 = 0
      · subst hv
        have HEU : Hid (Calls Tryz.prog 193 #[.pointer (some ⟨a, 0, none⟩), .pointer (some ⟨b, 0, none⟩), .pointer none, .pointer none, .pointer (some ⟨w2.heap.size, 0, none⟩), .pointer (some ⟨r, 0, none⟩), .bool false] (wr.drewN k) fun e w' => e = .returned (.tuple #[.pointer (some ⟨b, 0, none⟩), .pointer (some ⟨r, 0, none⟩), .pointer (some ⟨a, 0, none⟩), .pointer none, .pointer none]) ∧ Lg w w' w.heap.size b r w2.heap.size a Y (X % Y) (Nat.gcd N M)) := Lib.hid (by
          obtain ⟨rz, rd, hd0, hd1, hb, hN0, hM0, hN, hM, hT, hg, hk1⟩ := HE.out
          exact (LH.out.drewN k).euc (nw_two_pos (by have := HY.out; omega)) hT hg)
        clear hld
        go_wp2_with fail
        refine HEU.out.mono ?_
        rintro _ w3 ⟨rfl, L3⟩
        have L3H := Lib.hid L3
        clear L3
        go_wp2
        go_roundw
        case rel => exact ⟨rfl, rfl, _, _, _, _, _, rfl, rfl, rfl, L3H.out⟩
        case measure =>
          have e1 := L3H.out.boxN
          have e2 := LH.out.boxN
          have e3 := Nat.mod_lt X (nw_two_pos (Y := Y) (by have := HY.out; omega))
          simp [e1, e2, e3]
      · have t2 : ((v0 : Int) != 0) = true := by simp; omega
        have t3 : ¬ ((v0 : Int) = 0) := by omega
        have HU : Hid (Calls Tryz.prog 192 #[.pointer (some ⟨a, 0, none⟩), .pointer (some ⟨b, 0, none⟩), .pointer (some ⟨w2.heap.size, 0, none⟩), .pointer (some ⟨r, 0, none⟩), .int .u64 u0, .int .u64 u1, .int .u64 v0, .int .u64 v1, .bool ev] (wr.drewN k)
            fun e w' => e = .returned (.tuple #[]) ∧ ∃ X' Y', Lg w w' w.heap.size a b w2.heap.size r X' Y' (Nat.gcd N M) ∧ Y' < Y) := Lib.hid ((LH.out.drewN k).upd HY.out hv hld)
        clear hld
        go_wp2_with fail
        refine HU.out.mono ?_
        rintro _ w3 ⟨rfl, X', Y', L3, hlt⟩
        have L3H := Lib.hid L3
        clear L3
        go_wp2
        go_roundw
        case rel => exact ⟨rfl, rfl, _, _, _, _, _, rfl, rfl, rfl, L3H.out⟩
        case measure =>
          have e1 := L3H.out.boxN
          have e2 := LH.out.boxN
          simp [e1, e2, hlt]
    · have t1 : decide ((1 : Int) < (lY : Int)) = false := decide_eq_false (by omega)
      have h1 : lY ≤ 1 := by omega
      have HL2 := Lib.hid (And.intro hlX hlY)
      clear h2 L hlX hlY
      go_upto_if 122 with fail
      go_cut [11, 12, 13, 14, 17, 23, 24] from 117 to 212 (fun c11 _ _ _ _ _ _ wx => ∃ a v, c11 = .pointer (some ⟨a, 0, none⟩) ∧ Bx wx w.heap.size a false v (cellsW (wds (Nat.gcd N M))) ∧ Below w.heap.size w wx)
      case first =>
        by_cases h0 : lY = 0
        · have HF : Hid (∃ v, Bx wr w.heap.size a false v (cellsW (wds (Nat.gcd N M))) ∧ Below w.heap.size w wr) := Lib.hid (by
            obtain ⟨hlX, hlY⟩ := HL2.out
            have L := LH.out
            have hY0 : Y = 0 := by
              rcases Nat.eq_zero_or_pos Y with h | h
              · exact h
              · have := nw_pos h; omega
            have hG := L.gcd
            rw [hY0, Nat.gcd_zero_right] at hG
            obtain ⟨mq, mr, va, vb, vq, vr, zq, zr, Q⟩ := L.ex
            rw [← hG]
            exact ⟨va, Q.ba, L.bl⟩)
          clear t1 h1 HL2
          subst h0
          go_wp2
          go_meet
          case rel =>
            obtain ⟨v, f1, f2⟩ := HF.out
            exact ⟨a, v, rfl, f1, f2⟩
        · have t2 : lY = 1 := by omega
          have hnY : nw Y = 1 := by have := HL2.out.2; omega
          have HNY := Lib.hid hnY
          have HNX := Lib.hid HL2.out.1
          have HEU : Hid (Calls Tryz.prog 193 #[.pointer (some ⟨a, 0, none⟩), .pointer (some ⟨b, 0, none⟩), .pointer none, .pointer none, .pointer (some ⟨w2.heap.size, 0, none⟩), .pointer (some ⟨r, 0, none⟩), .bool false] wr fun e w' => e = .returned (.tuple #[.pointer (some ⟨b, 0, none⟩), .pointer (some ⟨r, 0, none⟩), .pointer (some ⟨a, 0, none⟩), .pointer none, .pointer none]) ∧ Lg w w' w.heap.size b r w2.heap.size a Y (X % Y) (Nat.gcd N M)) := Lib.hid (by
            obtain ⟨rz, rd, hd0, hd1, hb, hN0, hM0, hN, hM, hT, hg, hk1⟩ := HE.out
            exact LH.out.euc (nw_two_pos (by omega)) hT hg)
          clear h0 hnY t1 h1 HL2
          subst t2
          go_upto_if 128 with fail
          go_cut [11, 12, 13, 14, 17] from 123 to 142 (fun c11 c12 _ _ _ wx => ∃ a b r X Y, c11 = .pointer (some ⟨a, 0, none⟩) ∧ c12 = .pointer (some ⟨b, 0, none⟩) ∧ Lg w wx w.heap.size a b w2.heap.size r X Y (Nat.gcd N M) ∧ nw X = 1)
          case first =>
            by_cases hx : 1 < lX
            · have t3 : decide ((1 : Int) < (lX : Int)) = true := decide_eq_true (by omega)
              have t4 : decide (1 < lX) = true := decide_eq_true (by omega)
              clear HNX
              go_wp2_with fail
              refine HEU.out.mono ?_
              rintro _ w3 ⟨rfl, L3⟩
              have L3H := Lib.hid L3
              clear L3
              go_wp2
              go_meet
              case rel => exact ⟨_, _, _, _, _, rfl, rfl, L3H.out, HNY.out⟩
              all_goals (exfalso; omega)
            · have HX1 : Hid (nw X = 1) := Lib.hid (by have h1 := nw_pos LH.out.pos; have h2 := HNX.out; omega)
              have hx2 : lX = 1 := by have h1 := HX1.out; have h2 := HNX.out; omega
              clear hx HNX HEU
              subst hx2
              go_wp2
              go_meet
              case rel => exact ⟨_, _, _, _, _, rfl, rfl, LH.out, HX1.out⟩
          obtain ⟨a6, b6, r6, X6, Y6, rfl, rfl, L6, n6⟩ := hcut
          by_cases h6 : Y6 = 0
          · subst h6
            obtain ⟨va6, vb6, ca6, cb6, sa6, sb6, la6, lb6⟩ := L6.cells
            have lb6' : sLen vb6 = 0 := lb6
            have HF := Lib.hid L6.done
            clear L6 n6 lb6 la6 HEU
            go_wp2
            go_meet
            case rel =>
              obtain ⟨v, f1, f2⟩ := HF.out
              exact ⟨a6, v, rfl, f1, f2⟩
          · obtain ⟨va6, vb6, ⟨ca6, cb6, sa6, sb6, la6, lb6, wa6, wb6, fa6⟩, hst⟩ := L6.words n6 (Nat.pos_of_ne_zero h6)
            have HST := Lib.hid hst
            have HL6 := Lib.hid (And.intro L6 (And.intro n6 h6))
            clear L6 n6 h6 hst HEU
            go_upto_region 24 with fail
            go_region
            go_wp2
            have hX0 := HL6.out.1.pos
            have hXl := single_lt HL6.out.2.1
            have hYl : Y6 < 18446744073709551616 := Nat.lt_of_le_of_lt HL6.out.1.le hXl
            have HG := Lib.hid HL6.out.1.gcd
            go_loopw [23, 24] (fun c23 c24 wx => ∃ x y : Nat, c23 = .int .u64 (x : Int) ∧ c24 = .int .u64 (y : Int) ∧ (0 < x ∧ x < 18446744073709551616 ∧ y < 18446744073709551616 ∧ Nat.gcd x y = Nat.gcd N M) ∧ ∃ k, wx = wc.drewN k) (fun _ c24 _ => (intOf c24).toNat)
            case atStart => exact ⟨X6, Y6, rfl, rfl, ⟨hX0, hXl, hYl, HG.out⟩, by first | exact ⟨1, rfl⟩ | exact ⟨_, rfl⟩ | exact ⟨0, rfl⟩⟩
            case round =>
              obtain ⟨x, y, rfl, rfl, ⟨q1, q2, q3, q4⟩, k, rfl⟩ := hrel
              have Q4 := Lib.hid q4
              by_cases hy0 : y = 0
              · subst hy0
                have HFN : Hid (Bx ((wc.drewN k).setCell ⟨sBlk va6, sOff va6, none⟩ (.int .u64 (x : Int))) w.heap.size a6 false va6 (cellsW (wds (Nat.gcd N M))) ∧ Below w.heap.size w ((wc.drewN k).setCell ⟨sBlk va6, sOff va6, none⟩ (.int .u64 (x : Int)))) := Lib.hid (by
                  rw [← q4, Nat.gcd_zero_right]
                  exact HST.out k x q1 q2)
                clear q4 hX0 hXl hYl
                go_wp2
                go_meet
                case rel => exact ⟨a6, va6, rfl, HFN.out⟩
              · obtain ⟨g, hgm⟩ : ∃ g, g = x % y := ⟨_, rfl⟩
                have z2 : (x : Int) % (y : Int) = (g : Int) := by rw [hgm]; push_cast; rfl
                have hyz : ((y : Int) == 0) = false := by rw [beq_eq_false_iff_ne]; omega
                have hyz' : (y : Int) ≠ 0 := by omega
                have hgl : g < y := by rw [hgm]; exact Nat.mod_lt _ (Nat.pos_of_ne_zero hy0)
                have HGC : Hid (Nat.gcd y g = Nat.gcd N M) := Lib.hid (by rw [hgm, ← q4, Nat.gcd_comm y, ← Nat.gcd_rec, Nat.gcd_comm])
                clear q4 hX0 hXl hYl hgm
                go_wp2_with fail
                go_quiet (fail)
                go_wp2
                go_roundw
                case rel => exact ⟨y, g, rfl, by rw [z2], ⟨by omega, q3, by omega, HGC.out⟩, by first | exact ⟨_, rfl⟩ | exact ⟨_, World.drewN_drewN _ _ _⟩⟩
                case measure => simp [intOf, z2]; omega
      obtain ⟨a5, v5, rfl, hbx, hbl5⟩ := hcut
      have HB5 := Lib.hid (And.intro hbx hbl5)
      have cneg : wc.cell? ⟨c, oc, none⟩ = some (.bool n1) := by
        have h1 := (row_at (i := oc) HRC.out.1 HRC.out.2).1
        exact (hbl5.cell (p := ⟨c, oc, none⟩) (World.block_lt_of_cell? w _ h1)).trans h1
      have HSET := Lib.hid (intSet z 0 a5 0 (.bool false) v5 false _ _ _ _ (wds (Nat.gcd N M)) wc (by have := get_lt HE.out.1; have := hbx.le; omega) ((hbl5.block _ (get_lt HE.out.1)).trans HE.out.1) hbx.row rfl rfl rfl rfl hbx.ro.rw (by
        rw [wds_length]
        have h1 := nw_mono (Nat.gcd_le_left M HE.out.2.2.2.2.2.1)
        have h2 := HE.out.2.2.2.2.2.2.2.1
        omega))
      have hle5 := hbl5.size
      clear hbx hbl5 LH HL2 t1 h1
      go_wp2_with fail
      refine HSET.out.mono ?_
      rintro _ _ ⟨rfl, rv, w9, rfl, ho9, hb9⟩
      have HO9 := Lib.hid ho9
      have HB9 := Lib.hid hb9
      clear ho9 hb9
      go_wp2
      go_ret
      exact ⟨rfl, rv, w9, rfl, HO9.out.mono hle5, HB5.out.2.trans (HB9.out.mono hle5)⟩
end Go.Proofs.YtllhnjpnkmjopaaGreatDoor
