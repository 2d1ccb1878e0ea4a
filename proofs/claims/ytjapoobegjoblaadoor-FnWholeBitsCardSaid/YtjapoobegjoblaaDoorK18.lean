/-
Texts of this proof, joined: SrE SrF TzF TzG LwA StE VvA. No condition.
-/
import Derived.Test.YtjapoobegjoblaaDoorK03
import Derived.Test.YtjapoobegjoblaaDoorK06
import Derived.Test.YtjapoobegjoblaaDoorK08
import Derived.Test.YtjapoobegjoblaaDoorK16
import Derived.Test.YtjapoobegjoblaaDoorK17
/-
The reference's IsReal, where it is true; the statements' rounds. No condition.
-/
namespace Go.Proofs.YtjapoobegjoblaaDoor
open Go.RowKit

/-- What is told of a value with a precision and a mode. -/
def Told (w : World) (z : Value) (p m : Nat) (n : Bool) (x : Nat) (e : Int) : Prop :=
  ∃ (f : Nat) (ng : Bool) (v : Value) (E : Int) (zs : List Nat), z = .agg #[.int .u64 p, .int .i64 m, .int .i64 f, .bool ng, v, .int .i64 E] ∧ RW w v zs ∧
    (x = 0 → f = 0 ∧ zs = [] ∧ E = 0) ∧ (x ≠ 0 → f = 1 ∧ ng = n ∧ zs = wds (od x) ∧ E = e + (tz x : Nat))
theorem ks18 {W X : World} {k l : Nat} {a b c d e f a' b' c' : Value} {T T' : TypeId} (hr : W.heap[k]? = some (.cells #[a, b, c, d, e, f] T (0, 0))) (hq : W.heap[l]? = some (.cells #[a', b', c'] T' (0, 0))) (h : Below W.heap.size W X) :
    (X.cell? ⟨k, 0, none⟩ = some a ∧ X.cell? ⟨k, 1, none⟩ = some b ∧ X.cell? ⟨k, 2, none⟩ = some c ∧ X.cell? ⟨k, 3, none⟩ = some d ∧ X.cell? ⟨k, 4, none⟩ = some e ∧ X.cell? ⟨k, 5, none⟩ = some f) ∧
    X.cell? ⟨l, 0, none⟩ = some a' ∧ X.cell? ⟨l, 1, none⟩ = some b' ∧ X.cell? ⟨l, 2, none⟩ = some c' :=
  ⟨(ks12 hr h).2, (row_at (keep_row h hq) rfl).1, (row_at (keep_row h hq) rfl).1, (row_at (keep_row h hq) rfl).1⟩
set_option maxRecDepth 100000 in
set_option maxHeartbeats 1600000 in
theorem spIsReal (z : Value) (p m : Nat) (n : Bool) (a : Value) (x : Nat) (e : Int) (w : World) (hz : Told w z p m n x e) (ha : NatV w a x) (hx : bl x ≤ 10000000) (he1 : -4100000000 ≤ e) (he2 : e ≤ 4100000000) :
    Calls Tryd.prog 64 #[z, .int .u64 p, .int .i64 m, .agg #[.bool n, a, .int .i64 e]] w fun e' w' => e' = .returned (.bool true) ∧ Below w.heap.size w w' := by
  obtain ⟨f, ng, v, E, zs, rfl, hv, h0, h1⟩ := hz
  have hSv := hv.isS
  have hSa := ha.isS
  have hLv := hv.len
  have hLa := ha.len
  have hnl : nl x ≤ 10000000 := nl_bl (by omega)
  have hab := (Below.refl w.heap.size w).alloc (Nat.le_refl _) (.cells #[.int .u64 p, .int .i64 m, .int .i64 f, .bool ng, v, .int .i64 E] 25)
  have hac := hab.alloc hab.size (.cells #[.bool n, a, .int .i64 e] 33)
  obtain ⟨X, hX⟩ : ∃ X, X = (w.alloc (.cells #[.int .u64 p, .int .i64 m, .int .i64 f, .bool ng, v, .int .i64 E] 25)).alloc (.cells #[.bool n, a, .int .i64 e] 33) := ⟨_, rfl⟩
  have hr1 : X.heap[w.heap.size]? = some (.cells #[.int .u64 p, .int .i64 m, .int .i64 f, .bool ng, v, .int .i64 E] 25 (0, 0)) := by
    rw [hX]; exact keep_row (fbone _) (box_row (Below.refl _ _))
  have hr2 : X.heap[w.heap.size + 1]? = some (.cells #[.bool n, a, .int .i64 e] 33 (0, 0)) := by
    rw [hX]
    have := box_row (Below.refl _ ((w.alloc (.cells #[.int .u64 p, .int .i64 m, .int .i64 f, .bool ng, v, .int .i64 E] 25)).alloc (.cells #[.bool n, a, .int .i64 e] 33)))
    simpa using this
  rw [← hX] at hac
  obtain ⟨⟨x0, x1, x2, x3, x4, x5⟩, y0, y1, y2⟩ := ks18 hr1 hr2 (Below.refl _ _)
  have HR1 := Lib.hid hr1
  have HR2 := Lib.hid hr2
  have HV := Lib.hid (hv.below hac)
  have HA := Lib.hid (ha.below hac)
  have HB := Lib.hid hac
  have hXs := hac.size
  clear hr1 hr2 hab hac hv ha
  by_cases hx0 : x = 0
  · obtain ⟨hf, hzs, hE⟩ := h0 hx0
    have hl0 : nl x = 0 := by rw [hx0]; rfl
    rw [hl0] at hLa
    have q1 : ((f : Int) == 0) = true := by rw [hf]; rfl
    have q2 : (E == 0) = true := by rw [hE]; rfl
    rw [hzs] at hLv
    have hLv' : sLen v = 0 := hLv
    clear h0 h1 hx0 hl0 hx hnl hf hzs hE hLv
    go_enter Tryd.func64, Tryd.ntmps64
    go_upto_region 1 with fail
    rw [← hX]
    clear hX
    go_wp2
    go_ret
    exact ⟨rfl, HB.out⟩
  · obtain ⟨hf, rfl, hzs, hE⟩ := h1 hx0
    have q1 : ((f : Int) == 1) = true := by rw [hf]; rfl
    have hxp : 0 < x := by omega
    have hnp := nl_pos hxp
    have t0 : ((nl x : Int) == 0) = false := by rw [beq_eq_false_iff_ne]; omega
    have htl := tz_le hxp
    obtain ⟨t, ht⟩ : ∃ t, t = tz x := ⟨_, rfl⟩
    obtain ⟨L, hL⟩ : ∃ L, L = nl x := ⟨_, rfl⟩
    have HT := Lib.hid ht
    rw [← ht] at hE htl
    have htb : t ≤ 10000000 := by omega
    have hE2 : e + (t : Int) = E := hE.symm
    have HZ := Lib.hid hzs
    rw [← hL] at hLa hnl hnp t0
    have HLN := Lib.hid hL
    have hod : nl (od x) ≤ 100000000 := by
      have : od x ≤ x := by rw [od]; exact Nat.div_le_self _ _
      have := nl_mono this; omega
    have HOW : Hid (nw (od x) ≤ 100000000) := Lib.hid (by rw [nw_bl (od_pos hxp)]; have := bl_od hxp; omega)
    clear h0 h1 hx0 hE ht hL hzs hf
    go_enter Tryd.func64, Tryd.ntmps64
    go_upto_region 1 with fail
    rw [← hX]
    clear hX
    go_wp2_with fail
    refine (spOdd a x X HA.out (by rw [← HLN.out]; omega) hxp).mono ?_
    rintro _ w1 ⟨r1, rfl, hn1, hb1⟩
    rw [← HT.out]
    have hS1 := hn1.isS
    have HN1 := Lib.hid hn1
    have HB1 := Lib.hid (HB.out.trans (hb1.mono hXs))
    have HV1 := Lib.hid (HV.out.below hb1)
    clear x0 x1 x2 x3 x4 x5 y0 y1 y2
    obtain ⟨⟨x0, x1, x2, x3, x4, x5⟩, y0, y1, y2⟩ := ks18 HR1.out HR2.out hb1
    have hKeep := Lib.hid hb1
    clear hn1 hb1
    go_wp2_with fail
    refine (spHasWords v r1 zs (od x) w1 HV1.out HN1.out (by rw [HZ.out, wds_length]; have := HOW.out; omega) (by omega)).mono ?_
    rintro _ w2 ⟨rfl, hb2⟩
    rw [show decide (zs = wds (od x)) = true from decide_eq_true HZ.out]
    have HB2 := Lib.hid (HB1.out.trans (hb2.mono (Nat.le_trans hXs hKeep.out.size)))
    clear x0 x1 x2 x3 x4 x5 y0 y1 y2
    obtain ⟨⟨x0, x1, x2, x3, x4, x5⟩, y0, y1, y2⟩ := ks18 HR1.out HR2.out (bthen hKeep.out hb2)
    clear hb2
    go_wp2
    go_ret
    exact ⟨rfl, HB2.out⟩
end Go.Proofs.YtjapoobegjoblaaDoor

/-
The statements' rounds, where it is true. No condition.
-/
namespace Go.Proofs.YtjapoobegjoblaaDoor
open Go.RowKit

theorem Told.below {w w' : World} {z : Value} {p m x : Nat} {n : Bool} {e : Int} (h : Told w z p m n x e) (hb : Below w.heap.size w w') : Told w' z p m n x e := by
  obtain ⟨f, ng, v, E, zs, h1, h2, h3, h4⟩ := h
  exact ⟨f, ng, v, E, zs, h1, h2.below hb, h3, h4⟩
theorem Told.form {w : World} {z : Value} {p m x : Nat} {n : Bool} {e : Int} (h : Told w z p m n x e) : ∃ (f : Nat) (ng : Bool) (v : Value) (E : Int), z = .agg #[.int .u64 p, .int .i64 m, .int .i64 f, .bool ng, v, .int .i64 E] ∧ IsS v := by
  obtain ⟨f, ng, v, E, zs, h1, h2, -, -⟩ := h
  exact ⟨f, ng, v, E, h1, h2.isS⟩
theorem rk_le (p x : Nat) : rk p x ≤ bl x := by unfold rk; omega
theorem bl_rQ (p m : Nat) (neg : Bool) (s x : Nat) : bl (rQ p m neg s x) ≤ bl x + 1 := by
  refine bl_le ?_
  have h1 := lt_bl x
  have h2 : rQ p m neg s x ≤ x + 1 := by unfold rQ; have := Nat.div_le_self x (2 ^ rk p x); split <;> omega
  rw [Nat.pow_succ]
  have := Nat.two_pow_pos (bl x)
  omega
set_option maxRecDepth 100000 in
set_option maxHeartbeats 1600000 in
theorem rounds_any (z : Value) (acc : Int) (n : Bool) (a : Value) (x : Nat) (e : Int) (p m : Nat) (w : World) (hz : Told w z p m n (rQ p m n 0 x) (e + (rk p x : Nat))) (hacc : acc = rA p m n 0 x) (ha : NatV w a x)
    (hx : bl x ≤ 9000000) (hp : p ≤ 10000000) (hm : m ≤ 5) (he1 : -4000000000 ≤ e) (he2 : e ≤ 4000000000) :
    Calls Tryd.prog 35 #[z, .int .i64 acc, .agg #[.bool n, a, .int .i64 e], .int .u64 p, .int .i64 m] w fun e' w' => e' = .returned (.bool true) ∧ Below w.heap.size w w' := by
  obtain ⟨f, ng, v, E, rfl, hSv⟩ := hz.form
  have hSa := ha.isS
  have hab := (Below.refl w.heap.size w).alloc (Nat.le_refl _) (.cells #[.int .u64 p, .int .i64 m, .int .i64 f, .bool ng, v, .int .i64 E] 25)
  have hac := hab.alloc hab.size (.cells #[.bool n, a, .int .i64 e] 33)
  obtain ⟨X, hX⟩ : ∃ X, X = (w.alloc (.cells #[.int .u64 p, .int .i64 m, .int .i64 f, .bool ng, v, .int .i64 E] 25)).alloc (.cells #[.bool n, a, .int .i64 e] 33) := ⟨_, rfl⟩
  have hr1 : X.heap[w.heap.size]? = some (.cells #[.int .u64 p, .int .i64 m, .int .i64 f, .bool ng, v, .int .i64 E] 25 (0, 0)) := by
    rw [hX]; exact keep_row (fbone _) (box_row (Below.refl _ _))
  have hr2 : X.heap[w.heap.size + 1]? = some (.cells #[.bool n, a, .int .i64 e] 33 (0, 0)) := by
    rw [hX]
    have := box_row (Below.refl _ ((w.alloc (.cells #[.int .u64 p, .int .i64 m, .int .i64 f, .bool ng, v, .int .i64 E] 25)).alloc (.cells #[.bool n, a, .int .i64 e] 33)))
    simpa using this
  rw [← hX] at hac
  obtain ⟨⟨x0, x1, x2, x3, x4, x5⟩, y0, y1, y2⟩ := ks18 hr1 hr2 (Below.refl _ _)
  have HR1 := Lib.hid hr1
  have HZ := Lib.hid (hz.below hac)
  have HA := Lib.hid (ha.below hac)
  have HB := Lib.hid hac
  have hXs := hac.size
  have HACC := Lib.hid hacc
  have hk := rk_le p x
  have hbq := bl_rQ p m n 0 x
  have HBX := Lib.hid hx
  obtain ⟨k, hkk⟩ : ∃ k, k = rk p x := ⟨_, rfl⟩
  rw [← hkk] at hk HZ
  have hkl : k ≤ 9000000 := by omega
  have hqb : bl (rQ p m n 0 x) ≤ 10000000 := by omega
  have HK := Lib.hid hkk
  clear hr1 hr2 hab hac hz ha hacc hk hbq hkk hx
  go_enter Tryd.func35, Tryd.ntmps35
  go_upto_region 1 with fail
  rw [← hX]
  clear hX
  go_wp2_with fail
  refine (spRound n a e x p m X HA.out (by have := HBX.out; omega) (by omega) hm he1 he2).mono ?_
  rintro _ w1 ⟨r, rfl, hn1, hb1⟩
  rw [← HK.out]
  have hS1 := hn1.isS
  have HN1 := Lib.hid hn1
  have HX1 := Lib.hid hb1
  have HB1 := Lib.hid (HB.out.trans (hb1.mono hXs))
  have hXs1 := hb1.size
  clear x0 x1 x2 x3 x4 x5 y0 y1 y2 hn1 hb1
  obtain ⟨A, hA⟩ : ∃ A, A = rA p m n 0 x := ⟨_, rfl⟩
  rw [← hA]
  have q1 : (acc == A) = true := by rw [HACC.out, hA]; exact beq_self_eq_true _
  obtain ⟨F, hF⟩ : ∃ F, F = e + (k : Int) := ⟨_, rfl⟩
  have HF := Lib.hid hF
  rw [← hF]
  have hFb : -4000000000 ≤ F ∧ F ≤ 4009000000 := by omega
  clear hA hF
  obtain ⟨w2, hw2⟩ : ∃ w2, w2 = w1.alloc (.cells #[.bool n, r, .int .i64 F] 33) := ⟨_, rfl⟩
  have hrow2 : w2.heap[w1.heap.size]? = some (.cells #[.bool n, r, .int .i64 F] 33 (0, 0)) := by rw [hw2]; exact box_row (Below.refl _ _)
  have hB2 : Below w1.heap.size w1 w2 := by
    rw [hw2]
    exact (Below.refl w1.heap.size w1).alloc (Nat.le_refl _) _
  have hN2 : NatV w2 r (rQ p m n 0 x) := HN1.out.below hB2
  have HZ2 := Lib.hid ((HZ.out.below HX1.out).below hB2)
  obtain ⟨v0, v1, v2, -, -, -⟩ := row3 hrow2
  obtain ⟨-, x0, x1, x2, x3, x4, x5⟩ := ks12 HR1.out (bthen HX1.out hB2)
  have HN2 := Lib.hid hN2
  have HBB := Lib.hid (HB1.out.trans (hB2.mono (Nat.le_trans hXs hXs1)))
  clear hrow2 hB2 hN2
  go_upto_region 2 with fail
  rw [← hw2]
  clear hw2
  go_wp2_with fail
  refine (spIsReal (.agg #[.int .u64 p, .int .i64 m, .int .i64 f, .bool ng, v, .int .i64 E]) p m n r (rQ p m n 0 x) F w2 (by rw [HF.out]; exact HZ2.out) HN2.out hqb (by omega) (by omega)).mono ?_
  rintro _ w3 ⟨rfl, hb3⟩
  have HB3 := Lib.hid (HBB.out.trans (hb3.mono HBB.out.size))
  clear hb3
  go_wp2
  go_ret
  exact ⟨rfl, HB3.out⟩
end Go.Proofs.YtjapoobegjoblaaDoor

/-
The thin package's both and MinPrec. No condition.
-/
namespace Go.Proofs.YtjapoobegjoblaaDoor
open Go.RowKit

theorem RealV.below {w w' : World} {z : Value} {p m f M : Nat} {neg : Bool} {X : Int} (h : RealV w z p m f neg M X) (hb : Below w.heap.size w w') : RealV w' z p m f neg M X := by
  obtain ⟨v, E, zs, B, h1, h2, hd, h3, h4⟩ := h
  exact ⟨v, E, zs, B, h1, h2.below hb, hd, h3, h4⟩
theorem RealV.told {w : World} {z : Value} {p m M x : Nat} {neg : Bool} {X e : Int} (h : RealV w z p m 1 neg M X) (hM : 0 < M) (hq : deq M X x e) : Told w z p m neg x e := by
  obtain ⟨v, E, zs, B, h1, h2', hd, -, h4⟩ := h
  have h2 := h2'.rw' hd
  obtain ⟨h5, h6⟩ := h4 rfl
  have hx := hq.pos hM
  obtain ⟨k1, k2⟩ := hq.od hM
  exact ⟨1, neg, v, E, zs, h1, h2, fun h => by omega, fun _ => ⟨rfl, rfl, by rw [h5, k1], by rw [h6, k2]⟩⟩
theorem RealV.told0 {w : World} {z : Value} {p m M : Nat} {neg n : Bool} {X e : Int} (h : RealV w z p m 0 neg M X) : Told w z p m n 0 e := by
  obtain ⟨v, E, zs, B, h1, h2', hd, h3, -⟩ := h
  have h2 := h2'.rw' hd
  obtain ⟨h5, h6⟩ := h3 (by decide)
  exact ⟨0, neg, v, E, zs, h1, h2, fun _ => ⟨rfl, h5, h6⟩, fun h => absurd rfl h⟩
theorem FVal.form {w : World} {B b p m f M : Nat} {a : Int} {neg : Bool} {X : Int} (h : FVal w B b p m a f neg M X) : ∃ v e, FltR w b p m a f neg v e := by
  obtain ⟨v, e, h, -⟩ := h; exact ⟨v, e, h⟩
/-- real of a Float's value. -/
theorem implReal (B b p m f : Nat) (a : Int) (neg : Bool) (M : Nat) (X : Int) (w : World) (h : FVal w B b p m a f neg M X) (hf : f ≤ 2) (hp : p ≤ 64000000) (hm : m ≤ 255) (hp0 : f = 1 → 0 < p) (hX : f = 1 → -900000000 ≤ X ∧ X + bl M ≤ 900000000) (hT : TabW w) :
    Calls Tryd.prog 87 #[.pointer (some ⟨b, 0, none⟩)] w fun e' w' => ∃ z, e' = .returned z ∧ RealV w' z p m f neg M X ∧ Below w.heap.size w w' := by
  obtain ⟨v, e, h1, h2⟩ := h
  by_cases h3 : f = 1
  · subst h3
    obtain ⟨hM, ws, ho, hg, hq⟩ := h2 rfl
    have h0 := hq.symm.pos hM
    have hb := hq.bl h0
    rw [hg.bl] at hb
    have := hX rfl
    exact real_one b p m a e neg v ws w h1 ho hg (hp0 rfl) hp hm M X hM hq (by omega) (by omega) hT
  · exact real_other b p m f a e neg v w h1 (by omega) hp hm M X
set_option maxRecDepth 100000 in
set_option maxHeartbeats 1600000 in
theorem implBoth (B b p m f : Nat) (a : Int) (neg : Bool) (M : Nat) (X : Int) (w : World) (h : FVal w B b p m a f neg M X) (hf : f ≤ 2) (hp : p ≤ 64000000) (hm : m ≤ 255) (hp0 : f = 1 → 0 < p) (hX : f = 1 → -900000000 ≤ X ∧ X + bl M ≤ 900000000) (hT : TabW w) (ha : -1 ≤ a ∧ a ≤ 1) :
    Calls Tryd.prog 60 #[.pointer (some ⟨b, 0, none⟩)] w fun e' w' => ∃ z, e' = .returned (.tuple #[z, .int .i64 a]) ∧ RealV w' z p m f neg M X ∧ Below w.heap.size w w' := by
  have hab := (Below.refl w.heap.size w).alloc (Nat.le_refl _) (.cells #[.int .u64 0, .int .i64 0, .int .i64 0, .bool false, .slice none 0 0, .int .i64 0] 25)
  obtain ⟨Y, hY⟩ : ∃ Y, Y = w.alloc (.cells #[.int .u64 0, .int .i64 0, .int .i64 0, .bool false, .slice none 0 0, .int .i64 0] 25) := ⟨_, rfl⟩
  have hr1 : Y.heap[w.heap.size]? = some (.cells #[.int .u64 0, .int .i64 0, .int .i64 0, .bool false, .slice none 0 0, .int .i64 0] 25 (0, 0)) := by rw [hY]; exact box_row (Below.refl _ _)
  rw [← hY] at hab
  have HF := Lib.hid (h.below hab)
  have HR := Lib.hid (implReal B b p m f a neg M X Y (h.below hab) hf hp hm hp0 hX (hT.below hab))
  have HR1 := Lib.hid hr1
  have HAB := Lib.hid hab
  clear h hr1 hT hX hab hp0
  go_enter Tryd.func60, Tryd.ntmps60
  go_upto_region 1 with fail
  rw [← hY]
  clear hY
  go_wp2_with fail
  refine HR.out.mono ?_
  rintro _ w1 ⟨z, rfl, hz, hb1⟩
  obtain ⟨v, e, hv⟩ := (HF.out.below hb1).form
  have HV := Lib.hid hv
  have q1 := keep_row hb1 HR1.out
  have B1 := Lib.hid (HAB.out.trans (hb1.mono HAB.out.size))
  obtain ⟨v', E, zs, Bz, rfl, h2, hd, h3, h4⟩ := hz
  have hSv := h2.isS
  have H2 := Lib.hid h2
  have H34 := Lib.hid (And.intro hd (And.intro h3 h4))
  have HQ1 := Lib.hid q1
  obtain ⟨⟨x0, x1, x2, x3, x4, x5⟩, g0, g1, g2, g3, g4, g5⟩ := row6 q1
  clear hv hb1 q1 h2 h3 h4 hd
  go_wp2_with fail
  refine (fAcc HV.out).mono ?_
  rintro _ _ ⟨rfl, rfl⟩
  go_wp2_with fail
  have HS := row6_set (x := .int .u64 (p : Int)) (y := .int .i64 (m : Int)) (z := .int .i64 (f : Int)) (x' := .bool neg) (y' := v') (z' := .int .i64 E) HQ1.out
  have HB := bset6 (x := .int .u64 (p : Int)) (y := .int .i64 (m : Int)) (z := .int .i64 (f : Int)) (x' := .bool neg) (y' := v') (z' := .int .i64 E) B1.out (Nat.le_refl _)
  obtain ⟨⟨a0, a1, a2, a3, a4, a5⟩, -⟩ := row6 HS
  refine bodyPost_ret (v := .tuple #[.agg #[.int .u64 p, .int .i64 m, .int .i64 f, .bool neg, v', .int .i64 E], .int .i64 a]) ?_ rfl ⟨_, rfl, ⟨_, _, _, Bz, rfl, ?_, H34.out.1, H34.out.2⟩, HB⟩
  · simp [results, Tryd.results60, go_sem, a0, a1, a2, a3, a4, a5]
  · exact H2.out.same fun hc => by
      have hne : sBlk v' ≠ w.heap.size := H2.out.ne_row HQ1.out (by decide) hc
      exact heap6_other hne
end Go.Proofs.YtjapoobegjoblaaDoor

/-
The thin package's MinPrec; the statement on it. No condition.
-/
namespace Go.Proofs.YtjapoobegjoblaaDoor
open Go.RowKit

set_option maxRecDepth 100000 in
theorem minPrec_other (b p m f : Nat) (a e : Int) (neg : Bool) (v : Value) (w : World) (h : FltR w b p m a f neg v e) (hf : f ≠ 1) :
    Calls Tryd.prog 73 #[.pointer (some ⟨b, 0, none⟩)] w fun e' w' => e' = .returned (.int .u64 0) ∧ w = w' := by
  obtain ⟨c0, c1, c2, c3, c4, c5, c6⟩ := h.cells
  have t : ((f : Int) != 1) = true := by rw [bne_iff_ne]; omega
  clear h hf
  go_enter Tryd.func73, Tryd.ntmps73
  go_wp2
  go_ret
  exact ⟨rfl, rfl⟩
def mpV (f M : Nat) : Nat := if f = 1 then bl (od M) else 0
theorem minPrec_val (B b p m f : Nat) (a : Int) (neg : Bool) (M : Nat) (X : Int) (w : World) (h : FVal w B b p m a f neg M X) (hT : TabW w) :
    Calls Tryd.prog 73 #[.pointer (some ⟨b, 0, none⟩)] w fun e' w' => e' = .returned (.int .u64 (mpV f M : Nat)) ∧ Below w.heap.size w w' := by
  obtain ⟨v, e, h1, h2⟩ := h
  by_cases h3 : f = 1
  · subst h3
    obtain ⟨hM, ws, ho, hg, hq⟩ := h2 rfl
    have h0 := hq.symm.pos hM
    refine (minPrec_one b p m a e neg v ws w h1 (ho.rw' hg.2.2.1) h0 hg.2.1 hg.bl hT).mono ?_
    rintro _ w' ⟨rfl, n, rfl⟩
    rw [(hq.od h0).1]
    exact ⟨by rw [mpV, if_pos rfl], undrewN' (Below.refl _ _)⟩
  · refine (minPrec_other b p m f a e neg v w h1 h3).mono ?_
    rintro _ _ ⟨rfl, rfl⟩
    exact ⟨by rw [mpV, if_neg h3]; rfl, Below.refl _ _⟩
/-- impl.float's value. -/
theorem float_val (P E p m f : Nat) (neg : Bool) (v : Value) (e : Int) (ws : List Nat) (w : World) (hv : RW w v ws) (ho : RealOk P E p m f ws e) (hP : P ≤ 64000000) (hE : E ≤ 1000000000) :
    Calls Tryd.prog 47 #[.agg #[.int .u64 p, .int .i64 m, .int .i64 f, .bool neg, v, .int .i64 e]] w fun e' w' => ∃ g, e' = .returned (.pointer (some ⟨g, 0, none⟩)) ∧ (w.heap.size ≤ g ∧ FVal w' w.heap.size g p m 0 f neg (wv ws) e) ∧ Below w.heap.size w w' := by
  refine (float_any P E p m f neg v e ws w hv ho hP hE).mono ?_
  rintro _ w' ⟨g, rfl, hF, hb⟩
  refine ⟨g, rfl, ⟨hF.1, hF.val fun hf => ?_⟩, hb⟩
  subst hf
  obtain ⟨-, -, -, h | h | h⟩ := ho
  · exact absurd h (by decide)
  · exact absurd h (by decide)
  · exact ⟨h.2.1, h.2.2.1, by have := nw_le (wv_lt hv.lt); have := h.2.2.2.1; omega⟩
end Go.Proofs.YtjapoobegjoblaaDoor

/-
Rows of reals in a world, for the statements' walks. No condition.
-/
namespace Go.Proofs.YtjapoobegjoblaaDoor
open Go.RowKit

theorem row_chain11 {w : World} {a : Array Value} {A : TypeId} : (w.alloc (.cells a A)).heap[w.heap.size]? = some (.cells a A (0, 0)) := box_row (Below.refl _ _)
theorem row_chain21 {w : World} {a b : Array Value} {A B : TypeId} : ((w.alloc (.cells a A)).alloc (.cells b B)).heap[w.heap.size]? = some (.cells a A (0, 0)) := keep_row (fbone _) row_chain11
theorem row_chain22 {w : World} {a b : Array Value} {A B : TypeId} : ((w.alloc (.cells a A)).alloc (.cells b B)).heap[w.heap.size + 1]? = some (.cells b B (0, 0)) := by
  have := row_chain11 (w := w.alloc (.cells a A)) (a := b) (A := B)
  simpa using this
theorem row_chain31 {w : World} {a b c : Array Value} {A B C : TypeId} : (((w.alloc (.cells a A)).alloc (.cells b B)).alloc (.cells c C)).heap[w.heap.size]? = some (.cells a A (0, 0)) := keep_row (fbone _) row_chain21
theorem row_chain32 {w : World} {a b c : Array Value} {A B C : TypeId} : (((w.alloc (.cells a A)).alloc (.cells b B)).alloc (.cells c C)).heap[w.heap.size + 1]? = some (.cells b B (0, 0)) := keep_row (fbone _) row_chain22
theorem row_chain33 {w : World} {a b c : Array Value} {A B C : TypeId} : (((w.alloc (.cells a A)).alloc (.cells b B)).alloc (.cells c C)).heap[w.heap.size + 2]? = some (.cells c C (0, 0)) := by
  have := row_chain11 (w := (w.alloc (.cells a A)).alloc (.cells b B)) (a := c) (A := C)
  simpa using this
section
variable {W X : World} {i j k l : Nat} {a b c d e f a' b' c' d' e' f' a'' b'' c'' d'' e'' f'' x y z : Value} {T T' T'' U : TypeId}
theorem ksR1 (hr : W.heap[i]? = some (.cells #[a, b, c, d, e, f] T (0, 0))) (h : Below W.heap.size W X) :
    Below W.heap.size W X ∧ X.cell? ⟨i, 0, none⟩ = some a ∧ X.cell? ⟨i, 1, none⟩ = some b ∧ X.cell? ⟨i, 2, none⟩ = some c ∧ X.cell? ⟨i, 3, none⟩ = some d ∧ X.cell? ⟨i, 4, none⟩ = some e ∧ X.cell? ⟨i, 5, none⟩ = some f := ks12 hr h
theorem ksR2 (hr : W.heap[i]? = some (.cells #[a, b, c, d, e, f] T (0, 0))) (hq : W.heap[j]? = some (.cells #[a', b', c', d', e', f'] T' (0, 0))) (h : Below W.heap.size W X) :
    Below W.heap.size W X ∧ (X.cell? ⟨i, 0, none⟩ = some a ∧ X.cell? ⟨i, 1, none⟩ = some b ∧ X.cell? ⟨i, 2, none⟩ = some c ∧ X.cell? ⟨i, 3, none⟩ = some d ∧ X.cell? ⟨i, 4, none⟩ = some e ∧ X.cell? ⟨i, 5, none⟩ = some f) ∧
    (X.cell? ⟨j, 0, none⟩ = some a' ∧ X.cell? ⟨j, 1, none⟩ = some b' ∧ X.cell? ⟨j, 2, none⟩ = some c' ∧ X.cell? ⟨j, 3, none⟩ = some d' ∧ X.cell? ⟨j, 4, none⟩ = some e' ∧ X.cell? ⟨j, 5, none⟩ = some f') :=
  ⟨h, (ks12 hr h).2, (ks12 hq h).2⟩
theorem ksR3 (hr : W.heap[i]? = some (.cells #[a, b, c, d, e, f] T (0, 0))) (hq : W.heap[j]? = some (.cells #[a', b', c', d', e', f'] T' (0, 0))) (hs : W.heap[k]? = some (.cells #[a'', b'', c'', d'', e'', f''] T'' (0, 0))) (h : Below W.heap.size W X) :
    Below W.heap.size W X ∧ (X.cell? ⟨i, 0, none⟩ = some a ∧ X.cell? ⟨i, 1, none⟩ = some b ∧ X.cell? ⟨i, 2, none⟩ = some c ∧ X.cell? ⟨i, 3, none⟩ = some d ∧ X.cell? ⟨i, 4, none⟩ = some e ∧ X.cell? ⟨i, 5, none⟩ = some f) ∧
    (X.cell? ⟨j, 0, none⟩ = some a' ∧ X.cell? ⟨j, 1, none⟩ = some b' ∧ X.cell? ⟨j, 2, none⟩ = some c' ∧ X.cell? ⟨j, 3, none⟩ = some d' ∧ X.cell? ⟨j, 4, none⟩ = some e' ∧ X.cell? ⟨j, 5, none⟩ = some f') ∧
    (X.cell? ⟨k, 0, none⟩ = some a'' ∧ X.cell? ⟨k, 1, none⟩ = some b'' ∧ X.cell? ⟨k, 2, none⟩ = some c'' ∧ X.cell? ⟨k, 3, none⟩ = some d'' ∧ X.cell? ⟨k, 4, none⟩ = some e'' ∧ X.cell? ⟨k, 5, none⟩ = some f'') :=
  ⟨h, (ks12 hr h).2, (ks12 hq h).2, (ks12 hs h).2⟩
end
end Go.Proofs.YtjapoobegjoblaaDoor

/-
Floats: SetPrec, SetMantExp, MantExp, IsInt by values. No condition.
-/
namespace Go.Proofs.YtjapoobegjoblaaDoor
open Go.RowKit

set_option maxRecDepth 100000 in
theorem round_other (b B p m f : Nat) (a e : Int) (neg : Bool) (v : Value) (W : World) (hW : FltR W b p m a f neg v e) (hB : B ≤ b) (hf : f = 0 ∨ f = 2) :
    Calls Tryd.prog 107 #[.pointer (some ⟨b, 0, none⟩), .int .u64 0] W fun e' w' => e' = .returned (.tuple #[]) ∧ FltR w' b p m 0 f neg v e ∧ Below B W w' := by
  obtain ⟨c0, c1, c2, c3, c4, c5, c6⟩ := hW.cells
  obtain ⟨f0, f1, f2, f3, f4, f5, f6⟩ := hW.free
  have t2 : ((f : Int) != 1) = true := by rw [bne_iff_ne]; omega
  have R := Lib.hid (hW.s2 0)
  have BB := Lib.hid (bset (i := 2) (u := .int .i8 0) (Below.refl B W) hB)
  clear hW hf
  go_enter Tryd.func107, Tryd.ntmps107
  go_wp2
  refine bodyPost_ret (results_none rfl _ _ _) rfl ?_
  exact ⟨rfl, R.out, BB.out⟩
set_option maxRecDepth 100000 in
set_option maxHeartbeats 800000 in
theorem setPrec_val (b B p q m f : Nat) (a : Int) (neg : Bool) (M : Nat) (X : Int) (w : World) (h : FVal w B b p m a f neg M X) (hB : B ≤ b) (hf : f ≤ 2) (_hp0 : 0 < p) (_hp : p ≤ 64000000) (hq0 : 0 < q) (hq : q ≤ 64000000) (hm : m ≤ 5) (hX : f = 1 → -900000000 ≤ X ∧ X + bl M ≤ 900000000) :
    Calls Tryd.prog 88 #[.pointer (some ⟨b, 0, none⟩), .int .u64 q] w fun e' w' => e' = .returned (.pointer (some ⟨b, 0, none⟩)) ∧ FVal w' B b q m (stA f q m neg M) f neg (rQ q m neg 0 M) (X + rk q M) ∧ Below B w w' := by
  obtain ⟨v, e, h1, h2⟩ := h
  obtain ⟨c0, c1, c2, c3, c4, c5, c6⟩ := h1.cells
  obtain ⟨f0, f1, f2, f3, f4, f5, f6⟩ := h1.free
  have R1 := Lib.hid ((h1.s2 0).s0 q)
  have B1 := Lib.hid (bset (i := 0) (u := .int .u32 (q : Int)) (bset (i := 2) (u := .int .i8 0) (Below.refl B w) hB) hB)
  have t1 : ((q : Int) == 0) = false := by rw [beq_eq_false_iff_ne]; omega
  by_cases h3 : f = 1
  · subst h3
    obtain ⟨hM, ws, ho, hg, hd⟩ := h2 rfl
    have h0 := hd.symm.pos hM
    have hb := hd.bl h0
    rw [hg.bl] at hb
    have hx2 := hX rfl
    have he1 : -2147483648 ≤ e := by omega
    have he2 : e < 2147483647 := by omega
    obtain ⟨l1, l2⟩ := rnd_deq (p := q) (m := m) neg h0 hd
    have O1 := Lib.hid ((h1.s2 0).own (h1.own ho 2 (.int .i8 0)) 0 (.int .u32 (q : Int)))
    have HG := Lib.hid hg
    have HM := Lib.hid hM
    have HH : ∀ w', FVal w' B b q m (rA q m neg 0 (wv ws)) 1 neg (rQ q m neg 0 (wv ws)) (e - 64 * (ws.length : Int) + rk q (wv ws)) → FVal w' B b q m (stA 1 q m neg M) 1 neg (rQ q m neg 0 M) (X + rk q M) := fun w' hw => by
      obtain ⟨v', e', k1, k2⟩ := hw
      obtain ⟨n1, ws', n2, n3, n4⟩ := k2 rfl
      refine ⟨v', e', ?_, fun _ => ⟨l1.pos n1, ws', n2, n3, n4.trans l1⟩⟩
      unfold stA; rw [if_pos rfl, ← l2]; exact k1
    have HH := Lib.hid HH
    clear h1 h2 ho hg hd h0 hb hx2 hX l1 l2 hM
    by_cases hqp : q < p
    · have t2 : decide (q < p) = true := decide_eq_true hqp
      clear hqp
      go_enter Tryd.func88, Tryd.ntmps88
      go_wp2_with fail
      have hG := HG.out
      have hr := round_any b B q m 0 0 e neg v ws _ R1.out hB O1.out hG.2.2.1 hG.1 hG.2.2.2.1 hG.2.1 hq0 hq hm (by decide) (.inl rfl) he1 he2
      rw [show ((0 : Nat) : Int) = 0 from rfl] at hr
      refine hr.mono ?_
      rintro _ w8 ⟨rfl, hR⟩
      have F := Lib.hid (HH.out _ (hR.val (rQ_pos neg 0 hq0 (Nat.lt_of_lt_of_le (Nat.two_pow_pos _) hG.2.2.2.1))))
      obtain ⟨_, _, _, -, -, -, -, hb8⟩ := hR
      have HB8 := Lib.hid (B1.out.trans hb8)
      clear hr hG hb8
      go_wp2
      go_ret
      exact ⟨rfl, F.out, HB8.out⟩
    · have t2 : decide (q < p) = false := decide_eq_false hqp
      have F := Lib.hid (HH.out _ (fval_rnd R1.out O1.out (HG.out.wide (by omega)) hq0))
      clear hqp HH
      go_enter Tryd.func88, Tryd.ntmps88
      go_wp2
      go_ret
      exact ⟨rfl, F.out, B1.out⟩
  · have HF : Hid (∀ w', FltR w' b q m 0 f neg v e → FVal w' B b q m (stA f q m neg M) f neg (rQ q m neg 0 M) (X + rk q M)) := Lib.hid (fun w' hw => ⟨v, e, by unfold stA; rw [if_neg h3]; exact hw, fun hc => absurd hc h3⟩)
    have HR := Lib.hid (round_other b B q m f 0 e neg v _ R1.out hB (by omega))
    clear h1 h2 hX
    by_cases hqp : q < p
    · have t2 : decide (q < p) = true := decide_eq_true hqp
      clear hqp h3
      go_enter Tryd.func88, Tryd.ntmps88
      go_wp2_with fail
      refine HR.out.mono ?_
      rintro _ w8 ⟨rfl, hr, hb⟩
      have F := Lib.hid (HF.out _ hr)
      have HB8 := Lib.hid (B1.out.trans hb)
      clear hr hb
      go_wp2
      go_ret
      exact ⟨rfl, F.out, HB8.out⟩
    · have t2 : decide (q < p) = false := decide_eq_false hqp
      have F := Lib.hid (HF.out _ R1.out)
      clear hqp h3 HF HR
      go_enter Tryd.func88, Tryd.ntmps88
      go_wp2
      go_ret
      exact ⟨rfl, F.out, B1.out⟩
/-- What precision 0 leaves. -/
def zpF (f : Nat) : Nat := if f = 1 then 0 else f
set_option maxRecDepth 100000 in
set_option maxHeartbeats 800000 in
theorem setPrec_zero (b B p m f : Nat) (a e : Int) (neg : Bool) (v : Value) (w : World) (h : FltR w b p m a f neg v e) (hB : B ≤ b) (hf : f ≤ 2) :
    Calls Tryd.prog 88 #[.pointer (some ⟨b, 0, none⟩), .int .u64 0] w fun e' w' => e' = .returned (.pointer (some ⟨b, 0, none⟩)) ∧ (∃ a' : Int, (-1 ≤ a' ∧ a' ≤ 1) ∧ FltR w' b 0 m a' (zpF f) neg v e) ∧ Below B w w' := by
  obtain ⟨c0, c1, c2, c3, c4, c5, c6⟩ := h.cells
  obtain ⟨f0, f1, f2, f3, f4, f5, f6⟩ := h.free
  have r1 := (h.s2 0).s0 0
  have R1 := Lib.hid r1
  have B1 := Lib.hid (bset (i := 0) (u := .int .u32 (0 : Int)) (bset (i := 2) (u := .int .i8 0) (Below.refl B w) hB) hB)
  by_cases h3 : f = 1
  · subst h3
    obtain ⟨d0, d1, d2, d3, d4, d5, d6⟩ := r1.cells
    have c3' : w.cell? ⟨b, 3, none⟩ = some (.int .u8 1) := c3
    clear h r1 c3 d3
    go_enter Tryd.func88, Tryd.ntmps88
    go_wp2_with fail
    refine (makeAcc_any neg _).mono ?_
    rintro _ w1 ⟨rfl, hw1⟩
    obtain ⟨ac, hac⟩ : ∃ ac : Int, ac = (if neg then 1 else -1) := ⟨_, rfl⟩
    rw [← hac]
    have hacb : -1 ≤ ac ∧ ac ≤ 1 := by rw [hac]; cases neg <;> decide
    have HA := Lib.hid hacb
    have R2 := R1.out
    have B2 := B1.out
    rw [show ((0 : Nat) : Int) = 0 from rfl] at R2
    have R2' : FltR w1 b 0 m 0 1 neg v e := hw1 ▸ R2
    have B2' : Below B w w1 := hw1 ▸ B2
    obtain ⟨d0, d1, d2, d3, d4, d5, d6⟩ := R2'.cells
    obtain ⟨g0, g1, g2, g3, g4, g5, g6⟩ := R2'.free
    have R3 := Lib.hid ((R2'.s2 ac).s3 0)
    have B3 := Lib.hid (bset (i := 3) (u := .int .u8 (0 : Int)) (bset (i := 2) (u := .int .i8 ac) B2' hB) hB)
    clear hac hacb R1 B1 R2 B2 R2' B2' hw1
    go_wp2
    go_ret
    exact ⟨rfl, ⟨ac, HA.out, R3.out⟩, B3.out⟩
  · have t2 : ((f : Int) == 1) = false := by rw [beq_eq_false_iff_ne]; omega
    have HZ : Hid (zpF f = f) := Lib.hid (by unfold zpF; rw [if_neg h3])
    clear h h3 r1
    go_enter Tryd.func88, Tryd.ntmps88
    go_wp2
    go_ret
    exact ⟨rfl, ⟨0, by omega, by rw [HZ.out]; exact R1.out⟩, B1.out⟩
set_option maxRecDepth 100000 in
set_option maxHeartbeats 800000 in
theorem copyF_other (b B c p0 m0 f0' p m f : Nat) (a0 e0 a e : Int) (n0 neg : Bool) (u v : Value) (w : World) (h : FltR w b p0 m0 a0 f0' n0 u e0) (hB : B ≤ b) (hx : FltR w c p m a f neg v e) (hbc : b ≠ c) (hf : f ≠ 1) :
    Calls Tryd.prog 96 #[.pointer (some ⟨b, 0, none⟩), .pointer (some ⟨c, 0, none⟩)] w fun e' w' => e' = .returned (.pointer (some ⟨b, 0, none⟩)) ∧ FltR w' b p m a f neg u e0 ∧ Below B w w' := by
  obtain ⟨c0, c1, c2, c3, c4, c5, c6⟩ := h.cells
  obtain ⟨f0, f1, f2, f3, f4, f5, f6⟩ := h.free
  obtain ⟨d0, d1, d2, d3, d4, d5, d6⟩ := hx.cells
  have hcmp := neqF w hbc h hx
  have hbc1 : ¬ b = c := hbc
  have hbc2 : ¬ c = b := fun h => hbc h.symm
  have t1 : ((f : Int) == 1) = false := by rw [beq_eq_false_iff_ne]; omega
  have R5 := Lib.hid (((((h.s0 p).s1 m).s2 a).s3 f).s4 neg)
  have B5 := Lib.hid (bset (i := 4) (u := .bool neg) (bset (i := 3) (u := .int .u8 (f : Int)) (bset (i := 2) (u := .int .i8 a) (bset (i := 1) (u := .int .u8 (m : Int)) (bset (i := 0) (u := .int .u32 (p : Int)) (Below.refl B w) hB) hB) hB) hB) hB)
  clear h hx hf
  go_enter Tryd.func96, Tryd.ntmps96
  go_wp2
  go_ret
  exact ⟨rfl, R5.out, B5.out⟩
/-- The accuracy behind SetMantExp. -/
def smA (f : Nat) (a : Int) : Int := if f = 1 then 0 else a
set_option maxRecDepth 100000 in
set_option maxHeartbeats 800000 in
theorem setMantExp_val (b B c Bx p0 m0 f0' p m f : Nat) (a0 e0 a : Int) (n0 neg : Bool) (M : Nat) (X x : Int) (w : World) (h : FltR w b p0 m0 a0 f0' n0 (.slice none 0 0) e0) (hB : B ≤ b) (hx : FVal w Bx c p m a f neg M X) (hbc : b ≠ c) (hf : f ≤ 2)
    (hp0 : f = 1 → 0 < p) (hp : p ≤ 64000000) (hX : f = 1 → -500000000 ≤ X ∧ X + bl M ≤ 500000000) (hx1 : -500000000 ≤ x) (hx2 : x ≤ 500000000) :
    Calls Tryd.prog 67 #[.pointer (some ⟨b, 0, none⟩), .pointer (some ⟨c, 0, none⟩), .int .i64 x] w fun e' w' => e' = .returned (.pointer (some ⟨b, 0, none⟩)) ∧ FVal w' B b p m (smA f a) f neg M (X + x) ∧ Below B w w' := by
  obtain ⟨v, e, h1, h2⟩ := hx
  by_cases h3 : f = 1
  · subst h3
    obtain ⟨hM, ws, ho, hg, hd⟩ := h2 rfl
    have h0 := hd.symm.pos hM
    have hb := hd.bl h0
    rw [hg.bl] at hb
    have hx2 := hX rfl
    refine (setMantExp_exact b B c p0 m0 f0' p m a0 e0 a e x n0 neg v ws w h hB h1 hbc ho hg.2.2.1 hg.2.2.2.2 hg.1 hg.2.1 (hp0 rfl) hp (by omega) (by omega) (by omega) (by omega)).mono ?_
    rintro _ w' ⟨rfl, r, k1, k2, k3⟩
    refine ⟨rfl, ⟨r, e + x, k1, fun _ => ⟨hM, ws, k2, hg, ?_⟩⟩, k3⟩
    have := hd.exp x
    rw [show e + x - 64 * (ws.length : Int) = e - 64 * (ws.length : Int) + x by omega]
    exact this
  · have HC := Lib.hid (copyF_other b B c p0 m0 f0' p m f a0 e0 a e n0 neg _ v w h hB h1 hbc h3)
    have t1 : ((f : Int) == 1) = false := by rw [beq_eq_false_iff_ne]; omega
    have HF : Hid (∀ w', FltR w' b p m a f neg (.slice none 0 0) e0 → FVal w' B b p m (smA f a) f neg M (X + x)) := Lib.hid (fun w' hw => ⟨_, _, by unfold smA; rw [if_neg h3]; exact hw, fun hc => absurd hc h3⟩)
    clear h h1 h2 hX h3 hp0
    go_enter Tryd.func67, Tryd.ntmps67
    go_wp2_with fail
    refine HC.out.mono ?_
    rintro _ w1 ⟨rfl, k1, k2⟩
    obtain ⟨c0, c1, c2, c3, c4, c5, c6⟩ := k1.cells
    have K1 := Lib.hid (HF.out _ k1)
    have K2 := Lib.hid k2
    clear k1 k2
    go_wp2
    go_ret
    exact ⟨rfl, K1.out, K2.out⟩
/-- The exponent that MantExp tells, and what is left. -/
def mxE (f M : Nat) (X : Int) : Int := if f = 1 then X + bl M else 0
set_option maxRecDepth 100000 in
set_option maxHeartbeats 800000 in
theorem mantExp_val (b B c Bx p0 m0 f0' p m f : Nat) (a0 e0 a : Int) (n0 neg : Bool) (M : Nat) (X : Int) (w : World) (h : FltR w b p0 m0 a0 f0' n0 (.slice none 0 0) e0) (hB : B ≤ b) (hx : FVal w Bx c p m a f neg M X) (hbc : b ≠ c) (hf : f ≤ 2)
    (hX : f = 1 → -500000000 ≤ X ∧ X + bl M ≤ 500000000) :
    Calls Tryd.prog 121 #[.pointer (some ⟨c, 0, none⟩), .pointer (some ⟨b, 0, none⟩)] w fun e' w' => e' = .returned (.int .i64 (mxE f M X)) ∧ FVal w' B b p m a f neg M (-(bl M : Int)) ∧ Below B w w' := by
  obtain ⟨v, e, h1, h2⟩ := hx
  by_cases h3 : f = 1
  · subst h3
    obtain ⟨hM, ws, ho, hg, hd⟩ := h2 rfl
    have h0 := hd.symm.pos hM
    have hb := hd.bl h0
    rw [hg.bl] at hb
    have hx2 := hX rfl
    refine (mantExp_one b B c p0 m0 f0' p m a0 e0 a e n0 neg v ws w h hB h1 hbc ho hg.2.2.1 hg.2.1 (by omega) (by omega)).mono ?_
    rintro _ w' ⟨rfl, r, k1, k2, k3⟩
    refine ⟨by rw [mxE, if_pos rfl, show e = X + bl M by omega], ⟨r, 0, k1, fun _ => ⟨hM, ws, k2, hg, ?_⟩⟩, k3⟩
    have := hd.exp (-e)
    rw [show (0 : Int) - 64 * (ws.length : Int) = e - 64 * (ws.length : Int) + -e by omega, show -(bl M : Int) = X + -e by omega]
    exact this
  · have HC := Lib.hid (copyF_other b B c p0 m0 f0' p m f a0 e0 a e n0 neg _ v w h hB h1 hbc h3)
    have t1 : ((f : Int) == 1) = false := by rw [beq_eq_false_iff_ne]; omega
    have HF : Hid (∀ w', FltR w' b p m a f neg (.slice none 0 0) e0 → FVal w' B b p m a f neg M (-(bl M : Int))) := Lib.hid (fun w' hw => ⟨_, _, hw, fun hc => absurd hc h3⟩)
    have HE : Hid (mxE f M X = 0) := Lib.hid (by rw [mxE, if_neg h3])
    obtain ⟨d0, d1, d2, d3, d4, d5, d6⟩ := h1.cells
    clear h h1 h2 hX h3
    go_enter Tryd.func121, Tryd.ntmps121
    go_wp2_with fail
    refine HC.out.mono ?_
    rintro _ w1 ⟨rfl, k1, k2⟩
    obtain ⟨c0, c1, c2, c3, c4, c5, c6⟩ := k1.cells
    have K1 := Lib.hid (HF.out _ k1)
    have K2 := Lib.hid k2
    clear k1 k2
    go_wp2
    go_ret
    rw [HE.out]
    exact ⟨rfl, K1.out, K2.out⟩
/-- Whether a value is an integer. -/
def iiV (f M : Nat) (X : Int) : Bool := if f = 1 then decide (0 ≤ X + (tz M : Nat)) else decide (f = 0)
set_option maxRecDepth 100000 in
set_option maxHeartbeats 800000 in
theorem isInt_val (c Bx p m f : Nat) (a : Int) (neg : Bool) (M : Nat) (X : Int) (w : World) (hx : FVal w Bx c p m a f neg M X) (hf : f ≤ 2) (_hp : p ≤ 64000000)
    (hX : f = 1 → -500000000 ≤ X ∧ X + bl M ≤ 500000000) (hT : TabW w) :
    Calls Tryd.prog 72 #[.pointer (some ⟨c, 0, none⟩)] w fun e' w' => e' = .returned (.bool (iiV f M X)) ∧ Below w.heap.size w w' := by
  obtain ⟨v, e, h1, h2⟩ := hx
  obtain ⟨c0, c1, c2, c3, c4, c5, c6⟩ := h1.cells
  by_cases h3 : f = 1
  · subst h3
    obtain ⟨hM, ws, ho, hg, hd⟩ := h2 rfl
    have h0 := hd.symm.pos hM
    have hb := hd.bl h0
    rw [hg.bl] at hb
    have hx2 := hX rfl
    have hod := hd.od h0
    have hbM := bl_od hM
    have htM := tz_le hM
    obtain ⟨q, hq⟩ : ∃ q, q = bl (od (wv ws)) := ⟨_, rfl⟩
    have hMP : ∀ k, Calls Tryd.prog 73 #[.pointer (some ⟨c, 0, none⟩)] (w.drewN k) fun e' w' => e' = .returned (.int .u64 (q : Nat)) ∧ ∃ n, w' = (w.drewN k).drewN n := fun k => by
      rw [hq]; exact minPrec_one c p m a e neg v ws (w.drewN k) (h1.drewN k) ((ho.drewN k).rw' hg.2.2.1) h0 hg.2.1 hg.bl (hT.drewN k)
    have HMP := Lib.hid hMP
    have hqq : q = bl (od M) := by rw [hq, hod.1]
    have hqb : q ≤ 64000000 := by
      have h5 : bl (od (wv ws)) ≤ bl (wv ws) := by have := bl_od h0; omega
      have h6 := hg.bl
      have h7 := hg.2.1
      omega
    have HI : Hid (iiV 1 M X = decide (0 ≤ X + (tz M : Nat))) := Lib.hid (by rw [iiV, if_pos rfl])
    by_cases e0 : e ≤ 0
    · have t1 : decide (e ≤ 0) = true := decide_eq_true e0
      have HD : Hid (decide (0 ≤ X + (tz M : Nat)) = false) := Lib.hid (decide_eq_false (by omega))
      clear h1 h2 ho hg hd h0 hb hx2 hX hod hM hq hT hMP hqq e0
      go_enter Tryd.func72, Tryd.ntmps72
      go_wp2
      go_ret
      rw [HI.out, HD.out]
      exact ⟨rfl, Below.refl _ _⟩
    · have t1 : decide (e ≤ 0) = false := decide_eq_false e0
      obtain ⟨E, hE⟩ := Int.eq_ofNat_of_zero_le (show 0 ≤ e by omega)
      have hEb : E ≤ 1000000000 := by omega
      have t0 : decide (E = 0) = false := decide_eq_false (by omega)
      by_cases hpE : p ≤ E
      · have t2 : decide (p ≤ E) = true := decide_eq_true hpE
        have HD : Hid (decide (0 ≤ X + (tz M : Nat)) = true) := Lib.hid (decide_eq_true (by
          have h9 : (tz (wv ws) : Int) ≥ 64 * (ws.length : Int) - p := by
            rcases hg.2.2.2.2 with h | ⟨h, h', -⟩
            · omega
            · have := tz_dvd h0 h'; omega
          omega))
        subst hE
        clear h1 h2 ho hg hd h0 hb hx2 hX hod hM hq hT hMP hqq e0 hpE
        go_enter Tryd.func72, Tryd.ntmps72
        go_wp2_with fail
        go_quiet ((go_at_call 73; exact Calls.quiet_of (HMP.out _)))
        go_wp2
        go_ret
        rw [HI.out, HD.out]
        exact ⟨rfl, undrewN' (Below.refl _ _)⟩
      · have t2 : decide (p ≤ E) = false := decide_eq_false hpE
        have HD : Hid (decide (0 ≤ X + (tz M : Nat)) = decide (q ≤ E)) := Lib.hid (by
          rw [decide_eq_decide]; omega)
        subst hE
        clear h1 h2 ho hg hd h0 hb hx2 hX hod hM hq hT hMP hqq e0 hpE
        go_enter Tryd.func72, Tryd.ntmps72
        go_wp2_with fail
        go_quiet ((go_at_call 73; exact Calls.quiet_of (HMP.out _)))
        go_wp2
        go_ret
        rw [HI.out, HD.out]
        exact ⟨rfl, undrewN' (Below.refl _ _)⟩
  · have t1 : ((f : Int) != 1) = true := by rw [bne_iff_ne]; omega
    have t2 : ((f : Int) == 0) = decide (f = 0) := by
      by_cases h : f = 0
      · rw [h]; rfl
      · rw [decide_eq_false h, beq_eq_false_iff_ne]; omega
    obtain ⟨r, hr⟩ : ∃ r, r = decide (f = 0) := ⟨_, rfl⟩
    rw [← hr] at t2
    have HE : Hid (iiV f M X = r) := Lib.hid (by rw [iiV, if_neg h3, hr])
    clear h1 h2 hX h3 hr hT
    go_enter Tryd.func72, Tryd.ntmps72
    go_wp2
    go_ret
    rw [HE.out]
    exact ⟨rfl, Below.refl _ _⟩
end Go.Proofs.YtjapoobegjoblaaDoor

/-
What is written inside a part of a row: frames; clear and copy of a part. No condition.
-/
namespace Go.Proofs.YtjapoobegjoblaaDoor
open Go.RowKit

/-- Of what was there, nothing but the cells from lo on and below hi of block b has turned. -/
structure FrB (b lo hi : Nat) (w w' : World) : Prop where
  only : Only b w w'
  row : ∀ cur e fr, w.heap[b]? = some (.cells cur e fr) → ∃ cur', w'.heap[b]? = some (.cells cur' e fr) ∧ cur'.size = cur.size ∧ ∀ i, i < lo ∨ hi ≤ i → cur'[i]? = cur[i]?
theorem FrB.refl (b lo hi : Nat) (w : World) : FrB b lo hi w w := ⟨Only.refl _ _, fun cur _e _fr h => ⟨cur, h, rfl, fun _ _ => rfl⟩⟩
theorem FrB.trans {b lo hi : Nat} {w1 w2 w3 : World} (h : FrB b lo hi w1 w2) (hz : w1.heap.size ≤ w2.heap.size) (k : FrB b lo hi w2 w3) : FrB b lo hi w1 w3 := by
  refine ⟨h.only.trans hz k.only, fun cur e fr hr => ?_⟩
  obtain ⟨c1, h1, h2, h3⟩ := h.row cur e fr hr
  obtain ⟨c2, k1, k2, k3⟩ := k.row c1 e fr h1
  exact ⟨c2, k1, k2.trans h2, fun i hi => (k3 i hi).trans (h3 i hi)⟩
theorem FrB.mono {b lo hi lo' hi' : Nat} {w w' : World} (h : FrB b lo hi w w') (h1 : lo' ≤ lo) (h2 : hi ≤ hi') : FrB b lo' hi' w w' := by
  refine ⟨h.only, fun cur e fr hr => ?_⟩
  obtain ⟨c1, k1, k2, k3⟩ := h.row cur e fr hr
  exact ⟨c1, k1, k2, fun i hi => k3 i (by omega)⟩
theorem FrB.drewN {b lo hi n : Nat} {w w' : World} (h : FrB b lo hi w w') : FrB b lo hi w (w'.drewN n) := ⟨h.only, h.row⟩
theorem FrB.undrewN {b lo hi n : Nat} {w w' : World} (h : FrB b lo hi (w.drewN n) w') : FrB b lo hi w w' := ⟨h.only, h.row⟩
theorem FrB.set {b lo hi i : Nat} {w w' : World} (h : FrB b lo hi w w') (h1 : lo ≤ i) (h2 : i < hi) (u : Value) : FrB b lo hi w (w'.setCell ⟨b, i, none⟩ u) := by
  refine ⟨fun k hk hne => (heap_setCell_other _ _ _ _ (by simpa using hne)).trans (h.only k hk hne), fun cur e fr hr => ?_⟩
  obtain ⟨c1, k1, k2, k3⟩ := h.row cur e fr hr
  refine ⟨c1.setIfInBounds i u, by simp [World.setCell, Array.getElem?_modify, k1], by simpa using k2, fun j hj => ?_⟩
  rw [Array.getElem?_setIfInBounds, if_neg (by omega)]
  exact k3 j hj
theorem FrB.setRow {b lo hi : Nat} {w : World} {cur cur' : Array Value} {e : TypeId} {fr : Nat × Nat} (hr : w.heap[b]? = some (.cells cur e fr)) (hs : cur'.size = cur.size) (h : ∀ i, i < lo ∨ hi ≤ i → cur'[i]? = cur[i]?) : FrB b lo hi w (w.setRow b cur') := by
  refine ⟨fun k hk hne => setRow_other w _ k _ hne, fun c e' fr' hc => ?_⟩
  rw [hr] at hc
  cases hc
  exact ⟨cur', setRow_heap w _ _ _ _ _ hr, hs, h⟩
/-- A cell outside of the part is as it was. -/
theorem FrB.cell {b lo hi : Nat} {w w' : World} (h : FrB b lo hi w w') {k i : Nat} {u : Value} (hc : w.cell? ⟨k, i, none⟩ = some u) (hn : k = b → i < lo ∨ hi ≤ i) : w'.cell? ⟨k, i, none⟩ = some u := by
  have hlt := World.block_lt_of_cell? w _ hc
  by_cases hk : k = b
  · subst hk
    unfold World.cell? at hc ⊢
    simp only at hc hlt ⊢
    cases hr : w.heap[k]? with
    | none => rw [hr] at hc; simp at hc
    | some o =>
      rw [hr] at hc
      cases o with
      | cells cur e fr =>
        obtain ⟨c1, k1, k2, k3⟩ := h.row cur e fr hr
        rw [k1]
        simp only at hc ⊢
        rw [k3 i (hn rfl)]; exact hc
      | map es cl => simp at hc
      | _ => simp_all
  · exact (World.cell?_of_block (h.only k hlt hk)).trans hc
theorem FrB.rw {b lo hi : Nat} {w w' : World} {v : Value} {ws : List Nat} (h : FrB b lo hi w w') (hv : RW w v ws) (hn : sBlk v = b → sOff v + ws.length ≤ lo ∨ hi ≤ sOff v) : RW w' v ws :=
  ⟨⟨hv.ri.isS, hv.ri.len, fun i hi => h.cell (hv.ri.cell i hi) (fun hb => by have := hn hb; rw [ints_length] at hi; omega)⟩, hv.lt⟩
/-- A part of an owned slice was written anew. -/
theorem Own.patch {w w' : World} {B : Nat} {e : TypeId} {v : Value} {xs ys : List Value} (h : Own w B e v xs) {l n : Nat} (h1 : l ≤ n) (h2 : n ≤ xs.length) (hy : ys.length = n - l)
    (k : Own w' B e (subS v l n) ys) (f : FrB (sBlk v) (sOff v + l) (sOff v + n) w w') : Own w' B e v (xs.take l ++ (ys ++ xs.drop n)) := by
  have hl := h.len
  have hcap := h.isS.le
  refine ⟨h.isS, by simp; omega, h.cap, ?_⟩
  rcases h.row with h0 | ⟨hb, cur, hg, hsz, ht⟩
  · exact .inl h0
  · obtain ⟨c1, g1, g2, g3⟩ := f.row cur e (0, 0) hg
    refine .inr ⟨hb, c1, g1, by omega, ?_⟩
    have hlen : (xs.take l ++ (ys ++ xs.drop n)).length = xs.length := by simp; omega
    rw [hlen]
    apply List.ext_getElem?
    intro i
    rw [List.getElem?_take]
    have hx : ∀ j, j < xs.length → xs[j]? = cur[sOff v + j]? := fun j hj => by
      rw [← ht, List.getElem?_take, if_pos hj, List.getElem?_drop]; simp
    by_cases hi : i < xs.length
    · rw [if_pos hi, List.getElem?_drop]
      have e1 : c1.toList[sOff v + i]? = c1[sOff v + i]? := by simp
      rw [e1]
      by_cases hil : i < l
      · rw [g3 _ (by omega), List.getElem?_append_left (by simp; omega), List.getElem?_take, if_pos hil, hx i hi]
      · rw [List.getElem?_append_right (by simp; omega)]
        have e2 : (xs.take l).length = l := by simp; omega
        rw [e2]
        by_cases hin : i < n
        · rw [List.getElem?_append_left (by omega)]
          obtain ⟨u, hu⟩ : ∃ u, ys[i - l]? = some u := ⟨_, List.getElem?_eq_getElem (by omega)⟩
          have hc := k.cell hu
          rw [subS_blk h.isS, subS_off h.isS (by omega), show sOff v + l + (i - l) = sOff v + i by omega, cell_of_row w' _ _ c1 e (0, 0) g1] at hc
          rw [hu]; exact hc
        · rw [g3 _ (by omega), List.getElem?_append_right (by omega), hy, List.getElem?_drop, show n + (i - l - (n - l)) = i by omega, hx i hi]
    · rw [if_neg hi, List.getElem?_eq_none (by rw [hlen]; omega)]
theorem laid_get {cur cs : List Value} {o i : Nat} (h : o + cs.length ≤ cur.length) (hi : i < o ∨ o + cs.length ≤ i) : (cur.take o ++ (cs ++ cur.drop (o + cs.length)))[i]? = cur[i]? := by
  have e2 : (cur.take o).length = o := by simp; omega
  rcases hi with hi | hi
  · rw [List.getElem?_append_left (by omega), List.getElem?_take, if_pos hi]
  · rw [List.getElem?_append_right (by omega), e2, List.getElem?_append_right (by omega), List.getElem?_drop]
    congr 1; omega
/-- clear of an owned slice. -/
theorem wpList_clear_O {P : Program} {w : World} {ops : Array Oper} {rest : List Oper} {o : Oper} {a : Act} {Q : Exit → Act → World → Prop} (hgd : o.guard = none) (s : Operand) (t : TypeId)
    (ho : o.op = .call { callee := .builtin .clear, args := #[s], argTypes := #[t] }) {e : TypeId} {bytes : Nat} {z : Value} (E : ElemT P t e bytes z) (hz1 : z.oneCell' = true) (v : Value) (hs : a.eval s = v) (B : Nat) (xs : List Value) (hown : Own w B e v xs)
    (h : ∀ w', Own w' B e v (List.replicate xs.length z) → Below B w w' → FrB (sBlk v) (sOff v) (sOff v + xs.length) w w' → wpList P ops Q rest (a.put o.dst (.tuple #[])) w') : wpList P ops Q (o :: rest) a w := by
  have hL := hown.len
  have hC := hown.isS.le
  obtain ⟨i, hi, hz, hsz, hbb, hzc⟩ := E.info
  by_cases h0 : xs.length = 0
  · obtain rfl : xs = [] := List.eq_nil_of_length_eq_zero h0
    obtain ⟨p, n, c, rfl⟩ := hown.isS.form
    have hn : n = 0 := by simpa [sLen] using hL
    subst hn
    refine wpList_plain hgd fun K hK => ?_
    have hrun : (Builtin.clear_ #[t] o.type #[.slice p 0 c]).run P w = .ok (.tuple #[]) w := by
      cases p <;> simp [Builtin.clear_, run_underlying E.ht, Result.andThen]
    unfold Oper.wp
    simp [execOp, ho, resolve, invoke, builtin, hs, hrun, Result.andThen]
    exact hK _ _ (h w hown (Below.refl _ _) (FrB.refl _ _ _ _))
  · rcases hown.row with hr | ⟨hb, cur, hg, hcs, ht⟩
    · omega
    · have hv := hown.isS.out (by omega)
      refine wpList_plain hgd fun K hK => ?_
      have hzl : (Builtin.zeroCells #[z] xs.length).toList = List.replicate xs.length z := by
        apply List.ext_getElem
        · simp [Builtin.zeroCells]
        · intro j h1 h2
          simp [Builtin.zeroCells, Nat.mod_one]
      have hst := run_storeCells_at (P := P) (sBlk v) (sOff v) e (List.replicate xs.length z) 0 cur w hg (by simp; omega) (fun x hx => by rw [List.eq_of_mem_replicate hx]; exact hz1)
      have hrun : (Builtin.clear_ #[t] o.type #[v]).run P w = .ok (.tuple #[]) (w.setRow (sBlk v) (cur.toList.take (sOff v) ++ (List.replicate xs.length z ++ cur.toList.drop (sOff v + xs.length))).toArray) := by
        rw [hv, hL]
        obtain ⟨m, hm⟩ : ∃ m, xs.length = m + 1 := ⟨xs.length - 1, by omega⟩
        rw [hm] at hst hzl ⊢
        simp [Builtin.clear_, run_underlying E.ht, zeroValue, typeInfo, hi, hz, hzc, hzl, Result.andThen]
        have := hst
        simp at this
        rw [this]
      unfold Oper.wp
      simp only [execOp, ho, resolve, invoke, builtin, Sem.run_bind, Sem.run_pure, Result.andThen_ok, List.map_toArray, List.map_cons, List.map_nil, hs, hrun]
      have hsz2 : (cur.toList.take (sOff v) ++ (List.replicate xs.length z ++ cur.toList.drop (sOff v + xs.length))).toArray.size = cur.size := by simp; omega
      refine hK _ _ (h _ ⟨hown.isS, by simpa using hL, hown.cap, .inr ⟨hb, _, setRow_heap w _ _ _ _ _ hg, by rw [hsz2]; exact hcs, ?_⟩⟩ (below_setRow (Below.refl _ _) hb _) (FrB.setRow hg hsz2 fun i hi => ?_))
      · have hlt : (cur.toList.take (sOff v)).length = sOff v := by simp; omega
        simp only [List.length_replicate]
        rw [List.drop_left' hlt, List.take_left' (by simp)]
      · have := laid_get (cur := cur.toList) (cs := List.replicate xs.length z) (o := sOff v) (i := i) (by simp; omega) (by simpa using hi)
        simpa using this
/-- copy onto an owned slice, the part told. -/
theorem wpList_copy_W {P : Program} {w : World} {ops : Array Oper} {rest : List Oper} {o : Oper} {a : Act} {Q : Exit → Act → World → Prop} (hgd : o.guard = none) (d s : Operand) (dT sT : TypeId)
    (ho : o.op = .call { callee := .builtin .copy, args := #[d, s], argTypes := #[dT, sT] }) (elem : TypeId) (hu : P.underlying dT = some (.slice elem)) (hsz : (P.info? elem).map (·.size) = some 1)
    (v vx : Value) (hd : a.eval d = v) (hs : a.eval s = vx) (B : Nat) (xs : List Value) (hown : Own w B elem v xs) (cs : List Value) (hlen : cs.length = xs.length) (hsx : IsS vx) (hlx : sLen vx = cs.length)
    (hsrc : ∀ j u, cs[j]? = some u → w.cell? ⟨sBlk vx, sOff vx + j, none⟩ = some u) (h1 : ∀ v ∈ cs, v.oneCell' = true)
    (h : ∀ w', Own w' B elem v cs → Below B w w' → FrB (sBlk v) (sOff v) (sOff v + xs.length) w w' → (cs.length = 0 → w' = w) → wpList P ops Q rest (a.put o.dst (goInt cs.length)) w') : wpList P ops Q (o :: rest) a w := by
  have hL := hown.len
  have hC := hown.isS.le
  have hCx := hsx.le
  by_cases h0 : cs.length = 0
  · obtain rfl : cs = [] := List.eq_nil_of_length_eq_zero h0
    obtain rfl : xs = [] := List.eq_nil_of_length_eq_zero (by simpa using hlen.symm)
    obtain ⟨p, n, c, rfl⟩ := hown.isS.form
    obtain ⟨p', n', c', rfl⟩ := hsx.form
    have hn : n = 0 := by simpa [sLen] using hL
    subst hn
    exact wpList_copy_nothing hgd d s dT sT ho elem hu hsz p p' 0 c n' c' hd hs (by simp) (h w hown (Below.refl _ _) (FrB.refl _ _ _ _) (fun _ => rfl))
  · rcases hown.row with hr | ⟨hb, cur, hg, hcs, ht⟩
    · omega
    · have hv := hown.isS.out (by omega)
      have hvx := hsx.out (by omega)
      have hsz2 : (cur.toList.take (sOff v) ++ (cs ++ cur.toList.drop (sOff v + cs.length))).toArray.size = cur.size := by simp; omega
      refine wpList_copy_own hgd d s dT sT ho elem hu hsz (sBlk v) (sOff v) (sLen v) (sCap v) ⟨sBlk vx, sOff vx, none⟩ (sLen vx) (sCap vx) (hd.trans hv) (hs.trans hvx) cur elem hg cs (by rw [hlx, hL, hlen]; simp) (fun j u hj => by rw [add_none]; exact hsrc j u hj) (by omega) h1 ?_
      refine h _ ⟨hown.isS, by omega, hown.cap, .inr ⟨hb, _, setRow_heap w _ _ _ _ _ hg, by rw [hsz2]; exact hcs, ?_⟩⟩ (below_setRow (Below.refl _ _) hb _) (FrB.setRow hg hsz2 fun i hi => ?_) (fun hc => absurd hc h0)
      · have hlt : (cur.toList.take (sOff v)).length = sOff v := by simp; omega
        rw [List.drop_left' hlt, List.take_left' rfl]
      · have := laid_get (cur := cur.toList) (cs := cs) (o := sOff v) (i := i) (by simp; omega) (by rw [hlen]; exact hi)
        simpa using this
/-- The words behind i rounds of a loop that writes them in their order: they are Z. -/
def Vv (v : Value) (n B i Z : Nat) (w wr : World) : Prop :=
  ∃ (os : List Value) (ds : List Nat), Own wr B 138 v os ∧ os.length = n ∧ os.take i = cellsW ds ∧ ds.length = i ∧ (∀ d ∈ ds, d < 18446744073709551616) ∧ wv ds = Z ∧ Below B w wr ∧ FrB (sBlk v) (sOff v) (sOff v + i) w wr
theorem Vv.start {v : Value} {B n : Nat} {os : List Value} {w : World} (h : Own w B 138 v os) (hn : os.length = n) : Vv v n B 0 0 w w :=
  ⟨os, [], h, hn, (by simp [cellsW]), rfl, (fun d hd => by cases hd), rfl, Below.refl _ _, FrB.refl _ _ _ _⟩
theorem Vv.put {v : Value} {n B i Z : Nat} {w wr : World} (h : Vv v n B i Z w wr) (hi : i < n) (hc : B ≤ sBlk v) {d : Nat} (hd : d < 18446744073709551616) :
    Vv v n B (i + 1) (Z + 18446744073709551616 ^ i * d) w (wr.setCell ⟨sBlk v, sOff v + i, none⟩ (.int .u64 (d : Int))) := by
  obtain ⟨os, ds, h1, h2, h3, h4, h5, h6, h7, h8⟩ := h
  have ho := h1.set (i := i) (by omega) (.int .u64 (d : Int))
  refine ⟨os.set i (.int .u64 (d : Int)), ds ++ [d], ho, by simpa using h2, ?_, by simp; omega, ?_, ?_, bset h7 hc, (h8.mono (Nat.le_refl _) (by omega)).set (by omega) (by omega) _⟩
  · have e1 : (os.take i).length = i := by simp; omega
    rw [← cellsW_snoc, ← h3, List.take_set, List.take_succ_eq_append_getElem (by omega : i < os.length), List.set_append_right _ _ (by omega), e1]
    simp
  · intro x hx
    rcases List.mem_append.1 hx with h | h
    · exact h5 x h
    · rw [List.mem_singleton] at h; rw [h]; exact hd
  · rw [wv_snoc, h4, h6]
theorem Vv.drewN {v : Value} {n B i Z k : Nat} {w wr : World} (h : Vv v n B i Z w wr) : Vv v n B i Z w (wr.drewN k) := by
  obtain ⟨os, ds, h1, h2, h3, h4, h5, h6, h7, h8⟩ := h
  exact ⟨os, ds, h1.drewN _, h2, h3, h4, h5, h6, undrewN' h7, h8.drewN⟩
/-- All of the words are Z's. -/
def VvP (v : Value) (n B Z : Nat) (w w' : World) : Prop := Own w' B 138 v (cellsW (wdsN Z n)) ∧ Below B w w' ∧ FrB (sBlk v) (sOff v) (sOff v + n) w w'
theorem wdsN_eq {os : List Nat} {n Z : Nat} (hl : os.length = n) (hd : ∀ d ∈ os, d < 18446744073709551616) (h : ∃ c, Z = wv os + 18446744073709551616 ^ n * c) : os = wdsN Z n := by
  obtain ⟨c, rfl⟩ := h
  refine wv_inj hd wdsN_lt (by rw [wdsN_length, hl]) ?_
  rw [wdsN_wv, Nat.add_mul_mod_self_left, Nat.mod_eq_of_lt]
  have := wv_lt hd
  rw [hl] at this; exact this
theorem Vv.done {v : Value} {n B Z : Nat} {w wr : World} (h : Vv v n B n Z w wr) {Y : Nat} (c : Nat) (hY : Y = Z + 18446744073709551616 ^ n * c) : VvP v n B Y w wr := by
  obtain ⟨os, ds, h1, h2, h3, h4, h5, h6, h7, h8⟩ := h
  rw [List.take_of_length_le (by omega)] at h3
  rw [VvP, ← wdsN_eq h4 h5 ⟨c, by rw [h6]; exact hY⟩, ← h3]
  exact ⟨h1, h7, h8⟩
/-- A word of a source that lies elsewhere, or not ahead of what is written. -/
theorem Vv.src {v x : Value} {n B i Z : Nat} {xs : List Nat} {w wr : World} (h : Vv v n B i Z w wr) (hx : RW w x xs) (hal : sBlk x = sBlk v → sOff v ≤ sOff x) {j : Nat} (hij : i ≤ j) (hj : j < xs.length) : wr.cell? ⟨sBlk x, sOff x + j, none⟩ = some (.int .u64 ((xs.getD j 0 : Nat) : Int)) := by
  obtain ⟨os, ds, h1, h2, h3, h4, h5, h6, h7, h8⟩ := h
  exact h8.cell (hx.cell j hj) (fun hb => by have := hal hb; omega)
theorem Vv.frozen {v : Value} {n B i Z : Nat} {w wr : World} (h : Vv v n B i Z w wr) (hc : 0 < sCap v) (k : Nat) : wr.frozen? ⟨sBlk v, k, none⟩ = false := by
  obtain ⟨os, ds, h1, -⟩ := h
  exact h1.frozen hc k
/-- The cell that is to be written. -/
theorem Vv.own {v : Value} {n B i Z : Nat} {w wr : World} (h : Vv v n B i Z w wr) {k : Nat} (hk : k < n) : ∃ u : Value, wr.cell? ⟨sBlk v, sOff v + k, none⟩ = some u := by
  obtain ⟨os, ds, h1, h2, -⟩ := h
  exact ⟨_, h1.cell (List.getElem?_eq_getElem (by omega))⟩
end Go.Proofs.YtjapoobegjoblaaDoor
