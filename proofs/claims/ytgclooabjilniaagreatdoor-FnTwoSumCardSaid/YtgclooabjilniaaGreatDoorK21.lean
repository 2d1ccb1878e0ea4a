/-
Texts of this proof, joined: SrE SrF TzF TzG LwA StE SbA AsA AsE. No condition.
-/
import Derived.Test.YtgclooabjilniaaGreatDoorK03
import Derived.Test.YtgclooabjilniaaGreatDoorK05
import Derived.Test.YtgclooabjilniaaGreatDoorK06
import Derived.Test.YtgclooabjilniaaGreatDoorK18
import Derived.Test.YtgclooabjilniaaGreatDoorK19
import Derived.Test.YtgclooabjilniaaGreatDoorK20
/-
The reference's IsReal, where it is true; the statements' rounds. No condition.
-/
namespace Go.Proofs.YtgclooabjilniaaGreatDoor
open Go.RowKit

/-- What is told of a value with a precision and a mode. -/
def Told (w : World) (z : Value) (p m : Nat) (n : Bool) (x : Nat) (e : Int) : Prop :=
  ∃ (f : Nat) (ng : Bool) (v : Value) (E : Int) (zs : List Nat), z = .agg #[.int .u64 p, .int .i64 m, .int .i64 f, .bool ng, v, .int .i64 E] ∧ RW w v zs ∧
    (x = 0 → f = 0 ∧ zs = [] ∧ E = 0) ∧ (x ≠ 0 → f = 1 ∧ ng = n ∧ zs = wds (od x) ∧ E = e + (tz x : Nat))
theorem ks18 {W X : World} {k l : Nat} {a b c d e f a' b' c' : Value} {T T' : TypeId} (hr : W.heap[k]? = some (.cells #[a, b, c, d, e, f] T (0, 0))) (hq : W.heap[l]? = some (.cells #[a', b', c'] T' (0, 0))) (h : Below W.heap.size W X) :
    (X.cell? ⟨k, 0, none⟩ = some a ∧ X.cell? ⟨k, 1, none⟩ = some b ∧ X.cell? ⟨k, 2, none⟩ = some c ∧ X.cell? ⟨k, 3, none⟩ = some d ∧ X.cell? ⟨k, 4, none⟩ = some e ∧ X.cell? ⟨k, 5, none⟩ = some f) ∧
    X.cell? ⟨l, 0, none⟩ = some a' ∧ X.cell? ⟨l, 1, none⟩ = some b' ∧ X.cell? ⟨l, 2, none⟩ = some c' :=
  ⟨(ks12 hr h).2, (row_at (keep_row h hq) rfl).1, (row_at (keep_row h hq) rfl).1, (row_at (keep_row h hq) rfl).1⟩
set_option maxRecDepth 100000 in
set_option maxHeartbeats 1600000 in
theorem spIsReal (z : Value) (p m : Nat) (n : Bool) (a : Value) (x : Nat) (e : Int) (w : World) (hz : Told w z p m n x e) (ha : NatV w a x) (hx : bl x ≤ 10000000) (he1 : -4100000000 ≤ e) (he2 : e ≤ 4100000000) :
    Calls Tryz.prog 28 #[z, .int .u64 p, .int .i64 m, .agg #[.bool n, a, .int .i64 e]] w fun e' w' => e' = .returned (.bool true) ∧ Below w.heap.size w w' := by
  obtain ⟨f, ng, v, E, zs, rfl, hv, h0, h1⟩ := hz
  have hSv := hv.isS
  have hSa := ha.isS
  have hLv := hv.len
  have hLa := ha.len
  have hnl : nl x ≤ 10000000 := nl_bl (by omega)
  have hab := (Below.refl w.heap.size w).alloc (Nat.le_refl _) (.cells #[.int .u64 p, .int .i64 m, .int .i64 f, .bool ng, v, .int .i64 E] 39)
  have hac := hab.alloc hab.size (.cells #[.bool n, a, .int .i64 e] 28)
  obtain ⟨X, hX⟩ : ∃ X, X = (w.alloc (.cells #[.int .u64 p, .int .i64 m, .int .i64 f, .bool ng, v, .int .i64 E] 39)).alloc (.cells #[.bool n, a, .int .i64 e] 28) := ⟨_, rfl⟩
  have hr1 : X.heap[w.heap.size]? = some (.cells #[.int .u64 p, .int .i64 m, .int .i64 f, .bool ng, v, .int .i64 E] 39 (0, 0)) := by
    rw [hX]; exact keep_row (fbone _) (box_row (Below.refl _ _))
  have hr2 : X.heap[w.heap.size + 1]? = some (.cells #[.bool n, a, .int .i64 e] 28 (0, 0)) := by
    rw [hX]
    have := box_row (Below.refl _ ((w.alloc (.cells #[.int .u64 p, .int .i64 m, .int .i64 f, .bool ng, v, .int .i64 E] 39)).alloc (.cells #[.bool n, a, .int .i64 e] 28)))
    simpa using this
  rw [← hX] at hac
  obtain ⟨⟨x0, x1, x2, x3, x4, x5⟩, y0, y1, y2⟩ := ks18 hr1 hr2 (Below.refl _ _)
  have HR1 := Lib.hid hr1
  have HR2 := Lib.hid hr2
  have HV := Lib.hid (hv.below hac)
  have HA := Lib.hid (ha.below hac)
  have HB := Lib.hid hac
  have hXs := hac.size
  clear hr1 hr2 hab hac hv ha
  by_cases hx0 : x = 0
  · obtain ⟨hf, hzs, hE⟩ := h0 hx0
    have hl0 : nl x = 0 := by rw [hx0]; rfl
    rw [hl0] at hLa
    have q1 : ((f : Int) == 0) = true := by rw [hf]; rfl
    have q2 : (E == 0) = true := by rw [hE]; rfl
    rw [hzs] at hLv
    have hLv' : sLen v = 0 := hLv
    clear h0 h1 hx0 hl0 hx hnl hf hzs hE hLv
    go_enter Tryz.func28, Tryz.ntmps28
    go_upto_region 1 with fail
    rw [← hX]
    clear hX
    go_wp2
    go_ret
    exact ⟨rfl, HB.out⟩
  · obtain ⟨hf, rfl, hzs, hE⟩ := h1 hx0
    have q1 : ((f : Int) == 1) = true := by rw [hf]; rfl
    have hxp : 0 < x := by omega
    have hnp := nl_pos hxp
    have t0 : ((nl x : Int) == 0) = false := by rw [beq_eq_false_iff_ne]; omega
    have htl := tz_le hxp
    obtain ⟨t, ht⟩ : ∃ t, t = tz x := ⟨_, rfl⟩
    obtain ⟨L, hL⟩ : ∃ L, L = nl x := ⟨_, rfl⟩
    have HT := Lib.hid ht
    rw [← ht] at hE htl
    have htb : t ≤ 10000000 := by omega
    have hE2 : e + (t : Int) = E := hE.symm
    have HZ := Lib.hid hzs
    rw [← hL] at hLa hnl hnp t0
    have HLN := Lib.hid hL
    have hod : nl (od x) ≤ 100000000 := by
      have : od x ≤ x := by rw [od]; exact Nat.div_le_self _ _
      have := nl_mono this; omega
    have HOW : Hid (nw (od x) ≤ 100000000) := Lib.hid (by rw [nw_bl (od_pos hxp)]; have := bl_od hxp; omega)
    clear h0 h1 hx0 hE ht hL hzs hf
    go_enter Tryz.func28, Tryz.ntmps28
    go_upto_region 1 with fail
    rw [← hX]
    clear hX
    go_wp2_with fail
    refine (spOdd a x X HA.out (by rw [← HLN.out]; omega) hxp).mono ?_
    rintro _ w1 ⟨r1, rfl, hn1, hb1⟩
    rw [← HT.out]
    have hS1 := hn1.isS
    have HN1 := Lib.hid hn1
    have HB1 := Lib.hid (HB.out.trans (hb1.mono hXs))
    have HV1 := Lib.hid (HV.out.below hb1)
    clear x0 x1 x2 x3 x4 x5 y0 y1 y2
    obtain ⟨⟨x0, x1, x2, x3, x4, x5⟩, y0, y1, y2⟩ := ks18 HR1.out HR2.out hb1
    have hKeep := Lib.hid hb1
    clear hn1 hb1
    go_wp2_with fail
    refine (spHasWords v r1 zs (od x) w1 HV1.out HN1.out (by rw [HZ.out, wds_length]; have := HOW.out; omega) (by omega)).mono ?_
    rintro _ w2 ⟨rfl, hb2⟩
    rw [show decide (zs = wds (od x)) = true from decide_eq_true HZ.out]
    have HB2 := Lib.hid (HB1.out.trans (hb2.mono (Nat.le_trans hXs hKeep.out.size)))
    clear x0 x1 x2 x3 x4 x5 y0 y1 y2
    obtain ⟨⟨x0, x1, x2, x3, x4, x5⟩, y0, y1, y2⟩ := ks18 HR1.out HR2.out (bthen hKeep.out hb2)
    clear hb2
    go_wp2
    go_ret
    exact ⟨rfl, HB2.out⟩
end Go.Proofs.YtgclooabjilniaaGreatDoor

/-
The statements' rounds, where it is true. No condition.
-/
namespace Go.Proofs.YtgclooabjilniaaGreatDoor
open Go.RowKit

theorem Told.below {w w' : World} {z : Value} {p m x : Nat} {n : Bool} {e : Int} (h : Told w z p m n x e) (hb : Below w.heap.size w w') : Told w' z p m n x e := by
  obtain ⟨f, ng, v, E, zs, h1, h2, h3, h4⟩ := h
  exact ⟨f, ng, v, E, zs, h1, h2.below hb, h3, h4⟩
theorem Told.form {w : World} {z : Value} {p m x : Nat} {n : Bool} {e : Int} (h : Told w z p m n x e) : ∃ (f : Nat) (ng : Bool) (v : Value) (E : Int), z = .agg #[.int .u64 p, .int .i64 m, .int .i64 f, .bool ng, v, .int .i64 E] ∧ IsS v := by
  obtain ⟨f, ng, v, E, zs, h1, h2, -, -⟩ := h
  exact ⟨f, ng, v, E, h1, h2.isS⟩
theorem rk_le (p x : Nat) : rk p x ≤ bl x := by unfold rk; omega
theorem bl_rQ (p m : Nat) (neg : Bool) (s x : Nat) : bl (rQ p m neg s x) ≤ bl x + 1 := by
  refine bl_le ?_
  have h1 := lt_bl x
  have h2 : rQ p m neg s x ≤ x + 1 := by unfold rQ; have := Nat.div_le_self x (2 ^ rk p x); split <;> omega
  rw [Nat.pow_succ]
  have := Nat.two_pow_pos (bl x)
  omega
set_option maxRecDepth 100000 in
set_option maxHeartbeats 1600000 in
theorem rounds_any (z : Value) (acc : Int) (n : Bool) (a : Value) (x : Nat) (e : Int) (p m : Nat) (w : World) (hz : Told w z p m n (rQ p m n 0 x) (e + (rk p x : Nat))) (hacc : acc = rA p m n 0 x) (ha : NatV w a x)
    (hx : bl x ≤ 9000000) (hp : p ≤ 10000000) (hm : m ≤ 5) (he1 : -4000000000 ≤ e) (he2 : e ≤ 4000000000) :
    Calls Tryz.prog 22 #[z, .int .i64 acc, .agg #[.bool n, a, .int .i64 e], .int .u64 p, .int .i64 m] w fun e' w' => e' = .returned (.bool true) ∧ Below w.heap.size w w' := by
  obtain ⟨f, ng, v, E, rfl, hSv⟩ := hz.form
  have hSa := ha.isS
  have hab := (Below.refl w.heap.size w).alloc (Nat.le_refl _) (.cells #[.int .u64 p, .int .i64 m, .int .i64 f, .bool ng, v, .int .i64 E] 39)
  have hac := hab.alloc hab.size (.cells #[.bool n, a, .int .i64 e] 28)
  obtain ⟨X, hX⟩ : ∃ X, X = (w.alloc (.cells #[.int .u64 p, .int .i64 m, .int .i64 f, .bool ng, v, .int .i64 E] 39)).alloc (.cells #[.bool n, a, .int .i64 e] 28) := ⟨_, rfl⟩
  have hr1 : X.heap[w.heap.size]? = some (.cells #[.int .u64 p, .int .i64 m, .int .i64 f, .bool ng, v, .int .i64 E] 39 (0, 0)) := by
    rw [hX]; exact keep_row (fbone _) (box_row (Below.refl _ _))
  have hr2 : X.heap[w.heap.size + 1]? = some (.cells #[.bool n, a, .int .i64 e] 28 (0, 0)) := by
    rw [hX]
    have := box_row (Below.refl _ ((w.alloc (.cells #[.int .u64 p, .int .i64 m, .int .i64 f, .bool ng, v, .int .i64 E] 39)).alloc (.cells #[.bool n, a, .int .i64 e] 28)))
    simpa using this
  rw [← hX] at hac
  obtain ⟨⟨x0, x1, x2, x3, x4, x5⟩, y0, y1, y2⟩ := ks18 hr1 hr2 (Below.refl _ _)
  have HR1 := Lib.hid hr1
  have HZ := Lib.hid (hz.below hac)
  have HA := Lib.hid (ha.below hac)
  have HB := Lib.hid hac
  have hXs := hac.size
  have HACC := Lib.hid hacc
  have hk := rk_le p x
  have hbq := bl_rQ p m n 0 x
  have HBX := Lib.hid hx
  obtain ⟨k, hkk⟩ : ∃ k, k = rk p x := ⟨_, rfl⟩
  rw [← hkk] at hk HZ
  have hkl : k ≤ 9000000 := by omega
  have hqb : bl (rQ p m n 0 x) ≤ 10000000 := by omega
  have HK := Lib.hid hkk
  clear hr1 hr2 hab hac hz ha hacc hk hbq hkk hx
  go_enter Tryz.func22, Tryz.ntmps22
  go_upto_region 1 with fail
  rw [← hX]
  clear hX
  go_wp2_with fail
  refine (spRound n a e x p m X HA.out (by have := HBX.out; omega) (by omega) hm he1 he2).mono ?_
  rintro _ w1 ⟨r, rfl, hn1, hb1⟩
  rw [← HK.out]
  have hS1 := hn1.isS
  have HN1 := Lib.hid hn1
  have HX1 := Lib.hid hb1
  have HB1 := Lib.hid (HB.out.trans (hb1.mono hXs))
  have hXs1 := hb1.size
  clear x0 x1 x2 x3 x4 x5 y0 y1 y2 hn1 hb1
  obtain ⟨A, hA⟩ : ∃ A, A = rA p m n 0 x := ⟨_, rfl⟩
  rw [← hA]
  have q1 : (acc == A) = true := by rw [HACC.out, hA]; exact beq_self_eq_true _
  obtain ⟨F, hF⟩ : ∃ F, F = e + (k : Int) := ⟨_, rfl⟩
  have HF := Lib.hid hF
  rw [← hF]
  have hFb : -4000000000 ≤ F ∧ F ≤ 4009000000 := by omega
  clear hA hF
  obtain ⟨w2, hw2⟩ : ∃ w2, w2 = w1.alloc (.cells #[.bool n, r, .int .i64 F] 28) := ⟨_, rfl⟩
  have hrow2 : w2.heap[w1.heap.size]? = some (.cells #[.bool n, r, .int .i64 F] 28 (0, 0)) := by rw [hw2]; exact box_row (Below.refl _ _)
  have hB2 : Below w1.heap.size w1 w2 := by
    rw [hw2]
    exact (Below.refl w1.heap.size w1).alloc (Nat.le_refl _) _
  have hN2 : NatV w2 r (rQ p m n 0 x) := HN1.out.below hB2
  have HZ2 := Lib.hid ((HZ.out.below HX1.out).below hB2)
  obtain ⟨v0, v1, v2, -, -, -⟩ := row3 hrow2
  obtain ⟨-, x0, x1, x2, x3, x4, x5⟩ := ks12 HR1.out (bthen HX1.out hB2)
  have HN2 := Lib.hid hN2
  have HBB := Lib.hid (HB1.out.trans (hB2.mono (Nat.le_trans hXs hXs1)))
  clear hrow2 hB2 hN2
  go_upto_region 2 with fail
  rw [← hw2]
  clear hw2
  go_wp2_with fail
  refine (spIsReal (.agg #[.int .u64 p, .int .i64 m, .int .i64 f, .bool ng, v, .int .i64 E]) p m n r (rQ p m n 0 x) F w2 (by rw [HF.out]; exact HZ2.out) HN2.out hqb (by omega) (by omega)).mono ?_
  rintro _ w3 ⟨rfl, hb3⟩
  have HB3 := Lib.hid (HBB.out.trans (hb3.mono HBB.out.size))
  clear hb3
  go_wp2
  go_ret
  exact ⟨rfl, HB3.out⟩
end Go.Proofs.YtgclooabjilniaaGreatDoor

/-
The thin package's both and MinPrec. No condition.
-/
namespace Go.Proofs.YtgclooabjilniaaGreatDoor
open Go.RowKit

theorem RealV.below {w w' : World} {z : Value} {p m f M : Nat} {neg : Bool} {X : Int} (h : RealV w z p m f neg M X) (hb : Below w.heap.size w w') : RealV w' z p m f neg M X := by
  obtain ⟨v, E, zs, B, h1, h2, hd, h3, h4⟩ := h
  exact ⟨v, E, zs, B, h1, h2.below hb, hd, h3, h4⟩
theorem RealV.told {w : World} {z : Value} {p m M x : Nat} {neg : Bool} {X e : Int} (h : RealV w z p m 1 neg M X) (hM : 0 < M) (hq : deq M X x e) : Told w z p m neg x e := by
  obtain ⟨v, E, zs, B, h1, h2', hd, -, h4⟩ := h
  have h2 := h2'.rw' hd
  obtain ⟨h5, h6⟩ := h4 rfl
  have hx := hq.pos hM
  obtain ⟨k1, k2⟩ := hq.od hM
  exact ⟨1, neg, v, E, zs, h1, h2, fun h => by omega, fun _ => ⟨rfl, rfl, by rw [h5, k1], by rw [h6, k2]⟩⟩
theorem RealV.told0 {w : World} {z : Value} {p m M : Nat} {neg n : Bool} {X e : Int} (h : RealV w z p m 0 neg M X) : Told w z p m n 0 e := by
  obtain ⟨v, E, zs, B, h1, h2', hd, h3, -⟩ := h
  have h2 := h2'.rw' hd
  obtain ⟨h5, h6⟩ := h3 (by decide)
  exact ⟨0, neg, v, E, zs, h1, h2, fun _ => ⟨rfl, h5, h6⟩, fun h => absurd rfl h⟩
theorem FVal.form {w : World} {B b p m f M : Nat} {a : Int} {neg : Bool} {X : Int} (h : FVal w B b p m a f neg M X) : ∃ v e, FltR w b p m a f neg v e := by
  obtain ⟨v, e, h, -⟩ := h; exact ⟨v, e, h⟩
/-- real of a Float's value. -/
theorem implReal (B b p m f : Nat) (a : Int) (neg : Bool) (M : Nat) (X : Int) (w : World) (h : FVal w B b p m a f neg M X) (hf : f ≤ 2) (hp : p ≤ 64000000) (hm : m ≤ 255) (hp0 : f = 1 → 0 < p) (hX : f = 1 → -900000000 ≤ X ∧ X + bl M ≤ 900000000) (hT : TabW w) :
    Calls Tryz.prog 73 #[.pointer (some ⟨b, 0, none⟩)] w fun e' w' => ∃ z, e' = .returned z ∧ RealV w' z p m f neg M X ∧ Below w.heap.size w w' := by
  obtain ⟨v, e, h1, h2⟩ := h
  by_cases h3 : f = 1
  · subst h3
    obtain ⟨hM, ws, ho, hg, hq⟩ := h2 rfl
    have h0 := hq.symm.pos hM
    have hb := hq.bl h0
    rw [hg.bl] at hb
    have := hX rfl
    exact real_one b p m a e neg v ws w h1 ho hg (hp0 rfl) hp hm M X hM hq (by omega) (by omega) hT
  · exact real_other b p m f a e neg v w h1 (by omega) hp hm M X
set_option maxRecDepth 100000 in
set_option maxHeartbeats 1600000 in
theorem implBoth (B b p m f : Nat) (a : Int) (neg : Bool) (M : Nat) (X : Int) (w : World) (h : FVal w B b p m a f neg M X) (hf : f ≤ 2) (hp : p ≤ 64000000) (hm : m ≤ 255) (hp0 : f = 1 → 0 < p) (hX : f = 1 → -900000000 ≤ X ∧ X + bl M ≤ 900000000) (hT : TabW w) (ha : -1 ≤ a ∧ a ≤ 1) :
    Calls Tryz.prog 47 #[.pointer (some ⟨b, 0, none⟩)] w fun e' w' => ∃ z, e' = .returned (.tuple #[z, .int .i64 a]) ∧ RealV w' z p m f neg M X ∧ Below w.heap.size w w' := by
  have hab := (Below.refl w.heap.size w).alloc (Nat.le_refl _) (.cells #[.int .u64 0, .int .i64 0, .int .i64 0, .bool false, .slice none 0 0, .int .i64 0] 39)
  obtain ⟨Y, hY⟩ : ∃ Y, Y = w.alloc (.cells #[.int .u64 0, .int .i64 0, .int .i64 0, .bool false, .slice none 0 0, .int .i64 0] 39) := ⟨_, rfl⟩
  have hr1 : Y.heap[w.heap.size]? = some (.cells #[.int .u64 0, .int .i64 0, .int .i64 0, .bool false, .slice none 0 0, .int .i64 0] 39 (0, 0)) := by rw [hY]; exact box_row (Below.refl _ _)
  rw [← hY] at hab
  have HF := Lib.hid (h.below hab)
  have HR := Lib.hid (implReal B b p m f a neg M X Y (h.below hab) hf hp hm hp0 hX (hT.below hab))
  have HR1 := Lib.hid hr1
  have HAB := Lib.hid hab
  clear h hr1 hT hX hab hp0
  go_enter Tryz.func47, Tryz.ntmps47
  go_upto_region 1 with fail
  rw [← hY]
  clear hY
  go_wp2_with fail
  refine HR.out.mono ?_
  rintro _ w1 ⟨z, rfl, hz, hb1⟩
  obtain ⟨v, e, hv⟩ := (HF.out.below hb1).form
  have HV := Lib.hid hv
  have q1 := keep_row hb1 HR1.out
  have B1 := Lib.hid (HAB.out.trans (hb1.mono HAB.out.size))
  obtain ⟨v', E, zs, Bz, rfl, h2, hd, h3, h4⟩ := hz
  have hSv := h2.isS
  have H2 := Lib.hid h2
  have H34 := Lib.hid (And.intro hd (And.intro h3 h4))
  have HQ1 := Lib.hid q1
  obtain ⟨⟨x0, x1, x2, x3, x4, x5⟩, g0, g1, g2, g3, g4, g5⟩ := row6 q1
  clear hv hb1 q1 h2 h3 h4 hd
  go_wp2_with fail
  refine (fAcc HV.out).mono ?_
  rintro _ _ ⟨rfl, rfl⟩
  go_wp2_with fail
  have HS := row6_set (x := .int .u64 (p : Int)) (y := .int .i64 (m : Int)) (z := .int .i64 (f : Int)) (x' := .bool neg) (y' := v') (z' := .int .i64 E) HQ1.out
  have HB := bset6 (x := .int .u64 (p : Int)) (y := .int .i64 (m : Int)) (z := .int .i64 (f : Int)) (x' := .bool neg) (y' := v') (z' := .int .i64 E) B1.out (Nat.le_refl _)
  obtain ⟨⟨a0, a1, a2, a3, a4, a5⟩, -⟩ := row6 HS
  refine bodyPost_ret (v := .tuple #[.agg #[.int .u64 p, .int .i64 m, .int .i64 f, .bool neg, v', .int .i64 E], .int .i64 a]) ?_ rfl ⟨_, rfl, ⟨_, _, _, Bz, rfl, ?_, H34.out.1, H34.out.2⟩, HB⟩
  · simp [results, Tryz.results47, go_sem, a0, a1, a2, a3, a4, a5]
  · exact H2.out.same fun hc => by
      have hne : sBlk v' ≠ w.heap.size := H2.out.ne_row HQ1.out (by decide) hc
      exact heap6_other hne
end Go.Proofs.YtgclooabjilniaaGreatDoor

/-
The thin package's MinPrec; the statement on it. No condition.
-/
namespace Go.Proofs.YtgclooabjilniaaGreatDoor
open Go.RowKit

set_option maxRecDepth 100000 in
theorem minPrec_other (b p m f : Nat) (a e : Int) (neg : Bool) (v : Value) (w : World) (h : FltR w b p m a f neg v e) (hf : f ≠ 1) :
    Calls Tryz.prog 68 #[.pointer (some ⟨b, 0, none⟩)] w fun e' w' => e' = .returned (.int .u64 0) ∧ w = w' := by
  obtain ⟨c0, c1, c2, c3, c4, c5, c6⟩ := h.cells
  have t : ((f : Int) != 1) = true := by rw [bne_iff_ne]; omega
  clear h hf
  go_enter Tryz.func68, Tryz.ntmps68
  go_wp2
  go_ret
  exact ⟨rfl, rfl⟩
def mpV (f M : Nat) : Nat := if f = 1 then bl (od M) else 0
theorem minPrec_val (B b p m f : Nat) (a : Int) (neg : Bool) (M : Nat) (X : Int) (w : World) (h : FVal w B b p m a f neg M X) (hT : TabW w) :
    Calls Tryz.prog 68 #[.pointer (some ⟨b, 0, none⟩)] w fun e' w' => e' = .returned (.int .u64 (mpV f M : Nat)) ∧ Below w.heap.size w w' := by
  obtain ⟨v, e, h1, h2⟩ := h
  by_cases h3 : f = 1
  · subst h3
    obtain ⟨hM, ws, ho, hg, hq⟩ := h2 rfl
    have h0 := hq.symm.pos hM
    refine (minPrec_one b p m a e neg v ws w h1 (ho.rw' hg.2.2.1) h0 hg.2.1 hg.bl hT).mono ?_
    rintro _ w' ⟨rfl, n, rfl⟩
    rw [(hq.od h0).1]
    exact ⟨by rw [mpV, if_pos rfl], undrewN' (Below.refl _ _)⟩
  · refine (minPrec_other b p m f a e neg v w h1 h3).mono ?_
    rintro _ _ ⟨rfl, rfl⟩
    exact ⟨by rw [mpV, if_neg h3]; rfl, Below.refl _ _⟩
/-- impl.float's value. -/
theorem float_val (P E p m f : Nat) (neg : Bool) (v : Value) (e : Int) (ws : List Nat) (w : World) (hv : RW w v ws) (ho : RealOk P E p m f ws e) (hP : P ≤ 64000000) (hE : E ≤ 1000000000) :
    Calls Tryz.prog 48 #[.agg #[.int .u64 p, .int .i64 m, .int .i64 f, .bool neg, v, .int .i64 e]] w fun e' w' => ∃ g, e' = .returned (.pointer (some ⟨g, 0, none⟩)) ∧ (w.heap.size ≤ g ∧ FVal w' w.heap.size g p m 0 f neg (wv ws) e) ∧ Below w.heap.size w w' := by
  refine (float_any P E p m f neg v e ws w hv ho hP hE).mono ?_
  rintro _ w' ⟨g, rfl, hF, hb⟩
  refine ⟨g, rfl, ⟨hF.1, hF.val fun hf => ?_⟩, hb⟩
  subst hf
  obtain ⟨-, -, -, h | h | h⟩ := ho
  · exact absurd h (by decide)
  · exact absurd h (by decide)
  · exact ⟨h.2.1, h.2.2.1, by have := nw_le (wv_lt hv.lt); have := h.2.2.2.1; omega⟩
end Go.Proofs.YtgclooabjilniaaGreatDoor

/-
Rows of reals in a world, for the statements' walks. No condition.
-/
namespace Go.Proofs.YtgclooabjilniaaGreatDoor
open Go.RowKit

theorem row_chain11 {w : World} {a : Array Value} {A : TypeId} : (w.alloc (.cells a A)).heap[w.heap.size]? = some (.cells a A (0, 0)) := box_row (Below.refl _ _)
theorem row_chain21 {w : World} {a b : Array Value} {A B : TypeId} : ((w.alloc (.cells a A)).alloc (.cells b B)).heap[w.heap.size]? = some (.cells a A (0, 0)) := keep_row (fbone _) row_chain11
theorem row_chain22 {w : World} {a b : Array Value} {A B : TypeId} : ((w.alloc (.cells a A)).alloc (.cells b B)).heap[w.heap.size + 1]? = some (.cells b B (0, 0)) := by
  have := row_chain11 (w := w.alloc (.cells a A)) (a := b) (A := B)
  simpa using this
theorem row_chain31 {w : World} {a b c : Array Value} {A B C : TypeId} : (((w.alloc (.cells a A)).alloc (.cells b B)).alloc (.cells c C)).heap[w.heap.size]? = some (.cells a A (0, 0)) := keep_row (fbone _) row_chain21
theorem row_chain32 {w : World} {a b c : Array Value} {A B C : TypeId} : (((w.alloc (.cells a A)).alloc (.cells b B)).alloc (.cells c C)).heap[w.heap.size + 1]? = some (.cells b B (0, 0)) := keep_row (fbone _) row_chain22
theorem row_chain33 {w : World} {a b c : Array Value} {A B C : TypeId} : (((w.alloc (.cells a A)).alloc (.cells b B)).alloc (.cells c C)).heap[w.heap.size + 2]? = some (.cells c C (0, 0)) := by
  have := row_chain11 (w := (w.alloc (.cells a A)).alloc (.cells b B)) (a := c) (A := C)
  simpa using this
section
variable {W X : World} {i j k l : Nat} {a b c d e f a' b' c' d' e' f' a'' b'' c'' d'' e'' f'' x y z : Value} {T T' T'' U : TypeId}
theorem ksR1 (hr : W.heap[i]? = some (.cells #[a, b, c, d, e, f] T (0, 0))) (h : Below W.heap.size W X) :
    Below W.heap.size W X ∧ X.cell? ⟨i, 0, none⟩ = some a ∧ X.cell? ⟨i, 1, none⟩ = some b ∧ X.cell? ⟨i, 2, none⟩ = some c ∧ X.cell? ⟨i, 3, none⟩ = some d ∧ X.cell? ⟨i, 4, none⟩ = some e ∧ X.cell? ⟨i, 5, none⟩ = some f := ks12 hr h
theorem ksR2 (hr : W.heap[i]? = some (.cells #[a, b, c, d, e, f] T (0, 0))) (hq : W.heap[j]? = some (.cells #[a', b', c', d', e', f'] T' (0, 0))) (h : Below W.heap.size W X) :
    Below W.heap.size W X ∧ (X.cell? ⟨i, 0, none⟩ = some a ∧ X.cell? ⟨i, 1, none⟩ = some b ∧ X.cell? ⟨i, 2, none⟩ = some c ∧ X.cell? ⟨i, 3, none⟩ = some d ∧ X.cell? ⟨i, 4, none⟩ = some e ∧ X.cell? ⟨i, 5, none⟩ = some f) ∧
    (X.cell? ⟨j, 0, none⟩ = some a' ∧ X.cell? ⟨j, 1, none⟩ = some b' ∧ X.cell? ⟨j, 2, none⟩ = some c' ∧ X.cell? ⟨j, 3, none⟩ = some d' ∧ X.cell? ⟨j, 4, none⟩ = some e' ∧ X.cell? ⟨j, 5, none⟩ = some f') :=
  ⟨h, (ks12 hr h).2, (ks12 hq h).2⟩
theorem ksR3 (hr : W.heap[i]? = some (.cells #[a, b, c, d, e, f] T (0, 0))) (hq : W.heap[j]? = some (.cells #[a', b', c', d', e', f'] T' (0, 0))) (hs : W.heap[k]? = some (.cells #[a'', b'', c'', d'', e'', f''] T'' (0, 0))) (h : Below W.heap.size W X) :
    Below W.heap.size W X ∧ (X.cell? ⟨i, 0, none⟩ = some a ∧ X.cell? ⟨i, 1, none⟩ = some b ∧ X.cell? ⟨i, 2, none⟩ = some c ∧ X.cell? ⟨i, 3, none⟩ = some d ∧ X.cell? ⟨i, 4, none⟩ = some e ∧ X.cell? ⟨i, 5, none⟩ = some f) ∧
    (X.cell? ⟨j, 0, none⟩ = some a' ∧ X.cell? ⟨j, 1, none⟩ = some b' ∧ X.cell? ⟨j, 2, none⟩ = some c' ∧ X.cell? ⟨j, 3, none⟩ = some d' ∧ X.cell? ⟨j, 4, none⟩ = some e' ∧ X.cell? ⟨j, 5, none⟩ = some f') ∧
    (X.cell? ⟨k, 0, none⟩ = some a'' ∧ X.cell? ⟨k, 1, none⟩ = some b'' ∧ X.cell? ⟨k, 2, none⟩ = some c'' ∧ X.cell? ⟨k, 3, none⟩ = some d'' ∧ X.cell? ⟨k, 4, none⟩ = some e'' ∧ X.cell? ⟨k, 5, none⟩ = some f'') :=
  ⟨h, (ks12 hr h).2, (ks12 hq h).2, (ks12 hs h).2⟩
end
end Go.Proofs.YtgclooabjilniaaGreatDoor

/-
Floats: SetPrec, SetMantExp, MantExp, IsInt by values. No condition.
-/
namespace Go.Proofs.YtgclooabjilniaaGreatDoor
open Go.RowKit

set_option maxRecDepth 100000 in
theorem round_other (b B p m f : Nat) (a e : Int) (neg : Bool) (v : Value) (W : World) (hW : FltR W b p m a f neg v e) (hB : B ≤ b) (hf : f = 0 ∨ f = 2) :
    Calls Tryz.prog 88 #[.pointer (some ⟨b, 0, none⟩), .int .u64 0] W fun e' w' => e' = .returned (.tuple #[]) ∧ FltR w' b p m 0 f neg v e ∧ Below B W w' := by
  obtain ⟨c0, c1, c2, c3, c4, c5, c6⟩ := hW.cells
  obtain ⟨f0, f1, f2, f3, f4, f5, f6⟩ := hW.free
  have t2 : ((f : Int) != 1) = true := by rw [bne_iff_ne]; omega
  have R := Lib.hid (hW.s2 0)
  have BB := Lib.hid (bset (i := 2) (u := .int .i8 0) (Below.refl B W) hB)
  clear hW hf
  go_enter Tryz.func88, Tryz.ntmps88
  go_wp2
  refine bodyPost_ret (results_none rfl _ _ _) rfl ?_
  exact ⟨rfl, R.out, BB.out⟩
set_option maxRecDepth 100000 in
set_option maxHeartbeats 800000 in
theorem setPrec_val (b B p q m f : Nat) (a : Int) (neg : Bool) (M : Nat) (X : Int) (w : World) (h : FVal w B b p m a f neg M X) (hB : B ≤ b) (hf : f ≤ 2) (_hp0 : 0 < p) (_hp : p ≤ 64000000) (hq0 : 0 < q) (hq : q ≤ 64000000) (hm : m ≤ 5) (hX : f = 1 → -900000000 ≤ X ∧ X + bl M ≤ 900000000) :
    Calls Tryz.prog 62 #[.pointer (some ⟨b, 0, none⟩), .int .u64 q] w fun e' w' => e' = .returned (.pointer (some ⟨b, 0, none⟩)) ∧ FVal w' B b q m (stA f q m neg M) f neg (rQ q m neg 0 M) (X + rk q M) ∧ Below B w w' := by
  obtain ⟨v, e, h1, h2⟩ := h
  obtain ⟨c0, c1, c2, c3, c4, c5, c6⟩ := h1.cells
  obtain ⟨f0, f1, f2, f3, f4, f5, f6⟩ := h1.free
  have R1 := Lib.hid ((h1.s2 0).s0 q)
  have B1 := Lib.hid (bset (i := 0) (u := .int .u32 (q : Int)) (bset (i := 2) (u := .int .i8 0) (Below.refl B w) hB) hB)
  have t1 : ((q : Int) == 0) = false := by rw [beq_eq_false_iff_ne]; omega
  by_cases h3 : f = 1
  · subst h3
    obtain ⟨hM, ws, ho, hg, hd⟩ := h2 rfl
    have h0 := hd.symm.pos hM
    have hb := hd.bl h0
    rw [hg.bl] at hb
    have hx2 := hX rfl
    have he1 : -2147483648 ≤ e := by omega
    have he2 : e < 2147483647 := by omega
    obtain ⟨l1, l2⟩ := rnd_deq (p := q) (m := m) neg h0 hd
    have O1 := Lib.hid ((h1.s2 0).own (h1.own ho 2 (.int .i8 0)) 0 (.int .u32 (q : Int)))
    have HG := Lib.hid hg
    have HM := Lib.hid hM
    have HH : ∀ w', FVal w' B b q m (rA q m neg 0 (wv ws)) 1 neg (rQ q m neg 0 (wv ws)) (e - 64 * (ws.length : Int) + rk q (wv ws)) → FVal w' B b q m (stA 1 q m neg M) 1 neg (rQ q m neg 0 M) (X + rk q M) := fun w' hw => by
      obtain ⟨v', e', k1, k2⟩ := hw
      obtain ⟨n1, ws', n2, n3, n4⟩ := k2 rfl
      refine ⟨v', e', ?_, fun _ => ⟨l1.pos n1, ws', n2, n3, n4.trans l1⟩⟩
      unfold stA; rw [if_pos rfl, ← l2]; exact k1
    have HH := Lib.hid HH
    clear h1 h2 ho hg hd h0 hb hx2 hX l1 l2 hM
    by_cases hqp : q < p
    · have t2 : decide (q < p) = true := decide_eq_true hqp
      clear hqp
      go_enter Tryz.func62, Tryz.ntmps62
      go_wp2_with fail
      have hG := HG.out
      have hr := round_any b B q m 0 0 e neg v ws _ R1.out hB O1.out hG.2.2.1 hG.1 hG.2.2.2.1 hG.2.1 hq0 hq hm (by decide) (.inl rfl) he1 he2
      rw [show ((0 : Nat) : Int) = 0 from rfl] at hr
      refine hr.mono ?_
      rintro _ w8 ⟨rfl, hR⟩
      have F := Lib.hid (HH.out _ (hR.val (rQ_pos neg 0 hq0 (Nat.lt_of_lt_of_le (Nat.two_pow_pos _) hG.2.2.2.1))))
      obtain ⟨_, _, _, -, -, -, -, hb8⟩ := hR
      have HB8 := Lib.hid (B1.out.trans hb8)
      clear hr hG hb8
      go_wp2
      go_ret
      exact ⟨rfl, F.out, HB8.out⟩
    · have t2 : decide (q < p) = false := decide_eq_false hqp
      have F := Lib.hid (HH.out _ (fval_rnd R1.out O1.out (HG.out.wide (by omega)) hq0))
      clear hqp HH
      go_enter Tryz.func62, Tryz.ntmps62
      go_wp2
      go_ret
      exact ⟨rfl, F.out, B1.out⟩
  · have HF : Hid (∀ w', FltR w' b q m 0 f neg v e → FVal w' B b q m (stA f q m neg M) f neg (rQ q m neg 0 M) (X + rk q M)) := Lib.hid (fun w' hw => ⟨v, e, by unfold stA; rw [if_neg h3]; exact hw, fun hc => absurd hc h3⟩)
    have HR := Lib.hid (round_other b B q m f 0 e neg v _ R1.out hB (by omega))
    clear h1 h2 hX
    by_cases hqp : q < p
    · have t2 : decide (q < p) = true := decide_eq_true hqp
      clear hqp h3
      go_enter Tryz.func62, Tryz.ntmps62
      go_wp2_with fail
      refine HR.out.mono ?_
      rintro _ w8 ⟨rfl, hr, hb⟩
      have F := Lib.hid (HF.out _ hr)
      have HB8 := Lib.hid (B1.out.trans hb)
      clear hr hb
      go_wp2
      go_ret
      exact ⟨rfl, F.out, HB8.out⟩
    · have t2 : decide (q < p) = false := decide_eq_false hqp
      have F := Lib.hid (HF.out _ R1.out)
      clear hqp h3 HF HR
      go_enter Tryz.func62, Tryz.ntmps62
      go_wp2
      go_ret
      exact ⟨rfl, F.out, B1.out⟩
/-- What precision 0 leaves. -/
def zpF (f : Nat) : Nat := if f = 1 then 0 else f
set_option maxRecDepth 100000 in
set_option maxHeartbeats 800000 in
theorem setPrec_zero (b B p m f : Nat) (a e : Int) (neg : Bool) (v : Value) (w : World) (h : FltR w b p m a f neg v e) (hB : B ≤ b) (hf : f ≤ 2) :
    Calls Tryz.prog 62 #[.pointer (some ⟨b, 0, none⟩), .int .u64 0] w fun e' w' => e' = .returned (.pointer (some ⟨b, 0, none⟩)) ∧ (∃ a' : Int, (-1 ≤ a' ∧ a' ≤ 1) ∧ FltR w' b 0 m a' (zpF f) neg v e) ∧ Below B w w' := by
  obtain ⟨c0, c1, c2, c3, c4, c5, c6⟩ := h.cells
  obtain ⟨f0, f1, f2, f3, f4, f5, f6⟩ := h.free
  have r1 := (h.s2 0).s0 0
  have R1 := Lib.hid r1
  have B1 := Lib.hid (bset (i := 0) (u := .int .u32 (0 : Int)) (bset (i := 2) (u := .int .i8 0) (Below.refl B w) hB) hB)
  by_cases h3 : f = 1
  · subst h3
    obtain ⟨d0, d1, d2, d3, d4, d5, d6⟩ := r1.cells
    have c3' : w.cell? ⟨b, 3, none⟩ = some (.int .u8 1) := c3
    clear h r1 c3 d3
    go_enter Tryz.func62, Tryz.ntmps62
    go_wp2_with fail
    refine (makeAcc_any neg _).mono ?_
    rintro _ w1 ⟨rfl, hw1⟩
    obtain ⟨ac, hac⟩ : ∃ ac : Int, ac = (if neg then 1 else -1) := ⟨_, rfl⟩
    rw [← hac]
    have hacb : -1 ≤ ac ∧ ac ≤ 1 := by rw [hac]; cases neg <;> decide
    have HA := Lib.hid hacb
    have R2 := R1.out
    have B2 := B1.out
    rw [show ((0 : Nat) : Int) = 0 from rfl] at R2
    have R2' : FltR w1 b 0 m 0 1 neg v e := hw1 ▸ R2
    have B2' : Below B w w1 := hw1 ▸ B2
    obtain ⟨d0, d1, d2, d3, d4, d5, d6⟩ := R2'.cells
    obtain ⟨g0, g1, g2, g3, g4, g5, g6⟩ := R2'.free
    have R3 := Lib.hid ((R2'.s2 ac).s3 0)
    have B3 := Lib.hid (bset (i := 3) (u := .int .u8 (0 : Int)) (bset (i := 2) (u := .int .i8 ac) B2' hB) hB)
    clear hac hacb R1 B1 R2 B2 R2' B2' hw1
    go_wp2
    go_ret
    exact ⟨rfl, ⟨ac, HA.out, R3.out⟩, B3.out⟩
  · have t2 : ((f : Int) == 1) = false := by rw [beq_eq_false_iff_ne]; omega
    have HZ : Hid (zpF f = f) := Lib.hid (by unfold zpF; rw [if_neg h3])
    clear h h3 r1
    go_enter Tryz.func62, Tryz.ntmps62
    go_wp2
    go_ret
    exact ⟨rfl, ⟨0, by omega, by rw [HZ.out]; exact R1.out⟩, B1.out⟩
set_option maxRecDepth 100000 in
set_option maxHeartbeats 800000 in
theorem copyF_other (b B c p0 m0 f0' p m f : Nat) (a0 e0 a e : Int) (n0 neg : Bool) (u v : Value) (w : World) (h : FltR w b p0 m0 a0 f0' n0 u e0) (hB : B ≤ b) (hx : FltR w c p m a f neg v e) (hbc : b ≠ c) (hf : f ≠ 1) :
    Calls Tryz.prog 108 #[.pointer (some ⟨b, 0, none⟩), .pointer (some ⟨c, 0, none⟩)] w fun e' w' => e' = .returned (.pointer (some ⟨b, 0, none⟩)) ∧ FltR w' b p m a f neg u e0 ∧ Below B w w' := by
  obtain ⟨c0, c1, c2, c3, c4, c5, c6⟩ := h.cells
  obtain ⟨f0, f1, f2, f3, f4, f5, f6⟩ := h.free
  obtain ⟨d0, d1, d2, d3, d4, d5, d6⟩ := hx.cells
  have hcmp := neqF w hbc h hx
  have hbc1 : ¬ b = c := hbc
  have hbc2 : ¬ c = b := fun h => hbc h.symm
  have t1 : ((f : Int) == 1) = false := by rw [beq_eq_false_iff_ne]; omega
  have R5 := Lib.hid (((((h.s0 p).s1 m).s2 a).s3 f).s4 neg)
  have B5 := Lib.hid (bset (i := 4) (u := .bool neg) (bset (i := 3) (u := .int .u8 (f : Int)) (bset (i := 2) (u := .int .i8 a) (bset (i := 1) (u := .int .u8 (m : Int)) (bset (i := 0) (u := .int .u32 (p : Int)) (Below.refl B w) hB) hB) hB) hB) hB)
  clear h hx hf
  go_enter Tryz.func108, Tryz.ntmps108
  go_wp2
  go_ret
  exact ⟨rfl, R5.out, B5.out⟩
/-- The accuracy behind SetMantExp. -/
def smA (f : Nat) (a : Int) : Int := if f = 1 then 0 else a
set_option maxRecDepth 100000 in
set_option maxHeartbeats 800000 in
theorem setMantExp_val (b B c Bx p0 m0 f0' p m f : Nat) (a0 e0 a : Int) (n0 neg : Bool) (M : Nat) (X x : Int) (w : World) (h : FltR w b p0 m0 a0 f0' n0 (.slice none 0 0) e0) (hB : B ≤ b) (hx : FVal w Bx c p m a f neg M X) (hbc : b ≠ c) (hf : f ≤ 2)
    (hp0 : f = 1 → 0 < p) (hp : p ≤ 64000000) (hX : f = 1 → -500000000 ≤ X ∧ X + bl M ≤ 500000000) (hx1 : -500000000 ≤ x) (hx2 : x ≤ 500000000) :
    Calls Tryz.prog 78 #[.pointer (some ⟨b, 0, none⟩), .pointer (some ⟨c, 0, none⟩), .int .i64 x] w fun e' w' => e' = .returned (.pointer (some ⟨b, 0, none⟩)) ∧ FVal w' B b p m (smA f a) f neg M (X + x) ∧ Below B w w' := by
  obtain ⟨v, e, h1, h2⟩ := hx
  by_cases h3 : f = 1
  · subst h3
    obtain ⟨hM, ws, ho, hg, hd⟩ := h2 rfl
    have h0 := hd.symm.pos hM
    have hb := hd.bl h0
    rw [hg.bl] at hb
    have hx2 := hX rfl
    refine (setMantExp_exact b B c p0 m0 f0' p m a0 e0 a e x n0 neg v ws w h hB h1 hbc ho hg.2.2.1 hg.2.2.2.2 hg.1 hg.2.1 (hp0 rfl) hp (by omega) (by omega) (by omega) (by omega)).mono ?_
    rintro _ w' ⟨rfl, r, k1, k2, k3⟩
    refine ⟨rfl, ⟨r, e + x, k1, fun _ => ⟨hM, ws, k2, hg, ?_⟩⟩, k3⟩
    have := hd.exp x
    rw [show e + x - 64 * (ws.length : Int) = e - 64 * (ws.length : Int) + x by omega]
    exact this
  · have HC := Lib.hid (copyF_other b B c p0 m0 f0' p m f a0 e0 a e n0 neg _ v w h hB h1 hbc h3)
    have t1 : ((f : Int) == 1) = false := by rw [beq_eq_false_iff_ne]; omega
    have HF : Hid (∀ w', FltR w' b p m a f neg (.slice none 0 0) e0 → FVal w' B b p m (smA f a) f neg M (X + x)) := Lib.hid (fun w' hw => ⟨_, _, by unfold smA; rw [if_neg h3]; exact hw, fun hc => absurd hc h3⟩)
    clear h h1 h2 hX h3 hp0
    go_enter Tryz.func78, Tryz.ntmps78
    go_wp2_with fail
    refine HC.out.mono ?_
    rintro _ w1 ⟨rfl, k1, k2⟩
    obtain ⟨c0, c1, c2, c3, c4, c5, c6⟩ := k1.cells
    have K1 := Lib.hid (HF.out _ k1)
    have K2 := Lib.hid k2
    clear k1 k2
    go_wp2
    go_ret
    exact ⟨rfl, K1.out, K2.out⟩
/-- The exponent that MantExp tells, and what is left. -/
def mxE (f M : Nat) (X : Int) : Int := if f = 1 then X + bl M else 0
set_option maxRecDepth 100000 in
set_option maxHeartbeats 800000 in
theorem mantExp_val (b B c Bx p0 m0 f0' p m f : Nat) (a0 e0 a : Int) (n0 neg : Bool) (M : Nat) (X : Int) (w : World) (h : FltR w b p0 m0 a0 f0' n0 (.slice none 0 0) e0) (hB : B ≤ b) (hx : FVal w Bx c p m a f neg M X) (hbc : b ≠ c) (hf : f ≤ 2)
    (hX : f = 1 → -500000000 ≤ X ∧ X + bl M ≤ 500000000) :
    Calls Tryz.prog 101 #[.pointer (some ⟨c, 0, none⟩), .pointer (some ⟨b, 0, none⟩)] w fun e' w' => e' = .returned (.int .i64 (mxE f M X)) ∧ FVal w' B b p m a f neg M (-(bl M : Int)) ∧ Below B w w' := by
  obtain ⟨v, e, h1, h2⟩ := hx
  by_cases h3 : f = 1
  · subst h3
    obtain ⟨hM, ws, ho, hg, hd⟩ := h2 rfl
    have h0 := hd.symm.pos hM
    have hb := hd.bl h0
    rw [hg.bl] at hb
    have hx2 := hX rfl
    refine (mantExp_one b B c p0 m0 f0' p m a0 e0 a e n0 neg v ws w h hB h1 hbc ho hg.2.2.1 hg.2.1 (by omega) (by omega)).mono ?_
    rintro _ w' ⟨rfl, r, k1, k2, k3⟩
    refine ⟨by rw [mxE, if_pos rfl, show e = X + bl M by omega], ⟨r, 0, k1, fun _ => ⟨hM, ws, k2, hg, ?_⟩⟩, k3⟩
    have := hd.exp (-e)
    rw [show (0 : Int) - 64 * (ws.length : Int) = e - 64 * (ws.length : Int) + -e by omega, show -(bl M : Int) = X + -e by omega]
    exact this
  · have HC := Lib.hid (copyF_other b B c p0 m0 f0' p m f a0 e0 a e n0 neg _ v w h hB h1 hbc h3)
    have t1 : ((f : Int) == 1) = false := by rw [beq_eq_false_iff_ne]; omega
    have HF : Hid (∀ w', FltR w' b p m a f neg (.slice none 0 0) e0 → FVal w' B b p m a f neg M (-(bl M : Int))) := Lib.hid (fun w' hw => ⟨_, _, hw, fun hc => absurd hc h3⟩)
    have HE : Hid (mxE f M X = 0) := Lib.hid (by rw [mxE, if_neg h3])
    obtain ⟨d0, d1, d2, d3, d4, d5, d6⟩ := h1.cells
    clear h h1 h2 hX h3
    go_enter Tryz.func101, Tryz.ntmps101
    go_wp2_with fail
    refine HC.out.mono ?_
    rintro _ w1 ⟨rfl, k1, k2⟩
    obtain ⟨c0, c1, c2, c3, c4, c5, c6⟩ := k1.cells
    have K1 := Lib.hid (HF.out _ k1)
    have K2 := Lib.hid k2
    clear k1 k2
    go_wp2
    go_ret
    rw [HE.out]
    exact ⟨rfl, K1.out, K2.out⟩
/-- Whether a value is an integer. -/
def iiV (f M : Nat) (X : Int) : Bool := if f = 1 then decide (0 ≤ X + (tz M : Nat)) else decide (f = 0)
end Go.Proofs.YtgclooabjilniaaGreatDoor

/-
Floats: setBits64, SetInt64, SetUint64 of a new receiver of any precision, by values. No condition.
-/
namespace Go.Proofs.YtgclooabjilniaaGreatDoor
open Go.RowKit

/-- The precision that is taken where none is asked. -/
def pD (p d : Nat) : Nat := if p = 0 then d else p
theorem pD_pos {p d : Nat} (h : 0 < d) : 0 < pD p d := by unfold pD; split <;> omega
theorem pD_le {p d q : Nat} (h1 : p ≤ q) (h2 : d ≤ q) : pD p d ≤ q := by unfold pD; split <;> omega
/-- A word with its first bit at the top. -/
theorem good_word {y p : Nat} (h1 : y < 18446744073709551616) (h2 : 9223372036854775808 ≤ y) (hp : 64 ≤ p) : Good [y] p :=
  ⟨Nat.one_pos, by simp, fun d hd => by rw [List.mem_singleton] at hd; rw [hd]; exact h1, by simpa [wv] using h2, .inl (by simpa using hp)⟩
theorem wv_one (y : Nat) : wv [y] = y := by simp [wv]
/-- What becomes of a Float that holds a value, exactly, and is rounded where its precision is less than that of the words. -/
theorem fval_trans {w : World} {B b q m : Nat} {neg : Bool} {N M : Nat} {X Y : Int} (h : FVal w B b q m (rA q m neg 0 N) 1 neg (rQ q m neg 0 N) (X + rk q N)) (hN : 0 < N) (hd : deq N X M Y) :
    FVal w B b q m (rA q m neg 0 M) 1 neg (rQ q m neg 0 M) (Y + rk q M) := by
  obtain ⟨l1, l2⟩ := rnd_deq (p := q) (m := m) neg hN hd
  obtain ⟨v', e', k1, k2⟩ := h
  obtain ⟨n1, ws', n2, n3, n4⟩ := k2 rfl
  refine ⟨v', e', by rw [← l2]; exact k1, fun _ => ⟨l1.pos n1, ws', n2, n3, n4.trans l1⟩⟩
/-- The form of a number. -/
def fO (M : Nat) : Nat := if M = 0 then 0 else 1
def sbA (q m : Nat) (neg : Bool) (M : Nat) : Int := if M = 0 then 0 else rA q m neg 0 M
set_option maxRecDepth 100000 in
set_option maxHeartbeats 1600000 in
theorem setBits64_val (b B p m f : Nat) (a e : Int) (neg neg0 : Bool) (x : Nat) (w : World) (h : FltR w b p m a f neg0 (.slice none 0 0) e) (hB : B ≤ b) (hp : p ≤ 64000000) (hm : m ≤ 5) (hx : x < 18446744073709551616) :
    Calls Tryz.prog 65 #[.pointer (some ⟨b, 0, none⟩), .bool neg, .int .u64 x] w fun e' w' => e' = .returned (.pointer (some ⟨b, 0, none⟩)) ∧
      FVal w' B b (pD p 64) m (sbA (pD p 64) m neg x) (fO x) neg (rQ (pD p 64) m neg 0 x) (0 + rk (pD p 64) x) ∧ Below B w w' := by
  obtain ⟨c0, c1, c2, c3, c4, c5, c6⟩ := h.cells
  obtain ⟨f0, f1, f2, f3, f4, f5, f6⟩ := h.free
  have hlt := h.lt
  have hq0 : 0 < pD p 64 := pD_pos (by decide)
  have hqb : pD p 64 ≤ 64000000 := pD_le hp (by decide)
  by_cases hx0 : x = 0
  · subst hx0
    have HF : Hid (∀ w', FltR w' b (pD p 64) m 0 0 neg (.slice none 0 0) e → FVal w' B b (pD p 64) m (sbA (pD p 64) m neg 0) (fO 0) neg (rQ (pD p 64) m neg 0 0) (0 + rk (pD p 64) 0)) := Lib.hid (fun w' hw => ⟨_, _, hw, fun hc => absurd hc (by decide)⟩)
    by_cases hp0 : p = 0
    · have t0 : ((p : Int) == 0) = true := by rw [hp0]; rfl
      have F := Lib.hid (HF.out _ (show FltR _ b (pD p 64) m 0 0 neg _ e by rw [show pD p 64 = 64 by unfold pD; rw [if_pos hp0]]; exact (((h.s0 64).s2 0).s4 neg).s3 0))
      have BB := Lib.hid (bset (i := 3) (u := .int .u8 (0 : Int)) (bset (i := 4) (u := .bool neg) (bset (i := 2) (u := .int .i8 0) (bset (i := 0) (u := .int .u32 (64 : Int)) (Below.refl B w) hB) hB) hB) hB)
      clear h hp0 HF
      go_enter Tryz.func65, Tryz.ntmps65
      go_wp2
      go_ret
      exact ⟨rfl, F.out, BB.out⟩
    · have t0 : ((p : Int) == 0) = false := by rw [beq_eq_false_iff_ne]; omega
      have F := Lib.hid (HF.out _ (show FltR _ b (pD p 64) m 0 0 neg _ e by rw [show pD p 64 = p by unfold pD; rw [if_neg hp0]]; exact ((h.s2 0).s4 neg).s3 0))
      have BB := Lib.hid (bset (i := 3) (u := .int .u8 (0 : Int)) (bset (i := 4) (u := .bool neg) (bset (i := 2) (u := .int .i8 0) (Below.refl B w) hB) hB) hB)
      clear h hp0 HF
      go_enter Tryz.func65, Tryz.ntmps65
      go_wp2
      go_ret
      exact ⟨rfl, F.out, BB.out⟩
  · have h0 : 0 < x := by omega
    have t1 : ((x : Int) == 0) = false := by rw [beq_eq_false_iff_ne]; omega
    have hst := shl_top h0 hx
    have hbl := bl_le64 hx
    have hbp := bl_pos h0
    have HD : Hid (∀ (Q : Nat) (w' : World), FVal w' B b Q m (rA Q m neg 0 (x * 2 ^ (64 - bl x))) 1 neg (rQ Q m neg 0 (x * 2 ^ (64 - bl x))) ((bl x : Int) - 64 * (([x * 2 ^ (64 - bl x)] : List Nat).length : Int) + rk Q (x * 2 ^ (64 - bl x))) →
        FVal w' B b Q m (sbA Q m neg x) (fO x) neg (rQ Q m neg 0 x) (0 + rk Q x)) := Lib.hid (fun Q w' hw => by
      have := fval_trans hw (Nat.mul_pos h0 (Nat.two_pow_pos _)) (show deq _ _ x 0 from ⟨0, 64 - bl x, by simp, by simp; omega⟩)
      unfold sbA fO; rw [if_neg hx0, if_neg hx0]; exact this)
    obtain ⟨l, hl⟩ : ∃ l, l = bl x := ⟨_, rfl⟩
    have HX := Lib.hid hx
    rw [← hl] at hst hbl hbp HD
    have hs64 : 64 - l < 64 := by omega
    have hP2 : (2 : Int) ^ (64 - l) = ((2 ^ (64 - l) : Nat) : Int) := by simp
    obtain ⟨s, hs⟩ : ∃ s, s = 64 - l := ⟨_, rfl⟩
    rw [← hs] at hst hs64 hP2 HD
    obtain ⟨S, hS⟩ : ∃ S, S = 2 ^ s := ⟨_, rfl⟩
    rw [← hS] at hst hP2 HD
    obtain ⟨y, hy⟩ : ∃ y, y = x * S := ⟨_, rfl⟩
    rw [← hy] at hst HD
    have hxy : (x : Int) * (S : Int) = (y : Int) := by rw [hy]; simp
    obtain ⟨hy1, hy2⟩ := hst
    have HL := Lib.hid hl
    have HSl := Lib.hid hs
    have hls : (64 : Int) - (s : Int) = (l : Int) := by omega
    have hl2 : l ≤ 64 := hbl
    have HTL : Hid (∀ w5, FltR w5 b (pD p 64) m 0 1 neg (.slice none 0 0) e → Below B w w5 → Calls Tryz.prog 94 #[.slice none 0 0, .int .u64 y] w5 fun e' w' => ∃ v, e' = .returned v ∧ IsS v ∧
        (FltR w' b (pD p 64) m 0 1 neg (.slice none 0 0) e ∧ FltR ((w'.setCell ⟨b, 5, none⟩ v).setCell ⟨b, 6, none⟩ (.int .i32 (l : Int))) b (pD p 64) m 0 1 neg v (l : Int) ∧ Own ((w'.setCell ⟨b, 5, none⟩ v).setCell ⟨b, 6, none⟩ (.int .i32 (l : Int))) B 128 v (cellsW [y]) ∧ Below B w ((w'.setCell ⟨b, 5, none⟩ v).setCell ⟨b, 6, none⟩ (.int .i32 (l : Int))))) := Lib.hid (fun w5 h5 hb5 => by
      refine (setUint64_nil y w5 (by omega) hy1).mono ?_
      rintro _ w' ⟨v, rfl, ho, hb⟩
      have hBs : B ≤ w5.heap.size := by have := h5.lt; omega
      have R5 := h5.below hb
      exact ⟨v, rfl, ho.isS, R5, (R5.s5 v).s6 _, (R5.s5 v).own (R5.own (ho.mono hBs) 5 v) 6 _, bset (bset (hb5.trans (hb.mono hBs)) hB) hB⟩)
    have HRD : Hid (∀ (w' : World) (v : Value), FltR w' b (pD p 64) m 0 1 neg v (l : Int) → Own w' B 128 v (cellsW [y]) → Calls Tryz.prog 88 #[.pointer (some ⟨b, 0, none⟩), .int .u64 0] w' fun e' w'' => e' = .returned (.tuple #[]) ∧ FVal w'' B b (pD p 64) m (sbA (pD p 64) m neg x) (fO x) neg (rQ (pD p 64) m neg 0 x) (0 + rk (pD p 64) x) ∧ Below B w' w'') := Lib.hid (fun w' v hf ho => by
      have hg := good_word (p := 64) hy1 hy2 (Nat.le_refl _)
      have hr := round_any b B (pD p 64) m 0 0 (l : Int) neg v [y] w' hf hB ho hg.2.2.1 Nat.one_pos hg.2.2.2.1 (by simp) hq0 hqb hm (by decide) (.inl rfl) (by omega) (by omega)
      rw [show ((0 : Nat) : Int) = 0 from rfl] at hr
      refine hr.mono ?_
      rintro _ w'' ⟨rfl, hR⟩
      have hQ : 0 < rQ (pD p 64) m neg 0 (wv [y]) := rQ_pos neg 0 hq0 (by rw [wv_one]; omega)
      have F := hR.val hQ
      obtain ⟨_, _, _, -, -, -, -, hb8⟩ := hR
      rw [wv_one] at F
      exact ⟨rfl, HD.out _ _ F, hb8⟩)
    have HEX : Hid (64 ≤ pD p 64 → ∀ (w' : World) (v : Value), FltR w' b (pD p 64) m 0 1 neg v (l : Int) → Own w' B 128 v (cellsW [y]) → FVal w' B b (pD p 64) m (sbA (pD p 64) m neg x) (fO x) neg (rQ (pD p 64) m neg 0 x) (0 + rk (pD p 64) x)) := Lib.hid (fun h64 w' v hf ho => by
      have F := fval_rnd hf ho (good_word hy1 hy2 h64) hq0
      rw [wv_one] at F
      exact HD.out _ _ F)
    clear hl hs hS hy hx hbl HD hx0
    by_cases hp0 : p = 0
    · have t0 : ((p : Int) == 0) = true := by rw [hp0]; rfl
      have HP : Hid (pD p 64 = 64) := Lib.hid (by unfold pD; rw [if_pos hp0])
      have R4 := Lib.hid ((((h.s0 64).s2 0).s4 neg).s3 1)
      have B4 := Lib.hid (bset (i := 3) (u := .int .u8 (1 : Int)) (bset (i := 4) (u := .bool neg) (bset (i := 2) (u := .int .i8 0) (bset (i := 0) (u := .int .u32 (64 : Int)) (Below.refl B w) hB) hB) hB) hB)
      rw [HP.out] at HTL HEX ⊢
      clear h h0 hp0 HRD hq0 hqb
      go_enter Tryz.func65, Tryz.ntmps65
      go_wp2_with fail
      refine (lz64 x _ HX.out).mono ?_
      rintro _ _ ⟨rfl, rfl⟩
      rw [← HL.out, ← HSl.out]
      go_wp2_with fail
      refine (HTL.out _ R4.out B4.out).mono ?_
      rintro _ w5 ⟨v, rfl, hSv, R5, F, O, BF⟩
      obtain ⟨d0, d1, d2, d3, d4, d5, d6⟩ := R5.cells
      obtain ⟨g0, g1, g2, g3, g4, g5, g6⟩ := R5.free
      have d0' : w5.cell? ⟨b, 0, none⟩ = some (.int .u32 64) := d0
      have HV := Lib.hid (HEX.out (Nat.le_refl _) _ _ F O)
      have HB := Lib.hid BF
      clear c0 c1 c2 c3 c4 c5 c6 f0 f1 f2 f3 f4 f5 f6 d0 R5 F O BF
      go_wp2
      go_ret
      exact ⟨rfl, HV.out, HB.out⟩
    · have t0 : ((p : Int) == 0) = false := by rw [beq_eq_false_iff_ne]; omega
      have HP : Hid (pD p 64 = p) := Lib.hid (by unfold pD; rw [if_neg hp0])
      have R4 := Lib.hid (((h.s2 0).s4 neg).s3 1)
      have B4 := Lib.hid (bset (i := 3) (u := .int .u8 (1 : Int)) (bset (i := 4) (u := .bool neg) (bset (i := 2) (u := .int .i8 0) (Below.refl B w) hB) hB) hB)
      rw [HP.out] at HTL HEX HRD ⊢
      clear h h0 hp0 hq0 hqb
      by_cases hp64 : p < 64
      · have t2 : decide (p < 64) = true := decide_eq_true hp64
        have t2' : decide ((p : Int) < 64) = true := decide_eq_true (by omega)
        clear hp64 HEX
        go_enter Tryz.func65, Tryz.ntmps65
        go_wp2_with fail
        refine (lz64 x _ HX.out).mono ?_
        rintro _ _ ⟨rfl, rfl⟩
        rw [← HL.out, ← HSl.out]
        go_wp2_with fail
        refine (HTL.out _ R4.out B4.out).mono ?_
        rintro _ w5 ⟨v, rfl, hSv, R5, F, O, BF⟩
        obtain ⟨d0, d1, d2, d3, d4, d5, d6⟩ := R5.cells
        obtain ⟨g0, g1, g2, g3, g4, g5, g6⟩ := R5.free
        have HV := Lib.hid (HRD.out _ _ F O)
        have HB := Lib.hid BF
        clear c0 c1 c2 c3 c4 c5 c6 f0 f1 f2 f3 f4 f5 f6 R5 F O BF
        go_wp2_with fail
        refine HV.out.mono ?_
        rintro _ w8 ⟨rfl, hv8, hb8⟩
        have H8 := Lib.hid hv8
        have B8 := Lib.hid (HB.out.trans hb8)
        clear hv8 hb8
        go_wp2
        go_ret
        exact ⟨rfl, H8.out, B8.out⟩
      · have t2 : decide (p < 64) = false := decide_eq_false hp64
        have t2' : decide ((p : Int) < 64) = false := decide_eq_false (by omega)
        have H64 := Lib.hid (show 64 ≤ p by omega)
        clear hp64 HRD
        go_enter Tryz.func65, Tryz.ntmps65
        go_wp2_with fail
        refine (lz64 x _ HX.out).mono ?_
        rintro _ _ ⟨rfl, rfl⟩
        rw [← HL.out, ← HSl.out]
        go_wp2_with fail
        refine (HTL.out _ R4.out B4.out).mono ?_
        rintro _ w5 ⟨v, rfl, hSv, R5, F, O, BF⟩
        obtain ⟨d0, d1, d2, d3, d4, d5, d6⟩ := R5.cells
        obtain ⟨g0, g1, g2, g3, g4, g5, g6⟩ := R5.free
        have HV := Lib.hid (HEX.out H64.out _ _ F O)
        have HB := Lib.hid BF
        clear c0 c1 c2 c3 c4 c5 c6 f0 f1 f2 f3 f4 f5 f6 R5 F O BF
        go_wp2
        go_ret
        exact ⟨rfl, HV.out, HB.out⟩
set_option maxRecDepth 100000 in
theorem setInt64_val (b B p m f : Nat) (a e : Int) (neg0 : Bool) (x : Int) (w : World) (h : FltR w b p m a f neg0 (.slice none 0 0) e) (hB : B ≤ b) (hp : p ≤ 64000000) (hm : m ≤ 5) (hx1 : -9223372036854775808 ≤ x) (hx2 : x ≤ 9223372036854775807) :
    Calls Tryz.prog 39 #[.pointer (some ⟨b, 0, none⟩), .int .i64 x] w fun e' w' => e' = .returned (.pointer (some ⟨b, 0, none⟩)) ∧
      FVal w' B b (pD p 64) m (sbA (pD p 64) m (decide (x < 0)) x.natAbs) (fO x.natAbs) (decide (x < 0)) (rQ (pD p 64) m (decide (x < 0)) 0 x.natAbs) (0 + rk (pD p 64) x.natAbs) ∧ Below B w w' := by
  have H := Lib.hid (setBits64_val b B p m f a e (decide (x < 0)) neg0 x.natAbs w h hB hp hm (by omega))
  obtain ⟨n, hn⟩ : ∃ n, n = x.natAbs := ⟨_, rfl⟩
  rw [← hn] at H ⊢
  by_cases hx : x < 0
  · have t : decide (x < 0) = true := decide_eq_true hx
    rw [t] at H ⊢
    have hxx : x = -(n : Int) := by omega
    have hn0 : 0 < n := by omega
    subst hxx
    clear h hn hx
    by_cases hm2 : n = 9223372036854775808
    · subst hm2
      go_enter Tryz.func39, Tryz.ntmps39
      go_wp2_with fail
      rw [show IntKind.u64.wrap (wrap64 9223372036854775808) = ((9223372036854775808 : Nat) : Int) by decide +kernel]
      refine H.out.mono ?_
      rintro _ w1 ⟨rfl, h1, h2⟩
      have H1 := Lib.hid h1
      have H2 := Lib.hid h2
      clear h1 h2
      go_wp2
      go_ret
      exact ⟨rfl, H1.out, H2.out⟩
    · have hn2 : n ≤ 9223372036854775807 := by omega
      clear hm2
      go_enter Tryz.func39, Tryz.ntmps39
      go_wp2_with fail
      refine H.out.mono ?_
      rintro _ w1 ⟨rfl, h1, h2⟩
      have H1 := Lib.hid h1
      have H2 := Lib.hid h2
      clear h1 h2
      go_wp2
      go_ret
      exact ⟨rfl, H1.out, H2.out⟩
  · have t : decide (x < 0) = false := decide_eq_false hx
    rw [t] at H ⊢
    have e1 : x = (n : Int) := by omega
    subst e1
    clear h hn hx
    go_enter Tryz.func39, Tryz.ntmps39
    go_wp2_with fail
    refine H.out.mono ?_
    rintro _ w1 ⟨rfl, h1, h2⟩
    have H1 := Lib.hid h1
    have H2 := Lib.hid h2
    clear h1 h2
    go_wp2
    go_ret
    exact ⟨rfl, H1.out, H2.out⟩
end Go.Proofs.YtgclooabjilniaaGreatDoor

/-
Sums and differences of dyadic values. No condition.
-/
namespace Go.Proofs.YtgclooabjilniaaGreatDoor
open Go.RowKit

theorem deq_lift {X M : Nat} {ex E : Int} (h : deq X ex M E) {e : Int} (h1 : e ≤ ex) (h2 : e ≤ E) : X * 2 ^ (ex - e).toNat = M * 2 ^ (E - e).toNat := by
  obtain ⟨i, j, h3, h4⟩ := h
  by_cases hi : i ≤ (ex - e).toNat
  · rw [show (ex - e).toNat = i + ((ex - e).toNat - i) by omega, Nat.pow_add, ← Nat.mul_assoc, h3, Nat.mul_assoc, ← Nat.pow_add]
    congr 2; omega
  · have hp : 0 < 2 ^ (i - (ex - e).toNat) := Nat.two_pow_pos _
    apply Nat.eq_of_mul_eq_mul_right hp
    rw [Nat.mul_assoc, ← Nat.pow_add, show (ex - e).toNat + (i - (ex - e).toNat) = i by omega, h3, Nat.mul_assoc, ← Nat.pow_add]
    congr 2; omega
/-- A magnitude brought to a lower exponent. -/
def lo (M : Nat) (E e : Int) : Nat := M * 2 ^ (E - e).toNat
theorem lo_lo {M : Nat} {E e t : Int} (h1 : e ≤ E) (h2 : t ≤ e) : lo M E e * 2 ^ (e - t).toNat = lo M E t := by
  unfold lo; rw [Nat.mul_assoc, ← Nat.pow_add]; congr 2; omega
theorem deq_lo {X M : Nat} {ex E : Int} (h : deq X ex M E) {e : Int} (h1 : e ≤ ex) (h2 : e ≤ E) : lo X ex e = lo M E e := deq_lift h h1 h2
theorem lo_self (M : Nat) (E : Int) : lo M E E = M := by unfold lo; simp
theorem lo_pos {M : Nat} {E e : Int} (h : 0 < M) : 0 < lo M E e := Nat.mul_pos h (Nat.two_pow_pos _)
theorem bl_lo (M : Nat) (E e : Int) : bl (lo M E e) ≤ bl M + (E - e).toNat := by
  refine bl_le ?_
  rw [Nat.pow_add]; exact Nat.mul_lt_mul_of_pos_right (lt_bl M) (Nat.two_pow_pos _)
/-- The sum at the lower exponent. -/
def suM (M : Nat) (E : Int) (N : Nat) (F : Int) : Nat := lo M E (min E F) + lo N F (min E F)
def diM (M : Nat) (E : Int) (N : Nat) (F : Int) : Nat := lo M E (min E F) - lo N F (min E F)
theorem deq_of_lo {S T : Nat} {e g t : Int} (h1 : t ≤ e) (h2 : t ≤ g) (h : S * 2 ^ (e - t).toNat = T * 2 ^ (g - t).toNat) : deq S e T g := ⟨(e - t).toNat, (g - t).toNat, h, by omega⟩
theorem deq_su {X Y M N : Nat} {ex ey E F : Int} (h1 : deq X ex M E) (h2 : deq Y ey N F) : deq (suM X ex Y ey) (min ex ey) (suM M E N F) (min E F) := by
  refine deq_of_lo (t := min (min ex ey) (min E F)) (by omega) (by omega) ?_
  unfold suM
  rw [Nat.add_mul, Nat.add_mul, lo_lo (by omega) (by omega), lo_lo (by omega) (by omega), lo_lo (by omega) (by omega), lo_lo (by omega) (by omega), deq_lo h1 (by omega) (by omega), deq_lo h2 (by omega) (by omega)]
theorem deq_di {X Y M N : Nat} {ex ey E F : Int} (h1 : deq X ex M E) (h2 : deq Y ey N F) : deq (diM X ex Y ey) (min ex ey) (diM M E N F) (min E F) := by
  refine deq_of_lo (t := min (min ex ey) (min E F)) (by omega) (by omega) ?_
  unfold diM
  rw [Nat.sub_mul, Nat.sub_mul, lo_lo (by omega) (by omega), lo_lo (by omega) (by omega), lo_lo (by omega) (by omega), lo_lo (by omega) (by omega), deq_lo h1 (by omega) (by omega), deq_lo h2 (by omega) (by omega)]
theorem deq_le {X Y M N : Nat} {ex ey E F : Int} (h1 : deq X ex M E) (h2 : deq Y ey N F) : lo Y ey (min ex ey) ≤ lo X ex (min ex ey) ↔ lo N F (min E F) ≤ lo M E (min E F) := by
  have hA : 0 < 2 ^ (min ex ey - min (min ex ey) (min E F)).toNat := Nat.two_pow_pos _
  have hB : 0 < 2 ^ (min E F - min (min ex ey) (min E F)).toNat := Nat.two_pow_pos _
  have e1 : lo Y ey (min ex ey) * 2 ^ (min ex ey - min (min ex ey) (min E F)).toNat = lo N F (min E F) * 2 ^ (min E F - min (min ex ey) (min E F)).toNat := by
    rw [lo_lo (by omega) (by omega), lo_lo (by omega) (by omega), deq_lo h2 (by omega) (by omega)]
  have e2 : lo X ex (min ex ey) * 2 ^ (min ex ey - min (min ex ey) (min E F)).toNat = lo M E (min E F) * 2 ^ (min E F - min (min ex ey) (min E F)).toNat := by
    rw [lo_lo (by omega) (by omega), lo_lo (by omega) (by omega), deq_lo h1 (by omega) (by omega)]
  rw [← Nat.mul_le_mul_right_iff hA, e1, e2, Nat.mul_le_mul_right_iff hB]
theorem suM_comm (M : Nat) (E : Int) (N : Nat) (F : Int) : suM M E N F = suM N F M E := by
  unfold suM; rw [Nat.add_comm, show min E F = min F E by omega]
/-- A Float's mantissa is a number without a word 0 at its top. -/
theorem Good.wds {ws : List Nat} {p : Nat} (h : Good ws p) : ws = wds (wv ws) := by
  have h1 := h.bl
  obtain ⟨h2, -, h3, h4, -⟩ := h
  have hp : 0 < wv ws := Nat.lt_of_lt_of_le (Nat.two_pow_pos _) h4
  exact wds_of h3 (by rw [nw_bl hp, h1]; omega)
theorem Good.posv {ws : List Nat} {p : Nat} (h : Good ws p) : 0 < wv ws := Nat.lt_of_lt_of_le (Nat.two_pow_pos _) h.2.2.2.1
end Go.Proofs.YtgclooabjilniaaGreatDoor

/-
Floats: what uadd and usub need. No condition.
-/
namespace Go.Proofs.YtgclooabjilniaaGreatDoor
open Go.RowKit

theorem wrap_i64_id {a : Int} (h1 : -9223372036854775808 ≤ a) (h2 : a ≤ 9223372036854775807) : IntKind.i64.wrap a = a := by rw [IntKind.wrap_i64]; omega
theorem bl_diM (M : Nat) (E : Int) (N : Nat) (F : Int) : bl (diM M E N F) ≤ bl M + (E - min E F).toNat := Nat.le_trans (bl_mono (Nat.sub_le _ _)) (bl_lo _ _ _)
theorem bl_suM (M : Nat) (E : Int) (N : Nat) (F : Int) : bl (suM M E N F) ≤ max (bl M + (E - min E F).toNat) (bl N + (F - min E F).toNat) + 1 := by
  refine bl_le ?_
  unfold suM
  have h1 := lt_bl (lo M E (min E F))
  have h2 := lt_bl (lo N F (min E F))
  have h3 := bl_lo M E (min E F)
  have h4 := bl_lo N F (min E F)
  have h5 := Nat.pow_le_pow_right (show 0 < 2 by decide) (show bl (lo M E (min E F)) ≤ max (bl M + (E - min E F).toNat) (bl N + (F - min E F).toNat) by omega)
  have h6 := Nat.pow_le_pow_right (show 0 < 2 by decide) (show bl (lo N F (min E F)) ≤ max (bl M + (E - min E F).toNat) (bl N + (F - min E F).toNat) by omega)
  rw [Nat.pow_succ]; omega
theorem nw_of_bl {n k : Nat} (h : bl n ≤ 64 * k) : nw n ≤ k := by
  rcases Nat.eq_zero_or_pos n with h0 | h0
  · rw [h0, nw_zero]; exact Nat.zero_le _
  · rw [nw_bl h0]; omega
end Go.Proofs.YtgclooabjilniaaGreatDoor
