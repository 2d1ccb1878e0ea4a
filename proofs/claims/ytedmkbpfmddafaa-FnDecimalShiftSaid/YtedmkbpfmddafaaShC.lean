/-
FnDecimalShift: the walk. No condition.
-/
import Derived.Test.YtedmkbpfmddafaaShB
import Derived.Lib.ConvBytes
namespace Go.Proofs.Ytedmkbpfmddafaa
open Go.RowKit

/-- The figures of a decimal by 2 to s. -/
def shMant (us : List UInt8) (s : Nat) : List UInt8 := cutz (dtx (pre us us.length * 5 ^ s))
def shExp (us : List UInt8) (s : Nat) (e : Int) : Int := e - us.length - s + (dtx (pre us us.length * 5 ^ s)).length
set_option maxRecDepth 100000 in
set_option maxHeartbeats 400000 in
theorem ZZDecimalShift_any (m : Value) (e : Int) (us : List UInt8) (s : Nat) (w : World) (hr : RI .u8 w m (intsOf us)) (hf : Figs us) (hp : 0 < us.length) (h0 : us.getD 0 0 ≠ 48) (hs : s ≤ 60) (hl2 : us.length ≤ 10000) (he : -1000000000000 ≤ e ∧ e ≤ 1000000000000) :
    Calls Try.prog 42 #[m, .int .i64 e, .int .u64 s] w fun e' w' => ∃ v, e' = .returned v ∧ ZPost w (shMant us s) (shExp us s e) v w' := by
  have HL := Lib.hid (intsOf_length us)
  have hr1 := hr
  have Hf := Lib.hid hf
  have H0 := Lib.hid h0
  clear hr hf h0
  go_enter Try.func42, Try.ntmps42
  go_wp2_with (at_builtin; refine wpList_append_O rfl _ _ _ _ rfl elemB w.heap.size _ _ rfl (Own.nil _ _ _) _ rfl _ _ (hr1.src sliceB) ?c3 ?c4 ?c5 ?_)
  case c3 => rw [HL.out]; simp [maxLen]; omega
  case c4 => rw [HL.out]; simp; omega
  case c5 => exact Nat.le_refl _
  rintro v1 w1 ho1 hb1 - - -
  have hs1 := ho1.isS
  have D : DObj (w1.alloc (.cells #[v1, .int .i64 e] 103)) w.heap.size w1.heap.size v1 e us :=
    ⟨hb1.size, heap_alloc_new w1 _, by have := ho1.alloc (.cells #[v1, .int .i64 e] 103); rw [bys_eq]; simpa using this, fun hc => by have := (ho1.lt (by omega)).2; omega⟩
  have HD := Lib.hid D
  have hbz := hb1.size
  clear D
  go_wp2_with fail
  refine (rsh_any w.heap.size w1.heap.size v1 e us s _ HD.out Hf.out hp H0.out hs hl2 he).mono ?_
  rintro _ w2 ⟨_, rfl, rfl, ⟨v2, D2⟩, hb2⟩
  have hm := D2.mant
  have hex := D2.exp
  have hS := D2.own.isS
  have HD2 := Lib.hid D2
  clear D2
  go_wp2
  go_quiet (fail)
  go_wp2
  go_ret2
  refine ⟨_, rfl, v2, rfl, HD2.out.rd.below ⟨rfl, rfl, rfl, Nat.le_refl _, fun _ _ => rfl⟩, undrewN' ((hb1.alloc hbz _).trans hb2)⟩
set_option maxRecDepth 100000 in
set_option maxHeartbeats 400000 in
theorem DecimalShift_any (m : Value) (e : Int) (us : List UInt8) (s : Nat) (w : World) (hr : RI .u8 w m (intsOf us)) (hf : Figs us) (hp : 0 < us.length) (h0 : us.getD 0 0 ≠ 48) (hs : s ≤ 60) (hl2 : us.length ≤ 10000) (he : -1000000000000 ≤ e ∧ e ≤ 1000000000000) :
    Calls Try.prog 14 #[m, .int .i64 e, .int .u64 s] w fun e' w' => ∃ v, e' = .returned v ∧ ZPost w (shMant us s) (shExp us s e) v w' := by
  have HL := Lib.hid (intsOf_length us)
  have hr1 := hr
  have Hf := Lib.hid hf
  have H0 := Lib.hid h0
  clear hr hf h0
  go_enter Try.func14, Try.ntmps14
  go_wp2_with (at_builtin; refine wpList_append_O rfl _ _ _ _ rfl elemB w.heap.size _ _ rfl (Own.nil _ _ _) _ rfl _ _ (hr1.src sliceB) ?c3 ?c4 ?c5 ?_)
  case c3 => rw [HL.out]; simp [maxLen]; omega
  case c4 => rw [HL.out]; simp; omega
  case c5 => exact Nat.le_refl _
  rintro v1 w1 ho1 hb1 - - -
  go_wp2_with fail
  refine (ZZDecimalShift_any v1 e us s w1 (by simpa using ho1.rd) Hf.out hp H0.out hs hl2 he).mono ?_
  rintro _ w2 ⟨_, rfl, v2, rfl, r2, hb2⟩
  go_wp2
  go_ret2
  exact ⟨_, rfl, v2, rfl, r2, hb1.trans (hb2.mono hb1.size)⟩

set_option maxRecDepth 100000 in
set_option maxHeartbeats 400000 in
theorem lawS_big (v : Value) (x y : Int) (us : List UInt8) (w : World) (hr : RI .u8 w v (intsOf us)) (hl : 2147483647 < us.length) (hl2 : us.length ≤ 9223372036854775807) :
    Calls Try.prog 4 #[v, .int .i32 x, .int .u8 y] w fun e w' => e = .returned (.bool true) ∧ Below w.heap.size w w' := by
  have hS := hr.isS
  have hL := hr.len
  rw [intsOf_length] at hL
  go_enter Try.func4, Try.ntmps4
  go_wp2
  go_ret
  exact ⟨rfl, Below.refl _ _⟩
theorem conv_bytes {P : Program} (w : World) (l : List UInt8) {src dst e : TypeId} (hs : P.underlying src = some .string) (hd : P.underlying dst = some (.slice e)) (he : P.underlying e = some (.int .u8)) :
    ∃ v w', (convert src dst (.string ⟨l.toArray⟩)).run P w = .ok v w' ∧ RI .u8 w' v (intsOf l) ∧ Below w.heap.size w w' := by
  refine ⟨_, _, Lib.run_convert_string_bytes w src dst e ⟨l.toArray⟩ hs hd he, ⟨IsS.mk (grownCap_ge _ _ _ _), ?_, fun i hi => ?_⟩, ?_⟩
  · rw [intsOf_length]; rfl
  · rw [intsOf_length] at hi
    have := Lib.bytesWorld_cell w e ⟨l.toArray⟩ i hi
    refine Eq.trans ?_ (this.trans ?_)
    · show _ = (Lib.bytesWorld w e ⟨l.toArray⟩).cell? ⟨w.heap.size, i, none⟩
      simp [sBlk, sOff]
    · simp [intsOf, List.getD_eq_getElem?_getD, hi]
  · exact ⟨rfl, rfl, rfl, by rw [Lib.bytesWorld_size]; omega, fun k hk => Lib.bytesWorld_at_old w e _ k hk⟩
theorem pre_lt {us : List UInt8} (hf : Figs us) : ∀ k, pre us k < 10 ^ k
  | 0 => Nat.one_pos
  | k + 1 => by have := pre_lt hf k; have := fig_lt hf k; rw [pre, Nat.pow_succ]; omega
theorem nl_ten {n k : Nat} (h : n < 10 ^ k) : nl n ≤ k := nl_le (Nat.lt_of_lt_of_le h (Nat.pow_le_pow_left (by decide) k))
set_option maxRecDepth 100000 in
set_option maxHeartbeats 4000000 in
theorem lawS_any (v : Value) (x : Int) (s : Nat) (us : List UInt8) (w : World) (hr : RI .u8 w v (intsOf us)) (hl : us.length ≤ 2147483647) (hx : -2147483648 ≤ x ∧ x ≤ 2147483647) (hs : s ≤ 255) :
    Calls Try.prog 4 #[v, .int .i32 x, .int .u8 s] w fun e w' => e = .returned (.bool true) ∧ Below w.heap.size w w' := by
  have hS := hr.isS
  have hL := hr.len
  have hC := hS.le
  rw [intsOf_length] at hL
  have hC' : us.length ≤ sCap v := by omega
  obtain ⟨hx1, hx2⟩ := hx
  have h0 : decide ((2147483647 : Int) < us.length) = false := by rw [decide_eq_false_iff_not]; omega
  have Hr := Lib.hid hr
  have Hl := Lib.hid hl
  clear hr hl hC
  go_enter Try.func4, Try.ntmps4
  go_wp2_with fail
  refine (decimal_any v 200 us w Hr.out Hl.out).mono ?_
  rintro _ _ ⟨_, rfl, r, rfl, hd, rfl⟩
  cases r with
  | false =>
    go_wp2
    go_ret
    exact ⟨rfl, Below.refl _ _⟩
  | true =>
    have hD := hd rfl
    clear hd h0
    have hp := hD.pos
    have hle := hD.le
    have hF := hD.figs (by decide)
    have HF := Lib.hid hF
    have hd0 : us.getD 0 0 ≠ 48 := hD.first
    have H0 := Lib.hid hd0
    clear hD hF hd0
    have hle' : us.length ≤ 200 := by omega
    clear hle
    obtain ⟨k, hk⟩ : ∃ k : Nat, (s : Int) % 61 = k := ⟨s % 61, by omega⟩
    have hk60 : k ≤ 60 := by omega
    go_wp2_with fail
    refine (DecimalShift_any v x us k w Hr.out HF.out hp H0.out hk60 (by omega) (by omega)).mono ?_
    rintro _ w2 ⟨_, rfl, v2, rfl, r2, hb2⟩
    have R2 := Lib.hid r2
    have hs2 := r2.isS
    clear r2 hk
    go_wp2
    go_loopw [10, 37] (fun u i wr => ∃ j : Nat, j ≤ us.length ∧ i = .int .i64 j ∧ NatV wr u (pre us j) ∧ Below w2.heap.size w2 wr) (fun _ i _ => us.length - (intOf i).toNat)
    case atStart => exact ⟨0, Nat.zero_le _, rfl, NatV.zero (IsS.mk (Nat.le_refl _)) rfl, (Below.refl _ _).alloc (Nat.le_refl _) _⟩
    case round =>
      obtain ⟨j, hj, rfl, hu, hb3⟩ := hrel
      have hSu := hu.isS
      have Hu := Lib.hid hu
      have hb23 := bthen hb2 hb3
      clear hu
      have hpl := nl_ten (pre_lt HF.out j)
      by_cases hlt : j < us.length
      · have c := rb_cell (Hr.out.below hb23) j hlt
        have g := HF.out.dig j hlt
        have hfg := fig_of (us := us) (i := j) hlt
        obtain ⟨d, hd⟩ : ∃ d, d = (us.getD j 0).toNat := ⟨_, rfl⟩
        rw [← hd] at c g hfg
        have Hfg := Lib.hid hfg
        clear hd hfg
        go_wp2_with fail
        refine (spSmall 10 wr (by decide)).mono ?_
        rintro _ w4 ⟨r4, rfl, h4, hb4⟩
        have H4 := Lib.hid h4
        clear h4
        go_wp2_with fail
        refine (spMul _ _ _ _ w4 (Hu.out.below hb4) H4.out (by omega) (by decide)).mono ?_
        rintro _ w5 ⟨r5, rfl, h5, hb5⟩
        have H5 := Lib.hid h5
        clear h5
        have e48 : (d : Int) - 48 = ((d - 48 : Nat) : Int) := by omega
        go_wp2_with fail
        refine (spSmall (d - 48) w5 (by omega)).mono ?_
        rintro _ w6 ⟨r6, rfl, h6, hb6⟩
        have H6 := Lib.hid h6
        clear h6
        go_wp2_with fail
        have hpl1 := nl_ten (n := pre us j * 10) (k := j + 1) (by have := pre_lt HF.out j; rw [Nat.pow_succ]; omega)
        have hpl2 := nl_le4 (n := d - 48) (by omega)
        refine (spAdd _ _ _ _ w6 (H5.out.below hb6) H6.out (by omega) (by omega)).mono ?_
        rintro _ w7 ⟨r7, rfl, h7, hb7⟩
        have H7 := Lib.hid h7
        clear h7
        go_wp2
        refine ⟨⟨j + 1, by omega, by go_num, ?_, bthen hb3 (bthen (bthen hb4 hb5) (bthen hb6 hb7))⟩, by simp [intOf]; omega⟩
        have := H7.out
        rw [← Hfg.out] at this
        exact this
      · have hjL : j = us.length := by omega
        subst hjL
        go_wp2_with fail
        refine (spPower 5 k wr (by decide) (by omega)).mono ?_
        rintro _ w4 ⟨r4, rfl, h4, hb4⟩
        have H4 := Lib.hid h4
        clear h4
        go_wp2_with fail
        have hn5 := nl_pow (b := 5) (n := k) (by decide)
        refine (spMul _ _ _ _ w4 (Hu.out.below hb4) H4.out (by omega) (by omega)).mono ?_
        rintro _ w5 ⟨r5, rfl, h5, hb5⟩
        have H5 := Lib.hid h5
        clear h5
        go_wp2_with fail
        have hn6 : nl (pre us us.length * 5 ^ k) ≤ us.length + k := by
          refine nl_ten ?_
          rw [Nat.pow_add]
          exact Nat.mul_lt_mul_of_lt_of_le (pre_lt HF.out _) (Nat.pow_le_pow_left (by decide) k) (Nat.pow_pos (by decide))
        have hdg := spDigits _ _ w5 H5.out (by omega)
        have hpp : 0 < pre us us.length * 5 ^ k := by
          refine Nat.mul_pos ?_ (Nat.pow_pos (by decide))
          refine Nat.lt_of_lt_of_le ?_ (pre_mono (us := us) (i := 1) (by omega))
          have h1 := HF.out.dig 0 hp
          have h2 : (us.getD 0 0).toNat ≠ 48 := fun hh => H0.out (UInt8.toNat_inj.1 hh)
          show 0 < pre us 0 * 10 + fig us 0
          rw [fig_of hp]; simp only [pre]; omega
        rw [if_neg (by omega)] at hdg
        have htl := dtx_len_nl (pre us us.length * 5 ^ k)
        have hM : shMant us k = cutz (dtx (pre us us.length * 5 ^ k)) := rfl
        have hE : shExp us k x = x - us.length - k + (dtx (pre us us.length * 5 ^ k)).length := rfl
        obtain ⟨t, ht⟩ : ∃ t, t = dtx (pre us us.length * 5 ^ k) := ⟨_, rfl⟩
        rw [← ht] at hdg htl hM hE
        rw [hM] at R2
        rw [hE]
        clear hM hE ht
        refine hdg.mono ?_
        rintro _ w6 ⟨rfl, hb6⟩
        obtain ⟨v7, w7, hc7, r7, hb7⟩ := conv_bytes (P := Try.prog) (src := 9) w6 t Try.underlying9 sliceB Try.underlying5
        have R7 := Lib.hid r7
        clear r7 hdg hpp
        go_wp2_with fail
        refine (cut_any v7 0 t w7 R7.out (by omega)).mono ?_
        rintro _ w8 ⟨_, rfl, v8, rfl, r8, hb8⟩
        have R8 := Lib.hid r8
        have hs8 := r8.isS
        have hb38 := bthen hb3 (bthen (bthen hb4 hb5) (bthen (bthen hb6 hb7) hb8))
        have cg := run_convert_S (dst := 9) (R2.out.below hb38) sliceB Try.underlying5 Try.underlying9
        have cm := run_convert_S (dst := 9) R8.out sliceB Try.underlying5 Try.underlying9
        have ecz : t.take (trIdx t t.length) = cutz t := rfl
        rw [ecz] at cm
        clear r8 ecz
        generalize cutz t = cz at cg cm R2
        go_wp2
        go_ret
        exact ⟨rfl, bthen hb2 hb38⟩
end Go.Proofs.Ytedmkbpfmddafaa
