/-
Texts of this proof, joined: KpD VvB VvL. No condition.
-/
import Derived.Test.YtgbmlaffilccnaaGreatDoorK03
import Derived.Test.YtgbmlaffilccnaaGreatDoorK05
import Derived.Test.YtgbmlaffilccnaaGreatDoorK18
/-
A number out of bytes: nat.setBytes. No condition.
-/
namespace Go.Proofs.YtgbmlaffilccnaaGreatDoor
open Go.RowKit

theorem RI.win {w : World} {v : Value} {n N p k : Nat} (h : RI .u8 w v (ints (bbs n N))) (hp : p + 8 * k = n) (h8 : 8 ≤ p) : RI .u8 w (subS v (p - 8) p) (ints (bbs 8 (wdg N k))) := by
  have h1 := h.sub (l := p - 8) (n := p) (by omega) (by rw [ints_length, bbs_length]; omega)
  have h2 := bbs_word (n := n) (N := N) (k := k) (by omega)
  rw [show n - 8 * k = p by omega] at h2
  rw [← h2]
  simpa [ints, List.map_take, List.map_drop] using h1
theorem RI.other {k : IntKind} {w : World} {v u : Value} {xs : List Int} {b i : Nat} (h : RI k w v xs) (hne : sBlk v ≠ b) : RI k (w.setCell ⟨b, i, none⟩ u) v xs :=
  ⟨h.isS, h.len, fun j hj => by rw [cell_other (by simpa using fun he => hne he.symm)]; exact h.cell j hj⟩
theorem RI.part {w : World} {v : Value} {bs cs : List Nat} {l n : Nat} (h : RI .u8 w v (ints bs)) (h1 : l ≤ n) (h2 : n ≤ bs.length) (hc : (bs.take n).drop l = cs) : RI .u8 w (subS v l n) (ints cs) := by
  have := h.sub h1 (by rw [ints_length]; exact h2)
  rw [← hc]
  simpa [ints, List.map_take, List.map_drop] using this
theorem part_word {N n k p : Nat} (hN : N < 256 ^ n) (hp : p + 8 * k = n) (h8 : p < 8) : wdg N k < 256 ^ p ∧ N < 18446744073709551616 ^ (k + 1) := by
  have h1 : N < 18446744073709551616 ^ k * 256 ^ p := by rw [word_256, ← Nat.pow_add, show 8 * k + p = n by omega]; exact hN
  have h2 : N / 18446744073709551616 ^ k < 256 ^ p := Nat.div_lt_of_lt_mul h1
  refine ⟨Nat.lt_of_le_of_lt (Nat.mod_le _ _) h2, ?_⟩
  rw [word_256]
  exact Nat.lt_of_lt_of_le hN (Nat.pow_le_pow_right (by decide) (by omega))
theorem byte_or {D d b j s S : Nat} (hj : j < 8) (hd : d = D % 256 ^ j) (hb : b = byt D j) (hD : D < 18446744073709551616) (hs : s = 8 * j) (hS : S = 256 ^ j) :
    (2 : Int) ^ s = (S : Int) ∧ IntKind.u64.wrap ((b : Int) * (S : Int)) = ((b * S : Nat) : Int) ∧ bits .or .u64 (d : Int) ((b * S : Nat) : Int) = ((D % 256 ^ (j + 1) : Nat) : Int) ∧ b * S < 18446744073709551616 := by
  have hb2 : b < 256 := by rw [hb]; exact byt_lt _ _
  have e1 : S = 2 ^ s := by rw [hS, hs, Nat.pow_mul]
  have h1 : D % 256 ^ (j + 1) = d + b * S := by rw [byt_step, hd, hb, hS]
  have hlt : b * S < 18446744073709551616 := by
    have h2 : b * S ≤ 255 * 256 ^ j := by rw [hS]; exact Nat.mul_le_mul_right _ (by omega)
    have h3 : 256 ^ j ≤ 256 ^ 7 := Nat.pow_le_pow_right (by decide) (by omega)
    have h4 : (256 : Nat) ^ 7 = 72057594037927936 := by decide
    omega
  have hdl : d < 2 ^ s := by rw [hd, hs, Nat.pow_mul]; exact Nat.mod_lt _ (Nat.pow_pos (by decide))
  have hd6 : d < 18446744073709551616 := by rw [hd]; exact Nat.lt_of_le_of_lt (Nat.mod_le _ _) hD
  refine ⟨by rw [e1]; push_cast; rfl, ?_, ?_, hlt⟩
  · rw [IntKind.wrap_u64, ← Int.natCast_mul]; omega
  · rw [u64_or_nat _ _ hd6 hlt, e1, or_byte hdl, h1, e1]
set_option maxRecDepth 100000 in
set_option maxHeartbeats 3200000 in
theorem setBytes_nil (buf : Value) (n N : Nat) (w : World) (hb : RI .u8 w buf (ints (bbs n N))) (hN : N < 256 ^ n) (hn : n ≤ 10000000) :
    Calls Tryz.prog 46 #[.slice none 0 0, buf] w fun e w' => ∃ r, e = .returned r ∧ Own w' w.heap.size 116 r (cellsW (wds N)) ∧ Below w.heap.size w w' := by
  have hS := hb.isS
  have hL : sLen buf = n := by rw [hb.len, ints_length, bbs_length]
  have hC := hS.le
  obtain ⟨m, hm⟩ : ∃ m, m = (n + 7) / 8 := ⟨_, rfl⟩
  have e1 : ((n : Int) + 8 - 1) / 8 = (m : Int) := by omega
  have e2 : ((n : Int) + 7) / 8 = (m : Int) := by omega
  have hmb : m ≤ 10000000 := by omega
  have HB := Lib.hid hb
  have HN := Lib.hid hN
  have HM := Lib.hid hm
  clear hb hN hm
  go_enter Tryz.func46, Tryz.ntmps46
  go_wp2_with fail
  refine (make_nil m w (by omega)).mono ?_
  rintro _ w1 ⟨v, rfl, ho, hb1, hcv⟩
  have hSv := ho.isS
  have hLv : sLen v = m := by rw [ho.len, List.length_replicate]
  have R0 := Lib.hid (Vv.start (n := m) ho (by simp))
  have HB1 := Lib.hid (HB.out.below hb1)
  have Hb1 := Lib.hid hb1
  have HCV := Lib.hid (fun h => (ho.lt (hcv h)).1)
  have HCC := Lib.hid hcv
  clear ho hb1 hcv e1 e2
  go_wp2
  go_loopw [5, 6] (fun i k wr => ∃ k' p : Nat, p + 8 * k' = n ∧ i = .int .i64 p ∧ k = .int .i64 k' ∧ Vv v m w.heap.size k' (N % 18446744073709551616 ^ k') w1 wr) (fun i _ _ => (intOf i).toNat)
  case atStart => exact ⟨0, n, by omega, rfl, rfl, by rw [Nat.pow_zero, Nat.mod_one]; exact R0.out⟩
  case round =>
    obtain ⟨k, p, hp, rfl, rfl, hV⟩ := hrel
    have hbw : Below w.heap.size w1 wr := by obtain ⟨_, _, _, _, _, _, _, _, h, _⟩ := hV; exact h
    by_cases h8 : 8 ≤ p
    · have t1 : decide (8 ≤ p) = true := decide_eq_true h8
      have hkm : k < m := by have := HM.out; omega
      have hcap := HCC.out (show 0 < m by omega)
      have hBv := HCV.out (show 0 < m by omega)
      have hwin := ((HB.out.below (Hb1.out.trans hbw))).win hp h8
      obtain ⟨q, rfl⟩ : ∃ q, p = q + 8 := ⟨p - 8, by omega⟩
      rw [show q + 8 - 8 = q by omega] at hwin
      have hSw := hwin.isS
      have HW := Lib.hid (beWord_any _ _ wr hwin (wdg_lt _ _))
      have hput := fun j => (hV.drewN (k := j)).put hkm hBv (wdg_lt N k)
      rw [← wmod_succ] at hput
      have HP := Lib.hid hput
      obtain ⟨D, hD⟩ : ∃ D, D = wdg N k := ⟨_, rfl⟩
      rw [← hD] at HW HP
      obtain ⟨u, cu⟩ := hV.own hkm
      have fz := hV.frozen hcap (sOff v + k)
      have hkl : k < sLen v := by omega
      clear hV hwin hput hD hbw
      go_wp2_with fail
      refine HW.out.mono ?_
      rintro _ _ ⟨rfl, j, rfl⟩
      have cu' : (wr.drewN j).cell? ⟨sBlk v, sOff v + k, none⟩ = some u := cu
      have fz' : (wr.drewN j).frozen? ⟨sBlk v, sOff v + k, none⟩ = false := fz
      go_wp2
      go_roundw
      case rel => exact ⟨k + 1, q, by omega, by go_num, by go_num, HP.out j⟩
      case measure => simp [intOf]; omega
    · have t1 : decide (8 ≤ p) = false := decide_eq_false h8
      have hp8 : p < 8 := by omega
      have HV := Lib.hid hV
      have HR := Lib.hid (HB.out.below (Hb1.out.trans hbw))
      have hfin : Hid (∀ wf, Vv v m w.heap.size m N w1 wf → Calls Tryz.prog 77 #[v] wf fun e w' => e = .returned (subS v 0 (nw N)) ∧ wf = w' ∧ Own wf w.heap.size 116 (subS v 0 (nw N)) (cellsW (wds N)) ∧ Below w.heap.size w wf) := Lib.hid (fun wf hv => by
        have hlt : N < 18446744073709551616 ^ m := by rw [word_256]; exact Nat.lt_of_lt_of_le HN.out (Nat.pow_le_pow_right (by decide) (by have := HM.out; omega))
        obtain ⟨g1, g2, g3⟩ := hv.done 0 (Y := N) (by rw [Nat.mul_zero, Nat.add_zero])
        have hnum : wv (wdsN N m) = N := by rw [wdsN_wv, Nat.mod_eq_of_lt hlt]
        have hNm := norm_any v _ _ (g1.rw' wdsN_lt) (by rw [wdsN_length]; omega)
        have hT := g1.takeW wdsN_lt
        rw [hnum] at hNm hT
        exact hNm.mono (fun e w' h => ⟨h.1, h.2, hT, Hb1.out.trans g2⟩))
      clear hV hbw
      by_cases hp0 : p = 0
      · subst hp0
        have hkm : k = m := by have := HM.out; omega
        have hV2 := HV.out
        rw [hkm, Nat.mod_eq_of_lt (by rw [word_256]; exact Nat.lt_of_lt_of_le HN.out (Nat.pow_le_pow_right (by decide) (by omega)))] at hV2
        have HF := Lib.hid (hfin.out wr hV2)
        clear hV2 hkm
        go_wp2_with fail
        refine HF.out.mono ?_
        rintro _ _ ⟨rfl, rfl, ho, hbf⟩
        have Q := Lib.hid (And.intro ho hbf)
        have hSq := ho.isS
        clear ho hbf
        go_wp2
        go_ret
        exact ⟨_, rfl, Q.out⟩
      · have t2 : decide (0 < p) = true := decide_eq_true (by omega)
        have hkm : m = k + 1 := by have := HM.out; omega
        obtain ⟨hD1, hN1⟩ := part_word HN.out hp hp8
        obtain ⟨D, hD⟩ : ∃ D, D = wdg N k := ⟨_, rfl⟩
        have hDl := wdg_lt N k
        rw [← hD] at hD1 hDl
        have HD := Lib.hid hD
        have HD1 := Lib.hid hD1
        have HN1 := Lib.hid hN1
        have hSlen : 0 < sCap v := HCC.out (by omega)
        clear hD hD1 hN1
        go_wp2
        go_loopw [5, 7, 8] (fun i d s wx => ∃ j q d' s' : Nat, q + j = p ∧ i = .int .i64 q ∧ d = .int .u64 d' ∧ s = .int .u64 s' ∧ d' = D % 256 ^ j ∧ s' = 8 * j ∧ wx = wr) (fun i _ _ _ => (intOf i).toNat)
        case atStart => exact ⟨0, p, 0, 0, rfl, rfl, rfl, rfl, by rw [Nat.pow_zero, Nat.mod_one], rfl, rfl⟩
        case round =>
          obtain ⟨j, q, d', s', hq, rfl, rfl, rfl, hd, hs, hwx⟩ := hrel
          subst hwx
          by_cases hq0 : q = 0
          · subst hq0
            have hjp : j = p := by omega
            have hdD : d' = D := by rw [hd, hjp]; exact Nat.mod_eq_of_lt HD1.out
            subst hdD
            have t3 : decide ((0 : Nat) < 0) = false := by decide
            have hBv := HCV.out (show 0 < m by omega)
            have hput := HV.out.put (show k < m by omega) hBv (wdg_lt N k)
            rw [← wmod_succ, Nat.mod_eq_of_lt HN1.out, ← hkm, ← HD.out] at hput
            have HF := Lib.hid (hfin.out _ hput)
            obtain ⟨u, cu⟩ := HV.out.own (show k < m by omega)
            have fz := HV.out.frozen hSlen (sOff v + k)
            have e5 : (m : Int) - 1 = (k : Int) := by omega
            have e6 : sLen v = k + 1 := by omega
            clear hput hd hs hjp
            go_wp2_with fail
            refine HF.out.mono ?_
            rintro _ _ ⟨rfl, rfl, ho, hbf⟩
            have Q := Lib.hid (And.intro ho hbf)
            have hSq := ho.isS
            clear ho hbf
            go_wp2
            go_ret
            exact ⟨_, rfl, Q.out⟩
          · obtain ⟨q, rfl⟩ : ∃ r, q = r + 1 := ⟨q - 1, by omega⟩
            have t3 : decide (0 < q + 1) = true := by simp
            have c0 := HR.out.cellB (i := q) (by rw [bbs_length]; omega)
            rw [bbs_getD (by omega), show n - 1 - q = 8 * k + j by omega, ← byt_word N k (show j < 8 by omega), ← HD.out] at c0
            obtain ⟨b, hb⟩ : ∃ b, b = byt D j := ⟨_, rfl⟩
            rw [← hb] at c0
            obtain ⟨S, hSS⟩ : ∃ S, S = 256 ^ j := ⟨_, rfl⟩
            obtain ⟨g1, g2, g3, g4⟩ := byte_or (show j < 8 by omega) hd hb hDl hs hSS
            obtain ⟨E, hE⟩ : ∃ E, E = D % 256 ^ (j + 1) := ⟨_, rfl⟩
            rw [← hE] at g3
            obtain ⟨P, hP⟩ : ∃ P, P = b * S := ⟨_, rfl⟩
            rw [← hP] at g2 g3 g4
            have hb8 := byt_lt D j
            rw [← hb] at hb8
            have hs8 : s' < 64 := by omega
            have hqL : q < sLen buf := by omega
            have Hs := Lib.hid hs
            have HE := Lib.hid hE
            clear hd hs hb hSS hE hP
            go_wp2
            go_roundw
            case rel => exact ⟨j + 1, q, E, s' + 8, by omega, by go_num, by go_num, by go_num, HE.out, by have := Hs.out; omega, by first | trivial | rfl⟩
            case measure => simp [intOf]
end Go.Proofs.YtgbmlaffilccnaaGreatDoor

/-
addVV and subVV, whatever of their operands lies where the result goes. No condition.
-/
namespace Go.Proofs.YtgbmlaffilccnaaGreatDoor
open Go.RowKit

set_option maxRecDepth 100000 in
theorem bitsAddC (x y c s d : Nat) (w : World) (hc : c ≤ 1) (h : x + y + c = s + 18446744073709551616 * d) (hs : s < 18446744073709551616) :
    Calls Tryz.prog 108 #[.int .u64 x, .int .u64 y, .int .u64 c] w fun e w' => e = .returned (.tuple #[.int .u64 s, .int .u64 d]) ∧ w' = w := by
  have h1 : ((x : Int) + y + c) % 18446744073709551616 = s := by omega
  have h2 : ((x : Int) + y + c) / 18446744073709551616 = d := by omega
  have g1 : (0 : Int) ≤ x := by omega
  have g2 : (0 : Int) ≤ y := by omega
  have g3 : (0 : Int) ≤ c := by omega
  have g4 : (c : Int) ≤ 1 := by omega
  clear h hs
  go_enter Tryz.func108, Tryz.ntmps108
  go_wp2_with (simp only [add64 x y c g1 g2 g3 g4, h1, h2])
  go_ret2
  exact ⟨rfl, rfl⟩
/-- The rule of the carries, taken from the model's own list. -/
def subEntry : Array Value → Sem Value := (Extern.MathBitsCarry.rows[1]!).2
theorem run_sub64 {P : Program} (x y c d b : Nat) (hc : c ≤ 1) (hb : b ≤ 1) (h : x + 18446744073709551616 * b = d + y + c) (hx : x < 18446744073709551616) (hy : y < 18446744073709551616) (hd : d < 18446744073709551616) (w : World) :
    (subEntry #[.int .u64 x, .int .u64 y, .int .u64 c]).run P w = .ok (.tuple #[.int .u64 d, .int .u64 b]) w := by
  have key : (subEntry #[.int .u64 (x : Int), .int .u64 (y : Int), .int .u64 (c : Int)]).run P w = .ok (Extern.MathBitsCarry.pair ((x + Extern.MathBitsCarry.m64 - y - c) % Extern.MathBitsCarry.m64) (if x < y + c then 1 else 0)) w := by
    rcases (by omega : c = 0 ∨ c = 1) with rfl | rfl <;> rfl
  rw [key]
  have e1 : (x + Extern.MathBitsCarry.m64 - y - c) % Extern.MathBitsCarry.m64 = d := by
    have : Extern.MathBitsCarry.m64 = 18446744073709551616 := by decide
    rw [this]; omega
  have e2 : (if x < y + c then 1 else 0) = b := by split <;> omega
  rw [e1, e2]; rfl
theorem sub64 (x y c d b : Nat) (hc : c ≤ 1) (hb : b ≤ 1) (h : x + 18446744073709551616 * b = d + y + c) (hx : x < 18446744073709551616) (hy : y < 18446744073709551616) (hd : d < 18446744073709551616) (w : World) :
    (callFunc 121 #[.int .u64 x, .int .u64 y, .int .u64 c]).run Tryz.prog w = .ok (.value (.tuple #[.int .u64 d, .int .u64 b])) w := by
  rw [run_callFunc_extern Tryz.func121 (by kernel_rfl) (by kernel_rfl) (by kernel_rfl) (e := subEntry) (by kernel_rfl), run_sub64 x y c d b hc hb h hx hy hd]
  simp [Result.andThen]
set_option maxRecDepth 100000 in
theorem bitsSubC (x y c d b : Nat) (w : World) (hc : c ≤ 1) (hb : b ≤ 1) (h : x + 18446744073709551616 * b = d + y + c) (hx : x < 18446744073709551616) (hy : y < 18446744073709551616) (hd : d < 18446744073709551616) :
    Calls Tryz.prog 115 #[.int .u64 x, .int .u64 y, .int .u64 c] w fun e w' => e = .returned (.tuple #[.int .u64 d, .int .u64 b]) ∧ w' = w := by
  have H := sub64 x y c d b hc hb h hx hy hd
  clear h hx hy hd hc hb
  go_enter Tryz.func115, Tryz.ntmps115
  go_wp2_with (simp only [H])
  go_ret2
  exact ⟨rfl, rfl⟩
theorem wv_take_succ' {ws : List Nat} {i : Nat} (h : i < ws.length) : wv (ws.take (i + 1)) = wv (ws.take i) + 18446744073709551616 ^ i * ws.getD i 0 := wv_take_succ h
set_option maxRecDepth 100000 in
set_option maxHeartbeats 1600000 in
theorem addVV_g_any (v x y : Value) (os : List Value) (xs ys : List Nat) (B : Nat) (w : World) (ho : Own w B 116 v os) (hx : RW w x xs) (hy : RW w y ys) (hlx : xs.length = os.length) (hly : ys.length = os.length)
    (hax : sBlk x = sBlk v → sOff v ≤ sOff x) (hay : sBlk y = sBlk v → sOff v ≤ sOff y) (hl : os.length ≤ 1000000000) :
    Calls Tryz.prog 113 #[v, x, y] w fun e w' => ∃ c : Nat, e = .returned (.int .u64 c) ∧ (c ≤ 1 ∧ wv xs + wv ys = wv (wdsN (wv xs + wv ys) os.length) + 18446744073709551616 ^ os.length * c) ∧ VvP v os.length B (wv xs + wv ys) w w' := by
  have hS := ho.isS
  have hSx := hx.isS
  have hSy := hy.isS
  obtain ⟨L, hLw⟩ : ∃ L, L = os.length := ⟨_, rfl⟩
  have hL : sLen v = L := by rw [hLw]; exact ho.len
  have hLx : sLen x = L := by rw [hx.len, hlx, hLw]
  have hLy : sLen y = L := by rw [hy.len, hly, hLw]
  have R0 := Lib.hid (Vv.start ho hLw.symm)
  have HB0 : Hid (0 < L → 0 < sCap v ∧ B ≤ sBlk v) := Lib.hid (fun h => by
    have := hS.le
    have hc : 0 < sCap v := by omega
    exact ⟨hc, (ho.lt hc).1⟩)
  have HXL : Hid (xs.length = L) := Lib.hid (by omega)
  have HYL : Hid (ys.length = L) := Lib.hid (by omega)
  rw [← hLw] at hl ⊢
  have HX := Lib.hid hx
  have HY := Lib.hid hy
  have HAX := Lib.hid hax
  have HAY := Lib.hid hay
  clear ho hLw hx hy hlx hly hax hay
  go_enter Tryz.func113, Tryz.ntmps113
  go_wp2
  go_loopw [6, 25] (fun c i wr => ∃ k d Z : Nat, k ≤ L ∧ i = .int .i64 k ∧ c = .int .u64 d ∧ (d ≤ 1 ∧ wv (xs.take k) + wv (ys.take k) = Z + 18446744073709551616 ^ k * d) ∧ Vv v L B k Z w wr) (fun c i _ => L - (intOf i).toNat)
  case atStart => exact ⟨0, 0, 0, Nat.zero_le _, rfl, rfl, ⟨by omega, by simp [wv]⟩, R0.out⟩
  case round =>
    obtain ⟨k, d, Z, hk, rfl, rfl, ⟨hd, hZ⟩, hrel⟩ := hrel
    have HREL := Lib.hid hrel
    by_cases hkL : k < L
    · obtain ⟨hcap, hB⟩ := HB0.out (by omega)
      have cx := hrel.src HX.out HAX.out (Nat.le_refl k) (by rw [HXL.out]; exact hkL)
      have cy := hrel.src HY.out HAY.out (Nat.le_refl k) (by rw [HYL.out]; exact hkL)
      obtain ⟨u, cv⟩ := hrel.own hkL
      have fz := hrel.frozen hcap (sOff v + k)
      have hxl := getD_ltW HX.out.lt k
      have hyl := getD_ltW HY.out.lt k
      have e1 := wv_take_succ (ws := xs) (i := k) (by rw [HXL.out]; exact hkL)
      have e2 := wv_take_succ (ws := ys) (i := k) (by rw [HYL.out]; exact hkL)
      obtain ⟨a, ha⟩ : ∃ a, a = xs.getD k 0 := ⟨_, rfl⟩
      obtain ⟨b, hb⟩ : ∃ b, b = ys.getD k 0 := ⟨_, rfl⟩
      rw [← ha] at cx hxl e1
      rw [← hb] at cy hyl e2
      obtain ⟨s, c, hsc, hs, hc1⟩ : ∃ s c, a + b + d = s + 18446744073709551616 * c ∧ s < 18446744073709551616 ∧ c ≤ 1 := ⟨(a + b + d) % 18446744073709551616, (a + b + d) / 18446744073709551616, by omega, by omega, by omega⟩
      have HA : Hid (∀ n, Calls Tryz.prog 108 #[.int .u64 a, .int .u64 b, .int .u64 d] (wr.drewN n) fun e w' => e = .returned (.tuple #[.int .u64 s, .int .u64 c]) ∧ w' = wr.drewN n) := Lib.hid (fun n => bitsAddC a b d s c _ hd hsc hs)
      have HZ : Hid (wv (xs.take (k + 1)) + wv (ys.take (k + 1)) = Z + 18446744073709551616 ^ k * s + 18446744073709551616 ^ (k + 1) * c) := Lib.hid (by
        rw [e1, e2, Nat.pow_succ, Nat.mul_assoc]
        have h1 : 18446744073709551616 ^ k * (a + b + d) = 18446744073709551616 ^ k * s + 18446744073709551616 ^ k * (18446744073709551616 * c) := by rw [hsc, Nat.mul_add]
        rw [Nat.mul_add, Nat.mul_add] at h1
        omega)
      have PUT := Lib.hid (fun n => (HREL.out.drewN (k := n)).put hkL hB hs)
      clear hrel e1 e2 ha hb hZ hsc
      go_wp2_with fail
      go_quiet ((go_at_call 108; exact Calls.quiet_of_same (HA.out _)))
      go_wp2
      exact ⟨⟨k + 1, c, _, by omega, by go_num, rfl, ⟨hc1, HZ.out⟩, PUT.out nq⟩, by simp [intOf]; omega⟩
    · have hkk : k = L := by omega
      have HD : Hid ((d ≤ 1 ∧ wv xs + wv ys = wv (wdsN (wv xs + wv ys) L) + 18446744073709551616 ^ L * d) ∧ VvP v L B (wv xs + wv ys) w wr) := Lib.hid (by
        subst hkk
        rw [List.take_of_length_le (by rw [HXL.out]; exact Nat.le_refl _), List.take_of_length_le (by rw [HYL.out]; exact Nat.le_refl _)] at hZ
        have hZl : Z < 18446744073709551616 ^ k := by
          obtain ⟨os', ds, g1, g2, g3, g4, g5, g6, g7, g8⟩ := hrel
          have := wv_lt g5
          rw [g4] at this; omega
        refine ⟨⟨hd, ?_⟩, hrel.done d hZ⟩
        rw [wdsN_wv, hZ, Nat.add_mul_mod_self_left, Nat.mod_eq_of_lt hZl])
      clear hrel hZ HREL
      go_wp2
      go_ret
      exact ⟨d, rfl, HD.out⟩
set_option maxRecDepth 100000 in
theorem addVV_any (v x y : Value) (os : List Value) (xs ys : List Nat) (B : Nat) (w : World) (ho : Own w B 116 v os) (hx : RW w x xs) (hy : RW w y ys) (hlx : xs.length = os.length) (hly : ys.length = os.length)
    (hax : sBlk x = sBlk v → sOff v ≤ sOff x) (hay : sBlk y = sBlk v → sOff v ≤ sOff y) (hl : os.length ≤ 1000000000) :
    Calls Tryz.prog 102 #[v, x, y] w fun e w' => ∃ c : Nat, e = .returned (.int .u64 c) ∧ (c ≤ 1 ∧ wv xs + wv ys = wv (wdsN (wv xs + wv ys) os.length) + 18446744073709551616 ^ os.length * c) ∧ VvP v os.length B (wv xs + wv ys) w w' := by
  have hS := ho.isS
  have hSx := hx.isS
  have hSy := hy.isS
  have H := Lib.hid (addVV_g_any v x y os xs ys B w ho hx hy hlx hly hax hay hl)
  clear ho hx hy hlx hly hax hay hl
  go_enter Tryz.func102, Tryz.ntmps102
  go_wp2_with fail
  refine H.out.mono ?_
  rintro _ w1 ⟨c, rfl, h1, h2⟩
  have H1 := Lib.hid (And.intro h1 h2)
  clear h1 h2
  go_wp2
  go_ret
  exact ⟨c, rfl, H1.out⟩
/-- A difference with its borrow. -/
def sbN (X Y n c : Nat) : Nat := X + 18446744073709551616 ^ n * c - Y
set_option maxRecDepth 100000 in
set_option maxHeartbeats 1600000 in
theorem subVV_g_any (v x y : Value) (os : List Value) (xs ys : List Nat) (B : Nat) (w : World) (ho : Own w B 116 v os) (hx : RW w x xs) (hy : RW w y ys) (hlx : xs.length = os.length) (hly : ys.length = os.length)
    (hax : sBlk x = sBlk v → sOff v ≤ sOff x) (hay : sBlk y = sBlk v → sOff v ≤ sOff y) (hl : os.length ≤ 1000000000) :
    Calls Tryz.prog 114 #[v, x, y] w fun e w' => ∃ c : Nat, e = .returned (.int .u64 c) ∧ (∃ Z, c ≤ 1 ∧ Z < 18446744073709551616 ^ os.length ∧ wv xs + 18446744073709551616 ^ os.length * c = Z + wv ys ∧ VvP v os.length B Z w w') := by
  have hS := ho.isS
  have hSx := hx.isS
  have hSy := hy.isS
  obtain ⟨L, hLw⟩ : ∃ L, L = os.length := ⟨_, rfl⟩
  have hL : sLen v = L := by rw [hLw]; exact ho.len
  have hLx : sLen x = L := by rw [hx.len, hlx, hLw]
  have hLy : sLen y = L := by rw [hy.len, hly, hLw]
  have R0 := Lib.hid (Vv.start ho hLw.symm)
  have HB0 : Hid (0 < L → 0 < sCap v ∧ B ≤ sBlk v) := Lib.hid (fun h => by
    have := hS.le
    have hc : 0 < sCap v := by omega
    exact ⟨hc, (ho.lt hc).1⟩)
  have HXL : Hid (xs.length = L) := Lib.hid (by omega)
  have HYL : Hid (ys.length = L) := Lib.hid (by omega)
  rw [← hLw] at hl ⊢
  have HX := Lib.hid hx
  have HY := Lib.hid hy
  have HAX := Lib.hid hax
  have HAY := Lib.hid hay
  clear ho hLw hx hy hlx hly hax hay
  go_enter Tryz.func114, Tryz.ntmps114
  go_wp2
  go_loopw [6, 25] (fun c i wr => ∃ k d Z : Nat, k ≤ L ∧ i = .int .i64 k ∧ c = .int .u64 d ∧ (d ≤ 1 ∧ wv (xs.take k) + 18446744073709551616 ^ k * d = Z + wv (ys.take k)) ∧ Vv v L B k Z w wr) (fun c i _ => L - (intOf i).toNat)
  case atStart => exact ⟨0, 0, 0, Nat.zero_le _, rfl, rfl, ⟨by omega, by simp [wv]⟩, R0.out⟩
  case round =>
    obtain ⟨k, d, Z, hk, rfl, rfl, ⟨hd, hZ⟩, hrel⟩ := hrel
    have HREL := Lib.hid hrel
    by_cases hkL : k < L
    · obtain ⟨hcap, hB⟩ := HB0.out (by omega)
      have cx := hrel.src HX.out HAX.out (Nat.le_refl k) (by rw [HXL.out]; exact hkL)
      have cy := hrel.src HY.out HAY.out (Nat.le_refl k) (by rw [HYL.out]; exact hkL)
      obtain ⟨u, cv⟩ := hrel.own hkL
      have fz := hrel.frozen hcap (sOff v + k)
      have hxl := getD_ltW HX.out.lt k
      have hyl := getD_ltW HY.out.lt k
      have e1 := wv_take_succ (ws := xs) (i := k) (by rw [HXL.out]; exact hkL)
      have e2 := wv_take_succ (ws := ys) (i := k) (by rw [HYL.out]; exact hkL)
      obtain ⟨a, ha⟩ : ∃ a, a = xs.getD k 0 := ⟨_, rfl⟩
      obtain ⟨b, hb⟩ : ∃ b, b = ys.getD k 0 := ⟨_, rfl⟩
      rw [← ha] at cx hxl e1
      rw [← hb] at cy hyl e2
      obtain ⟨s, c, hsc, hs, hc1⟩ : ∃ s c, a + 18446744073709551616 * c = s + b + d ∧ s < 18446744073709551616 ∧ c ≤ 1 := by
        by_cases h : a < b + d
        · exact ⟨a + 18446744073709551616 - b - d, 1, by omega, by omega, by omega⟩
        · exact ⟨a - b - d, 0, by omega, by omega, by omega⟩
      have HA : Hid (∀ n, Calls Tryz.prog 115 #[.int .u64 a, .int .u64 b, .int .u64 d] (wr.drewN n) fun e w' => e = .returned (.tuple #[.int .u64 s, .int .u64 c]) ∧ w' = wr.drewN n) := Lib.hid (fun n => bitsSubC a b d s c _ hd hc1 hsc hxl hyl hs)
      have HZ : Hid (wv (xs.take (k + 1)) + 18446744073709551616 ^ (k + 1) * c = Z + 18446744073709551616 ^ k * s + wv (ys.take (k + 1))) := Lib.hid (by
        rw [e1, e2, Nat.pow_succ, Nat.mul_assoc]
        have h1 : 18446744073709551616 ^ k * (a + 18446744073709551616 * c) = 18446744073709551616 ^ k * (s + b + d) := by rw [hsc]
        rw [Nat.mul_add, Nat.mul_add, Nat.mul_add] at h1
        omega)
      have PUT := Lib.hid (fun n => (HREL.out.drewN (k := n)).put hkL hB hs)
      clear hrel e1 e2 ha hb hZ hsc
      go_wp2_with fail
      go_quiet ((go_at_call 115; exact Calls.quiet_of_same (HA.out _)))
      go_wp2
      exact ⟨⟨k + 1, c, _, by omega, by go_num, rfl, ⟨hc1, HZ.out⟩, PUT.out nq⟩, by simp [intOf]; omega⟩
    · have hkk : k = L := by omega
      have HD : Hid (∃ Z, d ≤ 1 ∧ Z < 18446744073709551616 ^ L ∧ wv xs + 18446744073709551616 ^ L * d = Z + wv ys ∧ VvP v L B Z w wr) := Lib.hid (by
        subst hkk
        rw [List.take_of_length_le (by rw [HXL.out]; exact Nat.le_refl _), List.take_of_length_le (by rw [HYL.out]; exact Nat.le_refl _)] at hZ
        have hZl : Z < 18446744073709551616 ^ k := by
          obtain ⟨os', ds, g1, g2, g3, g4, g5, g6, g7, g8⟩ := hrel
          have := wv_lt g5
          rw [g4] at this; omega
        exact ⟨Z, hd, hZl, hZ, hrel.done 0 (by omega)⟩)
      clear hrel hZ HREL
      go_wp2
      go_ret
      exact ⟨d, rfl, HD.out⟩
set_option maxRecDepth 100000 in
theorem subVV_any (v x y : Value) (os : List Value) (xs ys : List Nat) (B : Nat) (w : World) (ho : Own w B 116 v os) (hx : RW w x xs) (hy : RW w y ys) (hlx : xs.length = os.length) (hly : ys.length = os.length)
    (hax : sBlk x = sBlk v → sOff v ≤ sOff x) (hay : sBlk y = sBlk v → sOff v ≤ sOff y) (hl : os.length ≤ 1000000000) :
    Calls Tryz.prog 103 #[v, x, y] w fun e w' => ∃ c : Nat, e = .returned (.int .u64 c) ∧ (∃ Z, c ≤ 1 ∧ Z < 18446744073709551616 ^ os.length ∧ wv xs + 18446744073709551616 ^ os.length * c = Z + wv ys ∧ VvP v os.length B Z w w') := by
  have hS := ho.isS
  have hSx := hx.isS
  have hSy := hy.isS
  have H := Lib.hid (subVV_g_any v x y os xs ys B w ho hx hy hlx hly hax hay hl)
  clear ho hx hy hlx hly hax hay hl
  go_enter Tryz.func103, Tryz.ntmps103
  go_wp2_with fail
  refine H.out.mono ?_
  rintro _ w1 ⟨c, rfl, h1⟩
  have H1 := Lib.hid h1
  clear h1
  go_wp2
  go_ret
  exact ⟨c, rfl, H1.out⟩
end Go.Proofs.YtgbmlaffilccnaaGreatDoor

/-
lshVU: a number's words are shifted to the left, in place or from elsewhere; lsh into a new slice. No condition.
-/
namespace Go.Proofs.YtgbmlaffilccnaaGreatDoor
open Go.RowKit

/-- The words from place k on are Y's. -/
def Vd (v : Value) (n B k Y : Nat) (w wr : World) : Prop :=
  ∃ os : List Value, Own wr B 116 v os ∧ os.length = n ∧ (∀ j, k ≤ j → j < n → os[j]? = some (.int .u64 ((wdg Y j : Nat) : Int))) ∧ Below B w wr ∧ FrB (sBlk v) (sOff v + k) (sOff v + n) w wr
theorem Vd.start {v : Value} {B Y n : Nat} {os : List Value} {w : World} (h : Own w B 116 v os) (hn : os.length = n) : Vd v n B n Y w w :=
  ⟨os, h, hn, fun j h1 h2 => by omega, Below.refl _ _, FrB.refl _ _ _ _⟩
theorem Vd.put {v : Value} {n B k Y : Nat} {w wr : World} (h : Vd v n B (k + 1) Y w wr) (hk : k < n) (hc : B ≤ sBlk v) {y : Nat} (hy : y = wdg Y k) : Vd v n B k Y w (wr.setCell ⟨sBlk v, sOff v + k, none⟩ (.int .u64 (y : Int))) := by
  obtain ⟨os, h1, h2, h4, h5, h6⟩ := h
  have ho := h1.set (i := k) (by omega) (.int .u64 (y : Int))
  refine ⟨os.set k (.int .u64 (y : Int)), ho, by simpa using h2, fun j hj hjn => ?_, bset h5 hc, (h6.mono (by omega) (Nat.le_refl _)).set (Nat.le_refl _) (by omega) _⟩
  rw [List.getElem?_set]
  split
  · rename_i e; subst e; rw [if_pos (by omega), hy]
  · exact h4 j (by omega) hjn
theorem Vd.drewN {v : Value} {n B i Y k : Nat} {w wr : World} (h : Vd v n B i Y w wr) : Vd v n B i Y w (wr.drewN k) := by
  obtain ⟨os, h1, h2, h4, h5, h6⟩ := h
  exact ⟨os, h1.drewN _, h2, h4, undrewN' h5, h6.drewN⟩
theorem Vd.done {v : Value} {n B Y : Nat} {w wr : World} (h : Vd v n B 0 Y w wr) : VvP v n B Y w wr := by
  obtain ⟨os, h1, h2, h4, h5, h6⟩ := h
  have e : os = cellsW (wdsN Y n) := by
    apply List.ext_getElem?
    intro i
    by_cases hi : i < n
    · rw [h4 i (Nat.zero_le _) hi, cellsW, List.getElem?_map, wdsN, List.getElem?_map, List.getElem?_range hi]; rfl
    · rw [List.getElem?_eq_none (by omega), List.getElem?_eq_none (by rw [cellsW_length, wdsN_length]; omega)]
  rw [VvP, ← e]
  exact ⟨h1, h5, h6⟩
theorem Vd.src {v x : Value} {n B k Y : Nat} {xs : List Nat} {w wr : World} (h : Vd v n B k Y w wr) (hx : RW w x xs) (hal : sBlk x = sBlk v → sOff x ≤ sOff v) {j : Nat} (hij : j < k) (hj : j < xs.length) : wr.cell? ⟨sBlk x, sOff x + j, none⟩ = some (.int .u64 ((xs.getD j 0 : Nat) : Int)) := by
  obtain ⟨os, h1, h2, h4, h5, h6⟩ := h
  exact h6.cell (hx.cell j hj) (fun hb => by have := hal hb; omega)
theorem Vd.frozen {v : Value} {n B i Z : Nat} {w wr : World} (h : Vd v n B i Z w wr) (hc : 0 < sCap v) (k : Nat) : wr.frozen? ⟨sBlk v, k, none⟩ = false := by
  obtain ⟨os, h1, -⟩ := h
  exact h1.frozen hc k
theorem Vd.own {v : Value} {n B i Z : Nat} {w wr : World} (h : Vd v n B i Z w wr) {k : Nat} (hk : k < n) : ∃ u : Value, wr.cell? ⟨sBlk v, sOff v + k, none⟩ = some u := by
  obtain ⟨os, h1, h2, -⟩ := h
  exact ⟨_, h1.cell (List.getElem?_eq_getElem (by omega))⟩
set_option maxRecDepth 100000 in
set_option maxHeartbeats 1600000 in
theorem lshVU_g_gen (v x : Value) (os : List Value) (xs : List Nat) (X s B : Nat) (w : World) (ho : Own w B 116 v os) (hx : RW w x xs) (hX : wv xs = X) (hlen : os.length = xs.length) (hal : sBlk x = sBlk v → sOff x ≤ sOff v)
    (hl0 : 0 < xs.length) (hl : xs.length ≤ 1000000000) (hs0 : 0 < s) (hs : s < 64) :
    Calls Tryz.prog 107 #[v, x, .int .u64 s] w fun e w' => e = .returned (.int .u64 (wdg X (xs.length - 1) / 2 ^ (64 - s) : Nat)) ∧ VvP v xs.length B (X * 2 ^ s) w w' := by
  have hS := ho.isS
  have hSx := hx.isS
  have hL : sLen v = os.length := ho.len
  have hLx : sLen x = xs.length := hx.len
  have hcap : 0 < sCap v := by have := hS.le; omega
  have hB := (ho.lt hcap).1
  have hget : ∀ j, xs.getD j 0 = wdg X j := fun j => by rw [← hX, wv_dig hx.lt]
  obtain ⟨L, hLw⟩ : ∃ L, L + 1 = xs.length := ⟨xs.length - 1, by omega⟩
  have R0 := Lib.hid (Vd.start (Y := X * 2 ^ s) ho hlen)
  rw [← hLw] at R0
  have hc := hx.cell L (by omega)
  rw [hget] at hc
  have HXS : Hid (∀ j, j < L + 1 → j < xs.length) := Lib.hid (fun j hj => by omega)
  rw [← hLw] at hlen hLx hl ⊢
  rw [hlen] at hL
  rw [Nat.add_sub_cancel]
  have n1 := and63 hs
  have n2 := and63 (show 64 - s < 64 by omega)
  obtain ⟨r, hr⟩ : ∃ r, r = 64 - s := ⟨_, rfl⟩
  rw [← hr] at n2 ⊢
  have hr64 : r < 64 := by omega
  have e1 : (64 : Int) - (s : Int) = (r : Int) := by omega
  have hS2 : (2 : Int) ^ s = ((2 ^ s : Nat) : Int) := by simp
  have hR2 : (2 : Int) ^ r = ((2 ^ r : Nat) : Int) := by simp
  obtain ⟨t, ht⟩ : ∃ t, t = wdg X L := ⟨_, rfl⟩
  rw [← ht] at hc ⊢
  obtain ⟨S, hSS⟩ : ∃ S, S = 2 ^ s := ⟨_, rfl⟩
  rw [← hSS] at hS2
  have HS := Lib.hid hSS
  obtain ⟨R, hR⟩ : ∃ R, R = 2 ^ r := ⟨_, rfl⟩
  rw [← hR] at hR2 ⊢
  have hqt : (t : Int) / (R : Int) = ((t / R : Nat) : Int) := by simp
  have htl : t < 18446744073709551616 := by rw [ht]; exact wdg_lt _ _
  obtain ⟨q, hq⟩ : ∃ q, q = t / R := ⟨_, rfl⟩
  rw [← hq] at hqt ⊢
  have ts : ((s : Int) == 0) = false := by rw [beq_eq_false_iff_ne]; omega
  have HX := Lib.hid hx
  have HAL := Lib.hid hal
  have HG := Lib.hid hget
  have HR := Lib.hid hR
  have Hr := Lib.hid hr
  clear ho hLw hX hl0 hget ht hR hq hr hSS hx hlen hal
  go_enter Tryz.func107, Tryz.ntmps107
  go_wp2
  go_loopw [8] (fun i wr => ∃ k : Nat, k ≤ L ∧ i = .int .i64 k ∧ Vd v (L + 1) B (k + 1) (X * 2 ^ s) w wr) (fun i _ => (intOf i).toNat)
  case atStart => exact ⟨L, Nat.le_refl _, rfl, R0.out⟩
  case round =>
    obtain ⟨k, hk, rfl, hrel⟩ := hrel
    have HREL := Lib.hid hrel
    have hkL : k < L + 1 := by omega
    have fz := hrel.frozen hcap
    rcases Nat.eq_zero_or_pos k with hk0 | hk0
    · subst hk0
      have c0 := hrel.src HX.out HAL.out (j := 0) (by omega) (HXS.out 0 (by omega))
      obtain ⟨g, cv⟩ := hrel.own (k := 0) (by omega)
      rw [HG.out, Nat.add_zero] at c0
      rw [Nat.add_zero] at cv
      obtain ⟨d0, hd0⟩ : ∃ d, d = wdg X 0 := ⟨_, rfl⟩
      rw [← hd0] at c0
      have hm := wrapU d0 S
      obtain ⟨m, hmm⟩ : ∃ m, m = d0 * S % 18446744073709551616 := ⟨_, rfl⟩
      rw [← hmm] at hm
      have fz0 := fz (sOff v)
      have HM : m = wdg (X * 2 ^ s) 0 := by rw [wdg_shl_zero _ (by omega), hmm, hd0, HS.out]
      have PUT := (HREL.out.put (k := 0) hkL hB HM).done
      rw [Nat.add_zero] at PUT
      have PUT := Lib.hid PUT
      clear fz hd0 hmm HM hrel
      go_wp2
      go_ret
      exact ⟨rfl, PUT.out⟩
    · obtain ⟨j, rfl⟩ : ∃ j, k = j + 1 := ⟨k - 1, by omega⟩
      have c1 := hrel.src HX.out HAL.out (j := j + 1) (by omega) (HXS.out _ (by omega))
      have c0 := hrel.src HX.out HAL.out (j := j) (by omega) (HXS.out _ (by omega))
      obtain ⟨g, cv⟩ := hrel.own (k := j + 1) (by omega)
      rw [HG.out] at c1 c0
      obtain ⟨d1, hd1⟩ : ∃ d, d = wdg X (j + 1) := ⟨_, rfl⟩
      obtain ⟨d0, hd0⟩ : ∃ d, d = wdg X j := ⟨_, rfl⟩
      rw [← hd1] at c1
      rw [← hd0] at c0
      have hm := wrapU d1 S
      have hq0 : (d0 : Int) / (R : Int) = ((d0 / R : Nat) : Int) := by simp
      obtain ⟨m, hmm⟩ : ∃ m, m = d1 * S % 18446744073709551616 := ⟨_, rfl⟩
      obtain ⟨q0, hqq⟩ : ∃ q, q = d0 / R := ⟨_, rfl⟩
      rw [← hmm] at hm
      rw [← hqq] at hq0
      have hd0l : d0 < 18446744073709551616 := by rw [hd0]; exact wdg_lt _ _
      have hq0l : q0 < 2 ^ s := by
        rw [hqq, HR.out, Hr.out]
        refine Nat.div_lt_of_lt_mul ?_
        rw [word_split (by omega)]; exact hd0l
      have hor := bits_or_u64_nat m q0 (by rw [hmm]; exact Nat.mod_lt _ (by decide)) (by have := Nat.div_le_self d0 R; omega)
      have hy : m ||| q0 = wdg (X * 2 ^ s) (j + 1) := by
        rw [wdg_shl_succ _ _ hs, hmm, HS.out, shl_or hs hq0l, hqq, hd0, hd1, HR.out, Hr.out]
      rw [hy] at hor
      obtain ⟨y, hyy⟩ : ∃ y, y = wdg (X * 2 ^ s) (j + 1) := ⟨_, rfl⟩
      rw [← hyy] at hor
      have HY := Lib.hid hyy
      have fz1 := fz (sOff v + (j + 1))
      have hj1 : j + 1 < L + 1 := by omega
      clear fz hy hq0l hd0 hd1 hmm hqq hyy hrel
      go_wp2
      (refine wp_region_hoist 16 (by kernel_rfl) (by kernel_rfl) ⟨fun _ _ _ h => (by first | exact (hQp _ _ _ h).elim | cases h.2.1 | (obtain ⟨_, h3, _⟩ := h.2; cases h3)), fun _ _ h => (by first | exact (hQo _ _ h).elim | cases h.1 | (obtain ⟨_, h3, _⟩ := h; cases h3))⟩ ?_; simp only [List.take_succ_cons, List.take_zero, List.drop_succ_cons, List.drop_zero]; (repeat (go_big_quiet_step (fail))); refine wpQuiet_nil ?_; rintro _ ⟨nq, rfl⟩)
      go_wp2
      exact ⟨⟨j, by omega, rfl, HREL.out.drewN.put hj1 hB HY.out⟩, by simp [intOf]⟩
set_option maxRecDepth 100000 in
theorem lshVU_gen (v x : Value) (os : List Value) (xs : List Nat) (X s B : Nat) (w : World) (ho : Own w B 116 v os) (hx : RW w x xs) (hX : wv xs = X) (hlen : os.length = xs.length) (hal : sBlk x = sBlk v → sOff x ≤ sOff v)
    (hl0 : 0 < xs.length) (hl : xs.length ≤ 1000000000) (hs0 : 0 < s) (hs : s < 64) :
    Calls Tryz.prog 91 #[v, x, .int .u64 s] w fun e w' => e = .returned (.int .u64 (wdg X (xs.length - 1) / 2 ^ (64 - s) : Nat)) ∧ VvP v xs.length B (X * 2 ^ s) w w' := by
  have hS := ho.isS
  have hSx := hx.isS
  have H := Lib.hid (lshVU_g_gen v x os xs X s B w ho hx hX hlen hal hl0 hl hs0 hs)
  clear ho hx hX hlen hal hl0 hl
  go_enter Tryz.func91, Tryz.ntmps91
  go_wp2_with fail
  refine H.out.mono ?_
  rintro _ w1 ⟨rfl, h1⟩
  go_wp2
  go_ret
  exact ⟨rfl, h1⟩
end Go.Proofs.YtgbmlaffilccnaaGreatDoor
