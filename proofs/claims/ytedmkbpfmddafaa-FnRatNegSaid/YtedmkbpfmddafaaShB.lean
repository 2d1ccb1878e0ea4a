/-
Decimals: rsh. No condition.
-/
import Derived.Test.YtedmkbpfmddafaaShA
import Derived.Laws.Bits64b
namespace Go.Proofs.Ytedmkbpfmddafaa
open Go.RowKit

/-- A decimal in the midst of the division: w figures are written, k are read. -/
structure ShMid (w0 : World) (B b : Nat) (v : Value) (e : Int) (us : List UInt8) (s k n w : Nat) (wr : World) : Prop where
  obj : DObj wr B b v e (dtx (pre us k / (10 * 2 ^ s)) ++ us.drop w)
  len : (dtx (pre us k / (10 * 2 ^ s))).length = w
  rest : n = pre us k % (10 * 2 ^ s)
  bel : Below B w0 wr

theorem div_ne {m S : Nat} (h : S ≤ m) (hS : 0 < S) : ((m : Int) / (S : Int) == 0) = false := by
  rw [beq_eq_false_iff_ne]
  have h1 := Nat.div_pos h hS
  have e : ((m / S : Nat) : Int) = (m : Int) / (S : Int) := by simp
  omega
/-- A decimal whose figures are all behind each other: t are read. -/
structure ShEnd (w0 : World) (B b : Nat) (v : Value) (e : Int) (us : List UInt8) (s k1 t m : Nat) (wr : World) : Prop where
  obj : DObj wr B b v e (dtx (pre us t / (10 * 2 ^ s)))
  len : (dtx (pre us t / (10 * 2 ^ s))).length + k1 = t
  rest : m = pre us t % (10 * 2 ^ s)
  bel : Below B w0 wr
theorem sh_next {us : List UInt8} {s t S m : Nat} (hf : Figs us) (hS : S = 2 ^ s) (hk : S ≤ pre us t) (ht : us.length ≤ t) (hm : m = pre us t % (10 * 2 ^ s)) :
    dtx (pre us (t + 1) / (10 * 2 ^ s)) = dtx (pre us t / (10 * 2 ^ s)) ++ [UInt8.ofNat (48 + m / S)] ∧ m / S < 10 ∧ m % S * 10 = pre us (t + 1) % (10 * 2 ^ s) := by
  have hS0 : 0 < S := by rw [hS]; exact Nat.pow_pos (by decide)
  have hlt := fig_lt hf t
  have h0 := fig_ge ht
  rw [← hS] at hm ⊢
  refine ⟨?_, ?_, ?_⟩
  · rw [pre, sh_div hlt hS0, sh_fig hk hS0, hm, sh_dig hS0]
  · rw [hm, sh_dig hS0]; exact Nat.mod_lt _ (by decide)
  · have := sh_mod (p := pre us t) hlt hS0
    rw [h0, Nat.add_zero] at this
    rw [hm, this, pre, h0, Nat.add_zero]
theorem heap_alloc_lt {w : World} {o x : Obj} {k : Nat} (h : w.heap[k]? = some x) : (w.alloc o).heap[k]? = some x ∧ k < w.heap.size := by
  have hlt : k < w.heap.size := by
    rcases Nat.lt_or_ge k w.heap.size with h' | h'
    · exact h'
    · rw [Array.getElem?_eq_none h'] at h; cases h
  exact ⟨(Below.heap_alloc w o k hlt).trans h, hlt⟩
def mantLen (b : Nat) (w : World) : Nat := match w.cell? ⟨b, 0, none⟩ with | some c => sLen c | none => 0
theorem mantLen_of {b : Nat} {w : World} {c : Value} (h : w.cell? ⟨b, 0, none⟩ = some c) : mantLen b w = sLen c := by unfold mantLen; rw [h]
theorem and_mask {m S s : Nat} (hS : S = 2 ^ s) (hSm : S ≤ 1152921504606846976) (hm : m < 10 * S) : bits .and .u64 (m : Int) ((S : Int) - 1) = ((m % S : Nat) : Int) := by
  have hp : 0 < S := by rw [hS]; exact Nat.pow_pos (by decide)
  rw [show ((S : Int) - 1) = ((S - 1 : Nat) : Int) by omega, bits_and_u64_nat _ _ (by omega) (by omega), hS, Nat.and_two_pow_sub_one_eq_mod]
theorem DObj.putM {w : World} {B b : Nat} {v v' : Value} {e : Int} {us' : List UInt8} (hb : B ≤ b) (h : w.heap[b]? = some (.cells #[v, .int .i64 e] 103 (0, 0))) (ho : Own w B 5 v' (bys us')) (hn : sCap v' ≠ 0 → sBlk v' ≠ b) :
    DObj (w.setCell ⟨b, 0, none⟩ v') B b v' e us' :=
  ⟨hb, by rw [heap_setCell_same w b 0 _ _ v' h]; rfl, ho.same fun hc => heap_setCell_other w ⟨b, 0, none⟩ _ v' (hn (by omega)), hn⟩
theorem DObj.cutM {w : World} {B b : Nat} {v : Value} {e : Int} {us : List UInt8} (h : DObj w B b v e us) {m : Nat} (hm : m ≤ us.length) : DObj (w.setCell ⟨b, 0, none⟩ (subS v 0 m)) B b (subS v 0 m) e (us.take m) := by
  refine h.setM ?_ ?_
  · have := h.own.sub (l := 0) (n := m) (Nat.zero_le _) (by rw [bys_length]; exact hm)
    rw [List.drop_zero, sub_take] at this
    exact this
  · rw [subS_cap h.own.isS, subS_blk h.own.isS]
    exact fun hc => h.ne (by omega)
theorem DObj.setF {w : World} {B b : Nat} {v : Value} {e : Int} {us : List UInt8} (h : DObj w B b v e us) {i : Nat} (hi : i < us.length) (d : UInt8) :
    DObj (w.setCell ⟨sBlk v, sOff v + i, none⟩ (.int .u8 d.toNat)) B b v e (us.set i d) := by
  have hL := h.rd.len
  rw [intsOf_length] at hL
  have hC := h.own.isS.le
  have ho := h.own.set (i := i) (by rw [bys_length]; exact hi) (.int .u8 d.toNat)
  rw [bys_set] at ho
  exact ⟨h.hb, by rw [heap_setCell_other w _ _ _ (by simp only; exact (h.ne (by omega)).symm)]; exact h.obj, ho, h.ne⟩
theorem set_mid (a : List UInt8) (us : List UInt8) (x : UInt8) (h : a.length < us.length) : (a ++ us.drop a.length).set a.length x = (a ++ [x]) ++ us.drop (a.length + 1) := by
  rw [List.set_append_right _ _ (Nat.le_refl _), Nat.sub_self, List.drop_eq_getElem_cons h, List.append_assoc]
  rfl
theorem ShMid.step {w0 wr : World} {B b : Nat} {v : Value} {e : Int} {us : List UInt8} {s k n j S : Nat} (M : ShMid w0 B b v e us s k n j wr) (hf : Figs us) (hS : S = 2 ^ s) (hk : S ≤ pre us k) (hj : j < us.length) :
    ShMid w0 B b v e us s (k + 1) (n % S * 10 + fig us k) (j + 1) (wr.setCell ⟨sBlk v, sOff v + j, none⟩ (.int .u8 ((48 + n / S : Nat) : Int))) ∧ n / S < 10 := by
  have hS0 : 0 < S := by rw [hS]; exact Nat.pow_pos (by decide)
  have hlt := fig_lt hf k
  have h1 : dtx (pre us (k + 1) / (10 * S)) = dtx (pre us k / (10 * S)) ++ [UInt8.ofNat (48 + n / S)] := by
    rw [pre, sh_div hlt hS0, sh_fig hk hS0, M.rest, ← hS, sh_dig hS0]
  have hd : n / S < 10 := by rw [M.rest, ← hS, sh_dig hS0]; exact Nat.mod_lt _ (by decide)
  have hl := M.len
  rw [← hS] at hl
  have ho := M.obj
  rw [← hS] at ho
  have h2 := ho.setF (i := j) (by rw [List.length_append, hl, List.length_drop]; omega) (UInt8.ofNat (48 + n / S))
  have h3 : ((UInt8.ofNat (48 + n / S)).toNat : Int) = ((48 + n / S : Nat) : Int) := by
    generalize n / S = q at hd
    simp; omega
  rw [h3] at h2
  have h4 := set_mid (dtx (pre us k / (10 * S))) us (UInt8.ofNat (48 + n / S)) (by rw [hl]; exact hj)
  rw [hl] at h4
  rw [h4, ← h1] at h2
  have hlo := ho.own.len
  rw [bys_length, List.length_append, hl, List.length_drop] at hlo
  have hcp := ho.own.isS.le
  refine ⟨⟨by rw [← hS]; exact h2, by rw [← hS, h1, List.length_append, hl]; rfl, ?_, bset M.bel (ho.own.lt (by omega)).1⟩, hd⟩
  rw [M.rest, ← hS, sh_mod hlt hS0]; rfl

set_option maxRecDepth 100000 in
set_option maxHeartbeats 3200000 in
theorem rsh_any (B b : Nat) (v : Value) (e : Int) (us : List UInt8) (s : Nat) (w : World) (h : DObj w B b v e us) (hf : Figs us) (hp : 0 < us.length) (h0 : us.getD 0 0 ≠ 48) (hs : s ≤ 60) (hl2 : us.length ≤ 10000) (he : -1000000000000 ≤ e ∧ e ≤ 1000000000000) :
    Calls Try.prog 69 #[.pointer (some ⟨b, 0, none⟩), .int .u64 s] w fun e' w' => ∃ v, e' = .returned v ∧
      DPost B b w (cutz (dtx (pre us us.length * 5 ^ s))) (e - us.length - s + (dtx (pre us us.length * 5 ^ s)).length) v w' := by
  have hl := hf.le
  have hm := h.mant
  have he' := h.exp
  have f0 := h.fz 0
  have f1 := h.fz 1
  have hr := h.rd
  have hS := hr.isS
  have hL := hr.len
  have hC := hS.le
  rw [intsOf_length] at hL
  have hC' : us.length ≤ sCap v := by omega
  clear hC
  have Hc := Lib.hid (rb_cell hr)
  have H := Lib.hid h
  have Hf := Lib.hid hf
  have hd := hf.dig
  have Hd := Lib.hid hd
  have hp1 : 0 < pre us 1 := by
    have h1 := hd 0 hp
    have h2 : (us.getD 0 0).toNat ≠ 48 := fun hh => h0 (UInt8.toNat_inj.1 hh)
    show 0 < pre us 0 * 10 + fig us 0
    rw [fig_of hp]; simp only [pre]; omega
  have Hp1 := Lib.hid hp1
  clear hr h hf hd hp1 h0
  obtain ⟨n, hn⟩ : ∃ n, n = us.length := ⟨_, rfl⟩
  rw [← hn] at hL hC' hl hl2 hp
  have Hn := Lib.hid hn
  clear hn
  have hs0 : (0 : Int) ≤ s := by omega
  obtain ⟨S, hS'⟩ : ∃ S, S = 2 ^ s := ⟨_, rfl⟩
  have hSp : 0 < S := by rw [hS']; exact Nat.pow_pos (by decide)
  have hSm : S ≤ 1152921504606846976 := by rw [hS']; exact Nat.pow_le_pow_right (show 0 < 2 by decide) hs
  have hS2 : (2 : Int) ^ s = (S : Int) := by rw [hS']; simp
  have HS := Lib.hid hS'
  have hS3 : ((S : Int) == 0) = false := by rw [beq_eq_false_iff_ne]; omega
  clear hS'
  go_enter Try.func69, Try.ntmps69
  go_wp2
  go_loop [4, 5] (fun i u => ∃ k m : Nat, k ≤ n ∧ i = .int .i64 k ∧ u = .int .u64 m ∧ m = pre us k ∧ m < 10 * S) (fun i _ => n - (intOf i).toNat)
  case atStart => exact ⟨0, 0, Nat.zero_le _, rfl, rfl, rfl, by omega⟩
  case round =>
    obtain ⟨k, m, hk, rfl, rfl, hm', hmS⟩ := hrel
    have Hm := Lib.hid hm'
    clear hm'
    by_cases hgo : m < S ∧ k < n
    · obtain ⟨hmlt, hkn⟩ := hgo
      have t1 : ((m : Int) / (S : Int) == 0) = true := by rw [beq_iff_eq]; exact Int.ediv_eq_zero_of_lt (by omega) (by omega)
      have c := Hc.out k (by rw [← Hn.out]; exact hkn)
      have g := Hd.out k (by rw [← Hn.out]; exact hkn)
      have hfg := fig_of (us := us) (i := k) (by rw [← Hn.out]; exact hkn)
      obtain ⟨d, hd⟩ : ∃ d, d = (us.getD k 0).toNat := ⟨_, rfl⟩
      rw [← hd] at c g hfg
      have Hfg := Lib.hid hfg
      clear hd hfg
      go_wp2
      have hfl := fig_lt Hf.out k
      refine ⟨⟨k + 1, m * 10 + fig us k, by omega, by go_num, by rw [Hfg.out]; go_num, by rw [Hm.out]; rfl, by omega⟩, by simp [intOf]; omega⟩
    · have hm0 : 0 < m := by
        by_cases hx : S ≤ m
        · omega
        · rw [Hm.out]
          exact Nat.lt_of_lt_of_le Hp1.out (pre_mono (by omega))
      have hz : ((m : Int) == 0) = false := by rw [beq_eq_false_iff_ne]; omega
      rcases (by omega : S ≤ m ∨ (m < S ∧ k = n)) with hx | ⟨hx, hx2⟩
      case' inl =>
        have hmk : S ≤ m ∨ n ≤ k := .inl hx
        have t1 : ((m : Int) / (S : Int) == 0) = false := by
          exact div_ne hx hSp
        clear hx
      case' inr =>
        have hmk : S ≤ m ∨ n ≤ k := .inr (by omega)
        have t1 : ((m : Int) / (S : Int) == 0) = true := by rw [beq_iff_eq]; exact Int.ediv_eq_zero_of_lt (by omega) (by omega)
        have t2 : decide (k < n) = false := by rw [decide_eq_false_iff_not]; omega
        clear hx hx2
      all_goals
        have Hmk := Lib.hid hmk
        clear hmk
        go_wp2
        clear t1 hgo
        go_loop [4, 5] (fun i u => ∃ k m : Nat, k ≤ n + 60 ∧ i = .int .i64 k ∧ u = .int .u64 m ∧ m = pre us k ∧ m < 10 * S ∧ 0 < m ∧ (S ≤ m ∨ n ≤ k) ∧ 2 ^ (k - n) ≤ m) (fun _ u => S - (intOf u).toNat)
        case atStart => exact ⟨k, m, by omega, rfl, rfl, Hm.out, hmS, hm0, Hmk.out, by rw [show k - n = 0 by omega]; exact hm0⟩
        case round =>
          clear Hm hmS hm0 Hmk hz
          obtain ⟨k1, m1, hk1, rfl, rfl, hm1, hmS, hm0, hmk, hpw⟩ := hrel
          have Hm := Lib.hid hm1
          have Hmk := Lib.hid hmk
          have Hpw := Lib.hid hpw
          clear hm1 hmk hpw
          by_cases hgo : m1 < S
          · have t1 : ((m1 : Int) / (S : Int) == 0) = true := by rw [beq_iff_eq]; exact Int.ediv_eq_zero_of_lt (by omega) (by omega)
            go_wp2
            have hpw := Hpw.out
            have hmk := Hmk.out
            have hk60 : k1 - n < 60 := by
              have h1 : 2 ^ (k1 - n) < 2 ^ 60 := by omega
              exact (Nat.pow_lt_pow_iff_right (show 1 < 2 by decide)).1 h1
            have hkn : n ≤ k1 := by omega
            refine ⟨⟨k1 + 1, m1 * 10, by omega, by go_num, by go_num, ?_, by omega, by omega, .inr (by omega), ?_⟩, by simp [intOf]; omega⟩
            · rw [pre, fig_ge (by rw [← Hn.out]; omega), ← Hm.out]; rfl
            · rw [show k1 + 1 - n = (k1 - n) + 1 by omega, Nat.pow_succ]; omega
          · have t1 : ((m1 : Int) / (S : Int) == 0) = false := div_ne (by omega) hSp
            have D1 := H.out.setE (e' := e + (1 - (k1 : Int)))
            have g0 := D1.mant
            have g1 := D1.fz 0
            have gr := D1.rd
            have Gc := Lib.hid (rb_cell gr)
            have M0 : ShMid w B b v (e + (1 - (k1 : Int))) us s k1 m1 0 (w.setCell ⟨b, 1, none⟩ (.int .i64 (e + (1 - (k1 : Int))))) := by
              have h1 : pre us k1 / (10 * 2 ^ s) = 0 := by rw [← HS.out, ← Hm.out]; exact Nat.div_eq_of_lt hmS
              refine ⟨by rw [h1, dtx_zero]; exact D1, by rw [h1, dtx_zero]; rfl, by rw [← HS.out, ← Hm.out, Nat.mod_eq_of_lt hmS], bset (Below.refl _ _) H.out.hb⟩
            have HM := Lib.hid M0
            have hSk : S ≤ pre us k1 := by rw [← Hm.out]; omega
            have HSk := Lib.hid hSk
            clear D1 M0 hSk gr
            have hk1p : 0 < k1 := by
              rcases Nat.eq_zero_or_pos k1 with h | h
              · have := Hm.out; rw [h] at this; simp only [pre] at this; omega
              · exact h
            go_wp2
            go_loopw [4, 5, 7] (fun r u x wr => ∃ j m2 : Nat, (k1 + j ≤ n ∨ j = 0) ∧ r = .int .i64 ((k1 + j : Nat) : Int) ∧ u = .int .u64 m2 ∧ x = .int .i64 j ∧ ShMid w B b v (e + (1 - (k1 : Int))) us s (k1 + j) m2 j wr) (fun r _ _ _ => n - (intOf r).toNat)
            case atStart => exact ⟨0, m1, .inr rfl, by go_num, rfl, rfl, HM.out⟩
            case round =>
              clear g0 g1 Gc t1 hgo
              obtain ⟨j, m2, hj, rfl, rfl, rfl, M⟩ := hrel
              have g0 := M.obj.mant
              have g1 := M.obj.fz 0
              have Gc := Lib.hid (rb_cell M.obj.rd)
              have Gl := Lib.hid M.obj.own.len
              have hm2 : m2 < 10 * S := by rw [M.rest, ← HS.out]; exact Nat.mod_lt _ (by omega)
              have fz := Lib.hid M.obj.own.frozen
              have HM2 := Lib.hid M
              have Hj := Lib.hid hj
              clear M hj
              by_cases hlt : k1 + j < n
              · have t2 : decide (k1 + j < n) = true := by rw [decide_eq_true_iff]; exact hlt
                have fz1 := fz.out (by omega) (sOff v + j)
                have hlen := HM2.out.len
                have hlen2 : (dtx (pre us (k1 + j) / (10 * 2 ^ s)) ++ us.drop j).length = n := by rw [List.length_append, hlen, List.length_drop, Hn.out]; have := Hn.out; omega
                have c1 := Gc.out (k1 + j) (by rw [hlen2]; exact hlt)
                rw [show (dtx (pre us (k1 + j) / (10 * 2 ^ s)) ++ us.drop j).getD (k1 + j) 0 = us.getD (k1 + j) 0 by
                  rw [List.getD_eq_getElem?_getD, List.getElem?_append_right (by omega), hlen, List.getElem?_drop, show j + (k1 + j - j) = k1 + j by omega, List.getD_eq_getElem?_getD]] at c1
                have g := Hd.out (k1 + j) (by rw [← Hn.out]; exact hlt)
                have hfg := fig_of (us := us) (i := k1 + j) (by rw [← Hn.out]; exact hlt)
                obtain ⟨d, hd⟩ : ∃ d, d = (us.getD (k1 + j) 0).toNat := ⟨_, rfl⟩
                rw [← hd] at c1 g hfg
                have Hfg := Lib.hid hfg
                have c2 := Gc.out j (by rw [hlen2]; omega)
                have st := ShMid.step HM2.out Hf.out HS.out (Nat.le_trans HSk.out (pre_mono (by omega))) (by rw [← Hn.out]; omega)
                have ha := and_mask HS.out hSm hm2
                have hq : (m2 : Int) / (S : Int) = ((m2 / S : Nat) : Int) := by simp
                have hr := Nat.mod_lt m2 hSp
                obtain ⟨q, hq'⟩ : ∃ q, q = m2 / S := ⟨_, rfl⟩
                obtain ⟨r, hr'⟩ : ∃ r, r = m2 % S := ⟨_, rfl⟩
                rw [← hq', ← hr'] at st
                rw [← hq'] at hq
                rw [← hr'] at ha hr
                have hq10 := st.2
                have St := Lib.hid st.1
                clear hd hfg hlen hlen2 st hq' hr'
                go_wp2
                have hd48 := Hfg.out
                refine ⟨⟨j + 1, r * 10 + fig us (k1 + j), .inl (by omega), by go_num, by rw [hd48]; go_num, by go_num, ?_⟩, by simp [intOf]; omega⟩
                have h := St.out
                rw [show ((48 + q : Nat) : Int) = (q : Int) + 48 by omega] at h
                exact h
              · have t2 : decide (k1 + j < n) = false := by rw [decide_eq_false_iff_not]; exact hlt
                have hjn : j ≤ n := by have := Hj.out; omega
                go_wp2
                go_loopw [5, 7] (fun u x wr => ∃ j m2 : Nat, n ≤ k1 + j ∧ j ≤ n ∧ u = .int .u64 m2 ∧ x = .int .i64 j ∧ ShMid w B b v (e + (1 - (k1 : Int))) us s (k1 + j) m2 j wr) (fun _ x _ => n - (intOf x).toNat)
                case atStart => exact ⟨j, m2, by omega, hjn, rfl, rfl, HM2.out⟩
                case round =>
                  clear g0 g1 Gc Gl hm2 fz HM2 Hj t2 hlt
                  obtain ⟨j, m2, hj, hjn, rfl, rfl, M⟩ := hrel
                  have g0 := M.obj.mant
                  have g1 := M.obj.fz 0
                  have Gc := Lib.hid (rb_cell M.obj.rd)
                  have hm2 : m2 < 10 * S := by rw [M.rest, ← HS.out]; exact Nat.mod_lt _ (by omega)
                  have fz := Lib.hid M.obj.own.frozen
                  have HM2 := Lib.hid M
                  clear M
                  by_cases hlt : 0 < m2 ∧ j < n
                  · obtain ⟨hm0, hjl⟩ := hlt
                    have hlen := HM2.out.len
                    have hlen2 : (dtx (pre us (k1 + j) / (10 * 2 ^ s)) ++ us.drop j).length = n := by rw [List.length_append, hlen, List.length_drop, Hn.out]; have := Hn.out; omega
                    have fz1 := fz.out (by omega) (sOff v + j)
                    have c2 := Gc.out j (by rw [hlen2]; omega)
                    have st := ShMid.step HM2.out Hf.out HS.out (Nat.le_trans HSk.out (pre_mono (by omega))) (by rw [← Hn.out]; omega)
                    rw [fig_ge (by rw [← Hn.out]; omega)] at st
                    have ha := and_mask HS.out hSm hm2
                    have hq : (m2 : Int) / (S : Int) = ((m2 / S : Nat) : Int) := by simp
                    have hr := Nat.mod_lt m2 hSp
                    obtain ⟨q, hq'⟩ : ∃ q, q = m2 / S := ⟨_, rfl⟩
                    obtain ⟨r, hr'⟩ : ∃ r, r = m2 % S := ⟨_, rfl⟩
                    rw [← hq', ← hr'] at st
                    rw [← hq'] at hq
                    rw [← hr'] at ha hr
                    have hq10 := st.2
                    have St := Lib.hid st.1
                    clear hlen hlen2 st hq' hr'
                    go_wp2
                    refine ⟨⟨j + 1, r * 10 + 0, by omega, by omega, by go_num, by go_num, ?_⟩, by simp [intOf]; omega⟩
                    have h := St.out
                    rw [show ((48 + q : Nat) : Int) = (q : Int) + 48 by omega] at h
                    exact h
                  · have E0 : ∀ c, c = subS v 0 j → ShEnd w B b c (e + (1 - (k1 : Int))) us s k1 (k1 + j) m2 (wr.setCell ⟨b, 0, none⟩ c) := fun c hc => by
                      have hlen := HM2.out.len
                      have h := HM2.out.obj.cutM (m := j) (by rw [List.length_append, hlen]; omega)
                      rw [List.take_left' hlen, ← hc] at h
                      exact ⟨h, by rw [hlen]; omega, HM2.out.rest, bset HM2.out.bel H.out.hb⟩
                    have E1 := E0 _ rfl
                    have hS0 := E1.obj.own.isS
                    have HE := Lib.hid E1
                    have hcap : j ≤ sCap v := by omega
                    clear E0 E1
                    rcases (by omega : m2 = 0 ∨ (0 < m2 ∧ j = n)) with hx | ⟨hx, hx2⟩
                    case' inl =>
                      have t3 : decide (0 < m2) = false := by rw [decide_eq_false_iff_not]; omega
                      have hmj : 0 < m2 → 0 < j := by omega
                      clear hx
                    case' inr =>
                      have t3 : decide (0 < m2) = true := by rw [decide_eq_true_iff]; omega
                      have t4 : decide (j < n) = false := by rw [decide_eq_false_iff_not]; omega
                      have hmj : 0 < m2 → 0 < j := by omega
                      clear hx hx2
                    all_goals
                      have Hmj := Lib.hid hmj
                      clear hmj hlt
                      go_wp2
                      go_loopw [5] (fun u wr => ∃ (t m3 : Nat) (v3 : Value), n ≤ t ∧ t ≤ k1 + n + s + 2 ∧ (0 < m3 → k1 < t) ∧ u = .int .u64 m3 ∧ ShEnd w B b v3 (e + (1 - (k1 : Int))) us s k1 t m3 wr) (fun _ wr => n + s + 2 - mantLen b wr)
                      case atStart => exact ⟨k1 + j, m2, _, hj, by omega, fun h => by have := Hmj.out h; omega, rfl, HE.out⟩
                      case round =>
                        clear g0 g1 Gc hm2 fz HM2 Hmj t3 hS0 HE hcap
                        obtain ⟨t, m3, v3, ht, htu, hmk, rfl, M⟩ := hrel
                        have g0 := M.obj.mant
                        have g1 := M.obj.fz 0
                        have hS0 := M.obj.own.isS
                        have hm3 : m3 < 10 * S := by rw [M.rest, ← HS.out]; exact Nat.mod_lt _ (by omega)
                        have Hmk := Lib.hid hmk
                        have HM2 := Lib.hid M
                        have hlen := M.len
                        have hL3 := M.obj.own.len
                        rw [bys_length] at hL3
                        obtain ⟨L3, hL3'⟩ : ∃ L3, L3 = (dtx (pre us t / (10 * 2 ^ s))).length := ⟨_, rfl⟩
                        rw [← hL3'] at hL3 hlen
                        have HL3 := Lib.hid hL3'
                        clear M hmk hL3'
                        by_cases hz : 0 < m3
                        · have t3 : decide (0 < m3) = true := by rw [decide_eq_true_iff]; omega
                          have htn : t < n + s + 1 := by
                            refine Nat.lt_of_not_le fun hc => ?_
                            have := sh_fin (us := us) (s := s) (k := t) (by rw [← Hn.out]; exact hc)
                            rw [← HM2.out.rest] at this
                            omega
                          have hkt := Hmk.out hz
                          have ob0 := HM2.out.obj.obj
                          have nx := sh_next Hf.out HS.out (Nat.le_trans HSk.out (pre_mono (by omega : k1 ≤ t))) (by rw [← Hn.out]; exact ht) HM2.out.rest
                          have ha := and_mask HS.out hSm hm3
                          have hq : (m3 : Int) / (S : Int) = ((m3 / S : Nat) : Int) := by simp
                          have hr := Nat.mod_lt m3 hSp
                          obtain ⟨q, hq'⟩ : ∃ q, q = m3 / S := ⟨_, rfl⟩
                          obtain ⟨r, hr'⟩ : ∃ r, r = m3 % S := ⟨_, rfl⟩
                          rw [← hq', ← hr'] at nx
                          rw [← hq'] at hq
                          rw [← hr'] at ha hr
                          obtain ⟨nx1, hq10, nx2⟩ := nx
                          have Nx1 := Lib.hid nx1
                          have Nx2 := Lib.hid nx2
                          have Ob0 := Lib.hid ob0
                          have hbz := HM2.out.bel.size
                          have hB0 : B ≤ wr.heap.size := by have := (heap_alloc_lt (o := Obj.cells #[] 0) ob0).2; have := H.out.hb; omega
                          clear nx1 nx2 ob0 hq' hr'
                          go_wp2_with (at_builtin; refine wpList_append_O rfl _ _ _ _ rfl elemB B _ _ rfl (HM2.out.obj.own.alloc _) _ rfl 1 [.int .u8 ((q : Int) + 48)] (srcOne sliceB wr _ _) ?c3 ?c4 ?c5 ?_)
                          case c3 => rw [bys_length, ← HL3.out]; unfold maxLen; omega
                          case c4 => rw [bys_length, ← HL3.out]; omega
                          case c5 => simp; omega
                          rintro v1 w1 ho1 hb1 hon1 hsh -
                          have ob1 := heap_alloc_lt (o := Obj.cells #[Value.int .u8 ((q : Int) + 48)] 5) Ob0.out
                          have hne3 := HM2.out.obj.ne (by have := HM2.out.obj.own.isS.le; omega)
                          have ob := (hon1 b (by simp; omega) (fun hc => hne3 hc.symm)).trans ob1.1
                          have hlt1 := ob1.2
                          have hne1 : sBlk v1 ≠ b := by
                            rcases hsh with hh | hh
                            · rw [hh]; exact hne3
                            · have h9 := ((Below.refl wr.heap.size wr).alloc (Nat.le_refl _) (Obj.cells #[Value.int .u8 ((q : Int) + 48)] 5)).size
                              omega
                          have e1 : (bys (dtx (pre us t / (10 * 2 ^ s))) ++ [Value.int .u8 ((q : Int) + 48)]) = bys (dtx (pre us (t + 1) / (10 * 2 ^ s))) := by
                            rw [Nx1.out, bys_append]; congr 1; simp [bys]; omega
                          rw [e1] at ho1
                          have D := DObj.putM H.out.hb ob ho1 (fun _ => hne1)
                          have g2 : w1.cell? ⟨b, 0, none⟩ = some v3 := by rw [cell_of_row w1 b 0 _ _ _ ob]; rfl
                          have g3 := frozen_of_row w1 b 0 _ _ ob
                          have hS1 := ho1.isS
                          have HD := Lib.hid D
                          have HO1 := Lib.hid ho1
                          have hbb := bset (i := 0) (u := v1) ((HM2.out.bel.alloc hB0 _).trans hb1) H.out.hb
                          have hml := mantLen_of HD.out.mant
                          have hml0 := mantLen_of g0
                          have hl1 := ho1.len
                          rw [bys_length, Nx1.out, List.length_append, ← HL3.out, List.length_singleton] at hl1
                          have Hml := Lib.hid hml
                          have Hml0 := Lib.hid hml0
                          clear D ob ob1 e1 ho1 hon1 hml hml0
                          go_wp2
                          refine ⟨?_, ?_⟩
                          · (repeat (apply Exists.intro))
                            refine ⟨?_, rfl⟩
                            refine ⟨t + 1, r * 10, v1, by omega, by omega, fun _ => by omega, by go_num, ⟨HD.out, ?_, Nx2.out, hbb⟩⟩
                            rw [Nx1.out, List.length_append, ← HL3.out, List.length_singleton]; omega
                          · rw [Hml.out, Hml0.out]; omega
                        · have t3 : decide (0 < m3) = false := by rw [decide_eq_false_iff_not]; omega
                          have hz0 : m3 = 0 := by omega
                          have Hz := Lib.hid hz0
                          clear hz0 hz
                          go_wp2_with fail
                          refine (trim_any B b _ _ _ _ HM2.out.obj (by rw [← HL3.out]; omega)).mono ?_
                          rintro _ w9 ⟨_, rfl, rfl, ⟨v9, D9⟩, hb9⟩
                          have se := sh_end (us := us) (s := s) (k := t) (w := L3) (by rw [← Hn.out]; exact ht) (by rw [← HM2.out.rest]; exact Hz.out) (Nat.lt_of_lt_of_le Hp1.out (pre_mono (by rw [← Hn.out]; omega))) HL3.out.symm
                          have D9' : DObj w9 B b v9 (e - us.length - s + (dtx (pre us us.length * 5 ^ s)).length) (cutz (dtx (pre us us.length * 5 ^ s))) := by
                            rw [← se.1]
                            have e9 : zexp (trIdx (dtx (pre us t / (10 * 2 ^ s))) (dtx (pre us t / (10 * 2 ^ s))).length) (e + (1 - (k1 : Int))) = e - us.length - s + (dtx (pre us us.length * 5 ^ s)).length := by
                              rw [zexp, if_neg se.2.1]
                              have := se.2.2
                              have := Hn.out
                              omega
                            rw [← e9]; exact D9
                          have HD := Lib.hid D9'
                          clear D9 D9' se
                          go_wp2
                          go_end0
                          exact ⟨_, rfl, rfl, ⟨_, HD.out⟩, HM2.out.bel.trans hb9⟩
end Go.Proofs.Ytedmkbpfmddafaa
