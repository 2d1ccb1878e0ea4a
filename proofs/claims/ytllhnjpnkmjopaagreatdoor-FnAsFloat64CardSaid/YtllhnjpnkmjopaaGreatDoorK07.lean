/-
Texts of this proof, joined: VvC. No condition.
-/
import Derived.Test.YtllhnjpnkmjopaaGreatDoorK06
namespace Go.Proofs.YtllhnjpnkmjopaaGreatDoor
open Go.RowKit

structure RO (w : World) (x : Value) (xs : List Nat) : Prop where
  rw : RW w x xs
  row : 0 < xs.length → ∃ cx, w.heap[sBlk x]? = some (.cells cx 116 (0, 0))
theorem Own.ro {w : World} {B : Nat} {v : Value} {ds : List Nat} (h : Own w B 116 v (cellsW ds)) (hd : ∀ d ∈ ds, d < 18446744073709551616) : RO w v ds := by
  refine ⟨h.rw' hd, fun hl => ?_⟩
  rcases h.row with h0 | ⟨hb, cur, hg, -⟩
  · have h1 := h.len
    have h2 := h.isS.le
    rw [cellsW_length] at h1
    omega
  · exact ⟨cur, hg⟩
theorem RO.below {w w' : World} {x : Value} {xs : List Nat} (h : RO w x xs) (hb : Below w.heap.size w w') : RO w' x xs :=
  ⟨h.rw.below hb, fun hl => by obtain ⟨c, hr⟩ := h.row hl; exact ⟨c, keep_row hb hr⟩⟩
theorem RO.take {w : World} {x : Value} {xs : List Nat} (h : RO w x xs) {n : Nat} (hn : n ≤ xs.length) : RO w (subS x 0 n) (xs.take n) :=
  ⟨h.rw.take hn, fun hl => by rw [subS_blk h.rw.isS]; exact h.row (by rw [List.length_take] at hl; omega)⟩
theorem RO.drop {w : World} {x : Value} {xs : List Nat} (h : RO w x xs) {n : Nat} (hn : n ≤ xs.length) : RO w (subS x n xs.length) (xs.drop n) :=
  ⟨h.rw.dropW hn, fun hl => by rw [subS_blk h.rw.isS]; exact h.row (by rw [List.length_drop] at hl; omega)⟩
theorem Vv.rest {v x : Value} {n B i Z : Nat} {xs : List Nat} {w wr : World} (h : Vv v n B i Z w wr) (hi : i ≤ n) (hx : RW w x xs) (hl : xs.length = n) (hb : sBlk x = sBlk v) (ho : sOff x = sOff v) : VvP v n B (Z + 18446744073709551616 ^ i * wv (xs.drop i)) w wr := by
  obtain ⟨os, ds, h1, h2, h3, h4, h5, h6, h7, h8⟩ := h
  have e : os = cellsW (ds ++ xs.drop i) := by
    rw [← cellsW_append, ← h3]
    conv => lhs; rw [← List.take_append_drop i os]
    congr 1
    apply List.ext_getElem?
    intro j
    by_cases hj : i + j < n
    · have c1 := h1.cell (i := i + j) (List.getElem?_eq_getElem (by omega))
      have c2 := h8.cell (hx.cell (i + j) (by omega)) (fun _ => by omega)
      rw [hb, ho] at c2
      rw [c1] at c2
      have c3 := Option.some.inj c2
      rw [List.getElem?_drop, List.getElem?_eq_getElem (by omega), c3, cellsW, List.getElem?_map, List.getElem?_drop, List.getElem?_eq_getElem (by omega)]
      simp [List.getD_eq_getElem?_getD, List.getElem?_eq_getElem (show i + j < xs.length by omega)]
    · rw [List.getElem?_eq_none (by simp; omega), List.getElem?_eq_none (by rw [cellsW_length, List.length_drop]; omega)]
  have hd : ∀ d ∈ ds ++ xs.drop i, d < 18446744073709551616 := fun d hd => by
    rcases List.mem_append.1 hd with h | h
    · exact h5 d h
    · exact hx.lt d (List.mem_of_mem_drop h)
  have hlen : (ds ++ xs.drop i).length = n := by simp; omega
  rw [VvP, ← wdsN_eq hlen hd ⟨0, by rw [wv_append, h4, h6]; simp⟩, ← e]
  exact ⟨h1, h7, h8.mono (Nat.le_refl _) (by omega)⟩
theorem Vv.copied {v : Value} {n B i Z : Nat} {xs : List Nat} {w wr w2 : World} (h : Vv v n B i Z w wr) (hi : i ≤ n) (hd : ∀ d ∈ xs, d < 18446744073709551616) (hl : xs.length = n)
    (ho : Own w2 B 116 (subS v i n) (cellsW (xs.drop i))) (hb : Below B wr w2) (hf : FrB (sBlk v) (sOff v + i) (sOff v + n) wr w2) : VvP v n B (Z + 18446744073709551616 ^ i * wv (xs.drop i)) w w2 := by
  obtain ⟨os, ds, h1, h2, h3, h4, h5, h6, h7, h8⟩ := h
  have hp := h1.patch (l := i) (n := n) hi (by omega) (by rw [cellsW_length, List.length_drop]; omega) ho hf
  rw [h3, show os.drop n = [] from List.drop_of_length_le (by omega), List.append_nil, cellsW_append] at hp
  have hd2 : ∀ d ∈ ds ++ xs.drop i, d < 18446744073709551616 := fun d hd2 => by
    rcases List.mem_append.1 hd2 with h | h
    · exact h5 d h
    · exact hd d (List.mem_of_mem_drop h)
  have hlen : (ds ++ xs.drop i).length = n := by simp; omega
  rw [VvP, ← wdsN_eq hlen hd2 ⟨0, by rw [wv_append, h4, h6]; simp⟩]
  exact ⟨hp, h7.trans hb, (h8.mono (Nat.le_refl _) (by omega)).trans h7.size (hf.mono (by omega) (Nat.le_refl _))⟩
theorem neqW (w : World) {b o c q : Nat} {cb cc : Array Value} {tb tc : TypeId} (hne : b ≠ c) (hb : w.heap[b]? = some (.cells cb tb (0, 0))) (hc : w.heap[c]? = some (.cells cc tc (0, 0))) :
    (binOp .neq 202 (.pointer (some ⟨b, o, none⟩)) (.pointer (some ⟨c, q, none⟩))).run Tryz.prog w = .ok (.bool true) w := by
  obtain ⟨j, hj, hz⟩ := info_size sizeWord
  exact run_neq_ptr_other w Tryz.underlying202 hj (by omega) (by simp) hb hc
theorem wv_split (xs : List Nat) (i : Nat) (h : i ≤ xs.length) : wv xs = wv (xs.take i) + 18446744073709551616 ^ i * wv (xs.drop i) := by
  conv => lhs; rw [← List.take_append_drop i xs]
  rw [wv_append, List.length_take, Nat.min_eq_left h]
theorem Vv.rows {v x : Value} {n B i Z : Nat} {xs : List Nat} {w wr : World} (h : Vv v n B i Z w wr) (hc : 0 < sCap v) (hx : RO w x xs) (hl : 0 < xs.length) (hb : sBlk x ≠ sBlk v) :
    (∃ c t, wr.heap[sBlk v]? = some (.cells c t (0, 0))) ∧ ∃ c t, wr.heap[sBlk x]? = some (.cells c t (0, 0)) := by
  obtain ⟨os, ds, h1, h2, h3, h4, h5, h6, h7, h8⟩ := h
  refine ⟨?_, ?_⟩
  · rcases h1.row with h0 | ⟨-, cur, hg, -⟩
    · omega
    · exact ⟨cur, _, hg⟩
  · obtain ⟨c, hr⟩ := hx.row hl
    exact ⟨c, _, (h8.only _ (get_lt hr) hb).trans hr⟩
theorem Vv.all {v : Value} {n B i Z : Nat} {w wr : World} (h : Vv v n B i Z w wr) : ∃ os : List Value, os.length = n ∧ Own wr B 116 v os := by
  obtain ⟨os, ds, h1, h2, -⟩ := h
  exact ⟨os, h2, h1⟩
theorem VvP.drewN {v : Value} {n B Z k : Nat} {w w' : World} (h : VvP v n B Z w w') : VvP v n B Z w (w'.drewN k) := ⟨h.1.drewN _, undrewN' h.2.1, h.2.2.drewN⟩
theorem FrB.sub {v : Value} {l n : Nat} {w w' : World} (hS : IsS v) (h1 : l ≤ n) (h2 : n ≤ sCap v) (h : FrB (sBlk (subS v l n)) (sOff (subS v l n)) (sOff (subS v l n) + (n - l)) w w') : FrB (sBlk v) (sOff v + l) (sOff v + n) w w' := by
  rw [subS_blk hS] at h
  by_cases hlc : l < sCap v
  · rw [subS_off hS hlc] at h
    exact h.mono (Nat.le_refl _) (by omega)
  · refine ⟨h.only, fun cur e fr hr => ?_⟩
    obtain ⟨c1, k1, k2, k3⟩ := h.row cur e fr hr
    exact ⟨c1, k1, k2, fun i hi => k3 i (by omega)⟩
theorem VvP.patch {v : Value} {l n B Z : Nat} {os : List Value} {w w' : World} (ho : Own w B 116 v os) (h1 : l ≤ n) (h2 : n ≤ os.length) (h : VvP (subS v l n) (n - l) B Z w w') :
    Own w' B 116 v (os.take l ++ (cellsW (wdsN Z (n - l)) ++ os.drop n)) ∧ Below B w w' ∧ FrB (sBlk v) (sOff v + l) (sOff v + n) w w' := by
  have hl := ho.len
  have hc := ho.isS.le
  have hf := h.2.2.sub ho.isS h1 (by omega)
  exact ⟨ho.patch h1 h2 (by rw [cellsW_length, wdsN_length]) h.1 hf, h.2.1, hf⟩
theorem Vv.lt {v : Value} {n B i Z : Nat} {w wr : World} (h : Vv v n B i Z w wr) : Z < 18446744073709551616 ^ i := by
  obtain ⟨os', ds, g1, g2, g3, g4, g5, g6, g7, g8⟩ := h
  have := wv_lt g5
  rw [g4] at this; omega
theorem join_lt {Z D i n : Nat} (hZ : Z < 18446744073709551616 ^ i) (hi : i ≤ n) (hD : D < 18446744073709551616 ^ (n - i)) : Z + 18446744073709551616 ^ i * D < 18446744073709551616 ^ n := by
  have e : (18446744073709551616 : Nat) ^ n = 18446744073709551616 ^ i * 18446744073709551616 ^ (n - i) := by rw [← Nat.pow_add]; congr 1; omega
  have h := Nat.mul_le_mul_left (18446744073709551616 ^ i) (Nat.succ_le_of_lt hD)
  rw [Nat.mul_succ, ← e] at h
  omega
theorem at_drop {w : World} {x : Value} {xs : List Nat} {k : Nat} (hx : RW w x xs) : ∀ j u, (cellsW (xs.drop k))[j]? = some u → w.cell? ⟨sBlk x, sOff x + (k + j), none⟩ = some u := by
  intro j u hu
  rw [cellsW, List.getElem?_map, List.getElem?_drop] at hu
  have hlt : k + j < xs.length := by
    rcases Nat.lt_or_ge (k + j) xs.length with h | h
    · exact h
    · rw [List.getElem?_eq_none h] at hu; simp at hu
  rw [List.getElem?_eq_getElem hlt] at hu
  have := hx.cell (k + j) hlt
  rw [this]
  simp at hu
  rw [← hu]
  simp [List.getD_eq_getElem?_getD, List.getElem?_eq_getElem hlt]
theorem Vv.cpsrc {v x : Value} {n B i Z : Nat} {xs : List Nat} {w wr : World} (h : Vv v n B i Z w wr) (hx : RW w x xs) (hne : sBlk x ≠ sBlk v) {k L : Nat} (hL : xs.length = L) : ∀ j u, (cellsW (xs.drop k))[j]? = some u → wr.cell? ⟨sBlk (subS x k L), sOff (subS x k L) + j, none⟩ = some u := by
  intro j u hu
  have hlt : k + j < xs.length := by
    have h1 : j < (cellsW (xs.drop k)).length := (List.getElem?_eq_some_iff.1 hu).1
    rw [cellsW_length, List.length_drop] at h1; omega
  have hS := hx.isS
  have hc := hS.le
  have hl := hx.len
  rw [subS_blk hS, subS_off hS (by omega), Nat.add_assoc]
  obtain ⟨os', ds, g1, g2, g3, g4, g5, g6, g7, g8⟩ := h
  exact g8.cell (at_drop hx j u hu) (fun hb => absurd hb hne)
set_option maxRecDepth 100000 in
set_option maxHeartbeats 3200000 in
theorem subVW_gen (v x : Value) (os : List Value) (xs : List Nat) (y B : Nat) (w : World) (ho : Own w B 116 v os) (hx : RO w x xs) (hlx : xs.length = os.length) (hal : sBlk x = sBlk v → sOff x = sOff v) (hl0 : 0 < os.length) (hl : os.length ≤ 1000000000) (hy : y < 18446744073709551616) :
    Calls Tryz.prog 189 #[v, x, .int .u64 y] w fun e w' => ∃ c : Nat, e = .returned (.int .u64 c) ∧ ∃ Z, c ≤ 1 ∧ Z < 18446744073709551616 ^ os.length ∧ wv xs + 18446744073709551616 ^ os.length * c = Z + y ∧ VvP v os.length B Z w w' := by
  have hS := ho.isS
  have hSx := hx.rw.isS
  obtain ⟨L, hLw⟩ : ∃ L, L = os.length := ⟨_, rfl⟩
  have hL : sLen v = L := by rw [hLw]; exact ho.len
  have hLx : sLen x = L := by rw [hx.rw.len, hlx, hLw]
  rw [← hLw] at hl hl0 ⊢
  have hcap : 0 < sCap v := by have := hS.le; omega
  have hB := (ho.lt hcap).1
  have R0 := Vv.start ho hLw.symm
  have HXL : Hid (xs.length = L) := Lib.hid (by omega)
  have hal2 : ∀ (i Z : Nat) (wr : World), Vv v L B i Z w wr → i < L → wr.cell? ⟨sBlk x, sOff x + i, none⟩ = some (.int .u64 ((xs.getD i 0 : Nat) : Int)) := fun i Z wr h hi => h.src hx.rw (fun hb => by rw [hal hb]; exact Nat.le_refl _) (Nat.le_refl _) (by omega)
  have HSRC := Lib.hid hal2
  have c0 := hal2 _ _ _ R0 (by omega)
  rw [Nat.add_zero] at c0
  have f0 := R0.frozen hcap (sOff v)
  have hdl := getD_ltW hx.rw.lt 0
  obtain ⟨u0, v0⟩ := R0.own (k := 0) hl0
  rw [Nat.add_zero] at v0
  have hw0 := wv_take_succ (ws := xs) (i := 0) (by omega)
  obtain ⟨d0, hdd⟩ : ∃ d, d = xs.getD 0 0 := ⟨_, rfl⟩
  rw [← hdd] at c0 hdl hw0
  obtain ⟨c, s, hcs, hs, hc1⟩ : ∃ c s, d0 + 18446744073709551616 * c = s + y + 0 ∧ s < 18446744073709551616 ∧ c ≤ 1 := by
    by_cases h : d0 < y
    · exact ⟨1, d0 + 18446744073709551616 - y, by omega, by omega, by omega⟩
    · exact ⟨0, d0 - y, by omega, by omega, by omega⟩
  have HCS := Lib.hid hcs
  have P1 := R0.put (i := 0) (by omega) hB hs
  simp only [Nat.add_zero, Nat.pow_zero, Nat.one_mul, Nat.zero_add] at P1
  have hw1 : wv (xs.take 1) = d0 := by rw [hw0]; simp [wv]
  have HP1 := Lib.hid P1
  have HX := Lib.hid hx
  -- the ways out
  have hend : ∀ (i Z : Nat) (w2 : World), 0 < i → i ≤ L → (wv (xs.take i) = Z + y) → Z < 18446744073709551616 ^ i → VvP v L B (Z + 18446744073709551616 ^ i * wv (xs.drop i)) w w2 →
      ∃ Z, (0 : Nat) ≤ 1 ∧ Z < 18446744073709551616 ^ L ∧ wv xs = Z + y ∧ VvP v L B Z w w2 := fun i Z w2 hi0 hi hZ hZl hP => by
    have hsp := wv_split xs i (by omega)
    have hdl : wv (xs.drop i) < 18446744073709551616 ^ (L - i) := by
      have := wv_lt (a := xs.drop i) (fun d hd => hx.rw.lt d (List.mem_of_mem_drop hd))
      rw [List.length_drop, hlx, ← hLw] at this; exact this
    have hjl := join_lt hZl hi hdl
    exact ⟨_, by omega, hjl, by omega, hP⟩
  have HEND := Lib.hid hend
  clear ho hx hlx hLw hdd hw0 hcs hend hal2 P1
  by_cases hbk : sBlk x = sBlk v
  · have hok := hal hbk
    have HBK := Lib.hid hbk
    have HOK := Lib.hid hok
    have hpx : ∀ (w : World), (binOp .neq 202 (.pointer (some ⟨sBlk v, sOff v, none⟩)) (.pointer (some ⟨sBlk x, sOff x, none⟩))).run Tryz.prog w = .ok (.bool false) w := fun w => by rw [hbk, hok]; exact neqW_same w _
    clear hal hbk hok
    rcases (by omega : c = 0 ∨ c = 1) with rfl | rfl
    · have FIN := Lib.hid (HEND.out 1 s _ (by omega) hl0 (by rw [hw1]; have := HCS.out; omega) HP1.out.lt (HP1.out.rest hl0 HX.out.rw HXL.out HBK.out HOK.out))
      go_enter Tryz.func189, Tryz.ntmps189
      go_wp2_with fail
      refine (bitsSubC d0 y 0 s 0 w (by decide) (by decide) HCS.out hdl hy hs).mono ?_
      rintro _ w1 ⟨rfl, hw1⟩
      rw [hw1]
      clear hw1
      go_wp2_with fail
      go_quiet (fail)
      go_wp2
      go_ret
      obtain ⟨Z, g1, g2, g3, g4⟩ := FIN.out
      exact ⟨0, rfl, Z, g1, g2, g3, g4.drewN⟩
    · go_enter Tryz.func189, Tryz.ntmps189
      go_wp2_with fail
      refine (bitsSubC d0 y 0 s 1 w (by decide) (by decide) HCS.out hdl hy hs).mono ?_
      rintro _ w1 ⟨rfl, hw1⟩
      rw [hw1]
      clear hw1
      go_wp2
      go_loopw [9] (fun i wr => ∃ k Z : Nat, 1 ≤ k ∧ k ≤ L ∧ i = .int .i64 k ∧ wv (xs.take k) + 18446744073709551616 ^ k = Z + y ∧ Vv v L B k Z w wr) (fun i _ => L - (intOf i).toNat)
      case atStart => exact ⟨1, s, Nat.le_refl _, hl0, rfl, by rw [hw1, Nat.pow_one]; have := HCS.out; omega, HP1.out⟩
      case round =>
        obtain ⟨k, Z, hk1, hk, rfl, hZ, hrel⟩ := hrel
        have HREL := Lib.hid hrel
        have HZ := Lib.hid hZ
        rcases Nat.lt_or_ge k L with hkL | hkL
        · have c1 := HSRC.out _ _ _ hrel hkL
          have fz := hrel.frozen hcap (sOff v + k)
          obtain ⟨uk, vk⟩ := hrel.own hkL
          have hdk := getD_ltW HX.out.rw.lt k
          have hwk := wv_take_succ (ws := xs) (i := k) (by rw [HXL.out]; exact hkL)
          obtain ⟨d, hd⟩ : ∃ d, d = xs.getD k 0 := ⟨_, rfl⟩
          rw [← hd] at c1 hdk hwk
          have HWK := Lib.hid hwk
          clear hd hwk hZ hrel
          by_cases hmx : d = 0
          · subst hmx
            have PUT := Lib.hid (HREL.out.put hkL hB (d := 18446744073709551615) (by decide))
            have HR : Hid (wv (xs.take (k + 1)) + 18446744073709551616 ^ (k + 1) = Z + 18446744073709551616 ^ k * 18446744073709551615 + y) := Lib.hid (by
              have h1 := HWK.out; have h2 := HZ.out; have h3 := Nat.pow_succ (n := 18446744073709551616) (m := k)
              omega)
            go_wp2
            exact ⟨⟨k + 1, _, by omega, by omega, by go_num, HR.out, PUT.out⟩, by simp [intOf]; omega⟩
          · obtain ⟨d1, hd1⟩ : ∃ d1, d1 = d - 1 := ⟨_, rfl⟩
            have hwr : IntKind.u64.wrap ((d : Int) - 1) = (d1 : Int) := by rw [IntKind.wrap_u64, hd1]; omega
            have tm : ((d : Int) != 0) = true := by rw [bne_iff_ne]; omega
            have PUT := HREL.out.put hkL hB (d := d1) (by omega)
            have hok2 : wv (xs.take (k + 1)) = Z + 18446744073709551616 ^ k * d1 + y := by
              have h1 := HWK.out; have h2 := HZ.out
              have h3 : d = d1 + 1 := by omega
              rw [h3, Nat.mul_add, Nat.mul_one] at h1; omega
            have FIN := Lib.hid (HEND.out (k + 1) _ _ (by omega) (by omega) hok2 PUT.lt (PUT.rest (by omega) HX.out.rw HXL.out HBK.out HOK.out))
            clear hmx hd1 PUT hok2
            go_wp2_with fail
            go_quiet (fail)
            go_wp2
            go_ret
            obtain ⟨Z, g1, g2, g3, g4⟩ := FIN.out
            exact ⟨0, rfl, Z, g1, g2, g3, g4.drewN⟩
        · have hkk : k = L := by omega
          subst hkk
          have FIN : Hid (∃ Z, (1 : Nat) ≤ 1 ∧ Z < 18446744073709551616 ^ k ∧ wv xs + 18446744073709551616 ^ k * 1 = Z + y ∧ VvP v k B Z w wr) := Lib.hid (by
            rw [List.take_of_length_le (by rw [HXL.out]; exact Nat.le_refl _)] at hZ
            exact ⟨Z, Nat.le_refl _, hrel.lt, by omega, hrel.done 0 (by omega)⟩)
          clear hZ HZ hrel HREL
          go_wp2
          go_ret
          exact ⟨1, rfl, FIN.out⟩
  · have HBK := Lib.hid hbk
    have HSX := Lib.hid (show IsS x from hSx)
    clear hal hbk
    have hcpx : 0 < sCap x := by have := hSx.le; omega
    have HNE : Hid (∀ (i Z : Nat) (wr : World), Vv v L B i Z w wr → (binOp .neq 202 (.pointer (some ⟨sBlk v, sOff v, none⟩)) (.pointer (some ⟨sBlk x, sOff x, none⟩))).run Tryz.prog wr = .ok (.bool true) wr) := Lib.hid (fun _ _ _ h => by
      obtain ⟨⟨c1, t1, h1⟩, c2, t2, h2⟩ := h.rows hcap HX.out (by rw [HXL.out]; exact hl0) HBK.out
      exact neqW _ (fun hc => HBK.out hc.symm) h1 h2)
    have HCP : Hid (∀ (i Z : Nat) (wr : World), Vv v L B i Z w wr → 0 < i → i ≤ L → ∃ os' : List Value, Own wr B 116 (subS v i L) os' ∧ (cellsW (xs.drop i)).length = os'.length ∧ os'.length = L - i) := Lib.hid (fun _ _ _ h hi0 hi => by
      obtain ⟨os', h1, h2⟩ := h.all
      have := h2.sub (l := _) (n := L) hi (by omega)
      exact ⟨_, this, by rw [cellsW_length, List.length_drop, HXL.out]; simp; omega, by simp; omega⟩)
    rcases (by omega : c = 0 ∨ c = 1) with rfl | rfl
    · have hpx := fun n => HNE.out _ _ _ (HP1.out.drewN (k := n))
      obtain ⟨os', ho', hl', hll⟩ := HCP.out _ _ _ HP1.out (by omega) hl0
      obtain ⟨T, hT⟩ : ∃ T, T = cellsW (xs.drop 1) := ⟨_, rfl⟩
      have HT := Lib.hid hT
      have HLL := Lib.hid hll
      have HO' := Lib.hid ho'
      rw [← hT] at hl'
      have HL' := Lib.hid hl'
      have hSv1 := ho'.isS
      have hSx1 : IsS (subS x 1 L) := subS_isS hSx hl0 (by have := hSx.le; omega)
      clear ho' hl' hll hT
      go_enter Tryz.func189, Tryz.ntmps189
      go_wp2_with fail
      refine (bitsSubC d0 y 0 s 0 w (by decide) (by decide) HCS.out hdl hy hs).mono ?_
      rintro _ w1 ⟨rfl, hw1⟩
      rw [hw1]
      clear hw1
      go_wp2_with fail
      go_quiet (fail)
      go_wp2_with fail
      (refine wp_region_hoist 4 (by kernel_rfl) (by kernel_rfl) ⟨fun _ _ _ h => (by first | exact (hQp _ _ _ h).elim | cases h.2.1 | (obtain ⟨_, h3, _⟩ := h.2; cases h3)), fun _ _ h => (by first | exact (hQo _ _ h).elim | cases h.1 | (obtain ⟨_, h3, _⟩ := h; cases h3))⟩ ?_; simp only [List.take_succ_cons, List.take_zero, List.drop_succ_cons, List.drop_zero]; (repeat (go_big_quiet_step (fail))); refine wpQuiet_nil ?_; rintro _ ⟨nq, rfl⟩)
      go_wp2_with (refine wpList_copy_W (o := ⟨some 43, _, _, _, _, _⟩) rfl (.tmp 40) (.tmp 42) 107 107 rfl 116 Tryz.underlying107 sizeW (subS v 1 L) (subS x 1 L) rfl rfl B os' ((HO'.out.drewN _).drewN _) T ?d1 hSx1 ?d2 ?d3 (by rw [HT.out]; exact cellsW_one _) ?_)
      case d1 => exact HL'.out
      case d2 => rw [HT.out, subS_len hSx, cellsW_length, List.length_drop, HXL.out]
      case d3 => rw [HT.out]; exact (HP1.out.drewN.drewN).cpsrc HX.out.rw HBK.out HXL.out
      intro w2 ho2 hb2 hf2 _
      rw [HLL.out] at hf2
      rw [HT.out] at ho2
      have FIN := Lib.hid (HEND.out 1 s w2 (by omega) hl0 (by rw [hw1]; have := HCS.out; omega) HP1.out.lt (HP1.out.copied hl0 HX.out.rw.lt HXL.out ho2 (undrewN hb2) (FrB.sub hS hl0 (by have := hS.le; omega) hf2.undrewN)))
      clear ho2 hb2 hf2
      go_wp2
      go_ret
      exact ⟨0, rfl, FIN.out⟩
    · go_enter Tryz.func189, Tryz.ntmps189
      go_wp2_with fail
      refine (bitsSubC d0 y 0 s 1 w (by decide) (by decide) HCS.out hdl hy hs).mono ?_
      rintro _ w1 ⟨rfl, hw1⟩
      rw [hw1]
      clear hw1
      go_wp2
      go_loopw [9] (fun i wr => ∃ k Z : Nat, 1 ≤ k ∧ k ≤ L ∧ i = .int .i64 k ∧ wv (xs.take k) + 18446744073709551616 ^ k = Z + y ∧ Vv v L B k Z w wr) (fun i _ => L - (intOf i).toNat)
      case atStart => exact ⟨1, s, Nat.le_refl _, hl0, rfl, by rw [hw1, Nat.pow_one]; have := HCS.out; omega, HP1.out⟩
      case round =>
        obtain ⟨k, Z, hk1, hk, rfl, hZ, hrel⟩ := hrel
        have HREL := Lib.hid hrel
        have HZ := Lib.hid hZ
        rcases Nat.lt_or_ge k L with hkL | hkL
        · have c1 := HSRC.out _ _ _ hrel hkL
          have fz := hrel.frozen hcap (sOff v + k)
          obtain ⟨uk, vk⟩ := hrel.own hkL
          have hdk := getD_ltW HX.out.rw.lt k
          have hwk := wv_take_succ (ws := xs) (i := k) (by rw [HXL.out]; exact hkL)
          obtain ⟨d, hd⟩ : ∃ d, d = xs.getD k 0 := ⟨_, rfl⟩
          rw [← hd] at c1 hdk hwk
          have HWK := Lib.hid hwk
          clear hd hwk hZ hrel
          by_cases hmx : d = 0
          · subst hmx
            have PUT := Lib.hid (HREL.out.put hkL hB (d := 18446744073709551615) (by decide))
            have HR : Hid (wv (xs.take (k + 1)) + 18446744073709551616 ^ (k + 1) = Z + 18446744073709551616 ^ k * 18446744073709551615 + y) := Lib.hid (by
              have h1 := HWK.out; have h2 := HZ.out; have h3 := Nat.pow_succ (n := 18446744073709551616) (m := k)
              omega)
            go_wp2
            exact ⟨⟨k + 1, _, by omega, by omega, by go_num, HR.out, PUT.out⟩, by simp [intOf]; omega⟩
          · obtain ⟨d1, hd1⟩ : ∃ d1, d1 = d - 1 := ⟨_, rfl⟩
            have hwr : IntKind.u64.wrap ((d : Int) - 1) = (d1 : Int) := by rw [IntKind.wrap_u64, hd1]; omega
            have tm : ((d : Int) != 0) = true := by rw [bne_iff_ne]; omega
            have PUT := HREL.out.put hkL hB (d := d1) (by omega)
            have hok2 : wv (xs.take (k + 1)) = Z + 18446744073709551616 ^ k * d1 + y := by
              have h1 := HWK.out; have h2 := HZ.out
              have h3 : d = d1 + 1 := by omega
              rw [h3, Nat.mul_add, Nat.mul_one] at h1; omega
            have hpx := fun n => HNE.out _ _ _ (PUT.drewN (k := n))
            obtain ⟨os', ho', hl', hll⟩ := HCP.out _ _ _ PUT (by omega) (by omega)
            have HO' := Lib.hid ho'
            have HL' := Lib.hid hl'
            have HPUT := Lib.hid PUT
            have HOK2 := Lib.hid hok2
            have hk1w : IntKind.i64.wrap ((k : Int) + 1) = ((k + 1 : Nat) : Int) := by rw [IntKind.wrap_i64]; omega
            obtain ⟨k1, hk1e⟩ : ∃ k1, k1 = k + 1 := ⟨_, rfl⟩
            have HK1 := Lib.hid hk1e
            rw [← hk1e] at hk1w hll HO' HL'
            have HLL := Lib.hid hll
            obtain ⟨T, hT⟩ : ∃ T, T = cellsW (xs.drop k1) := ⟨_, rfl⟩
            rw [← hT] at HL'
            have HT := Lib.hid hT
            have hk1L : k1 ≤ L := by omega
            have hSv1 : IsS (subS v k1 L) := subS_isS hS hk1L (by have := hS.le; omega)
            have hSx1 : IsS (subS x k1 L) := subS_isS hSx hk1L (by have := hSx.le; omega)
            clear hmx hd1 PUT hok2 ho' hl' hk1e hll hT
            go_wp2_with fail
            go_quiet (fail)
            go_wp2_with fail
            (refine wp_region_hoist 8 (by kernel_rfl) (by kernel_rfl) ⟨fun _ _ _ h => (by first | exact (hQp _ _ _ h).elim | cases h.2.1 | (obtain ⟨_, h3, _⟩ := h.2; cases h3)), fun _ _ h => (by first | exact (hQo _ _ h).elim | cases h.1 | (obtain ⟨_, h3, _⟩ := h; cases h3))⟩ ?_; simp only [List.take_succ_cons, List.take_zero, List.drop_succ_cons, List.drop_zero]; (repeat (go_big_quiet_step (fail))); refine wpQuiet_nil ?_; rintro _ ⟨nq, rfl⟩)
            go_wp2_with (refine wpList_copy_W (o := ⟨some 74, _, _, _, _, _⟩) rfl (.tmp 69) (.tmp 73) 107 107 rfl 116 Tryz.underlying107 sizeW (subS v k1 L) (subS x k1 L) rfl rfl B os' ((HO'.out.drewN _).drewN _) T ?d1 hSx1 ?d2 ?d3 (by rw [HT.out]; exact cellsW_one _) ?_)
            case d1 => exact HL'.out
            case d2 => rw [HT.out, subS_len hSx, cellsW_length, List.length_drop, HXL.out]
            case d3 => rw [HT.out]; exact (HPUT.out.drewN.drewN).cpsrc HX.out.rw HBK.out HXL.out
            intro w2 ho2 hb2 hf2 _
            rw [HLL.out] at hf2
            rw [HT.out] at ho2
            rw [HK1.out] at ho2 hf2
            have FIN := Lib.hid (HEND.out (k + 1) _ w2 (by omega) (by omega) HOK2.out HPUT.out.lt (HPUT.out.copied (by omega) HX.out.rw.lt HXL.out ho2 (undrewN hb2) (FrB.sub hS (by omega) (by have := hS.le; omega) hf2.undrewN)))
            clear ho2 hb2 hf2
            go_wp2
            go_ret
            exact ⟨0, rfl, FIN.out⟩
        · have hkk : k = L := by omega
          subst hkk
          have FIN : Hid (∃ Z, (1 : Nat) ≤ 1 ∧ Z < 18446744073709551616 ^ k ∧ wv xs + 18446744073709551616 ^ k * 1 = Z + y ∧ VvP v k B Z w wr) := Lib.hid (by
            rw [List.take_of_length_le (by rw [HXL.out]; exact Nat.le_refl _)] at hZ
            exact ⟨Z, Nat.le_refl _, hrel.lt, by omega, hrel.done 0 (by omega)⟩)
          clear hZ HZ hrel HREL
          go_wp2
          go_ret
          exact ⟨1, rfl, FIN.out⟩
set_option maxRecDepth 100000 in
set_option maxHeartbeats 3200000 in
theorem addVW_gen (v x : Value) (os : List Value) (xs : List Nat) (y B : Nat) (w : World) (ho : Own w B 116 v os) (hx : RO w x xs) (hlx : xs.length = os.length) (hal : sBlk x = sBlk v → sOff x = sOff v) (hl0 : 0 < os.length) (hl : os.length ≤ 1000000000) (hy : y < 18446744073709551616) :
    Calls Tryz.prog 154 #[v, x, .int .u64 y] w fun e w' => ∃ c : Nat, e = .returned (.int .u64 c) ∧ ∃ Z, c ≤ 1 ∧ Z < 18446744073709551616 ^ os.length ∧ wv xs + y = Z + 18446744073709551616 ^ os.length * c ∧ VvP v os.length B Z w w' := by
  have hS := ho.isS
  have hSx := hx.rw.isS
  obtain ⟨L, hLw⟩ : ∃ L, L = os.length := ⟨_, rfl⟩
  have hL : sLen v = L := by rw [hLw]; exact ho.len
  have hLx : sLen x = L := by rw [hx.rw.len, hlx, hLw]
  rw [← hLw] at hl hl0 ⊢
  have hcap : 0 < sCap v := by have := hS.le; omega
  have hB := (ho.lt hcap).1
  have R0 := Vv.start ho hLw.symm
  have HXL : Hid (xs.length = L) := Lib.hid (by omega)
  have hal2 : ∀ (i Z : Nat) (wr : World), Vv v L B i Z w wr → i < L → wr.cell? ⟨sBlk x, sOff x + i, none⟩ = some (.int .u64 ((xs.getD i 0 : Nat) : Int)) := fun i Z wr h hi => h.src hx.rw (fun hb => by rw [hal hb]; exact Nat.le_refl _) (Nat.le_refl _) (by omega)
  have HSRC := Lib.hid hal2
  have c0 := hal2 _ _ _ R0 (by omega)
  rw [Nat.add_zero] at c0
  have f0 := R0.frozen hcap (sOff v)
  have hdl := getD_ltW hx.rw.lt 0
  obtain ⟨u0, v0⟩ := R0.own (k := 0) hl0
  rw [Nat.add_zero] at v0
  have hw0 := wv_take_succ (ws := xs) (i := 0) (by omega)
  obtain ⟨d0, hdd⟩ : ∃ d, d = xs.getD 0 0 := ⟨_, rfl⟩
  rw [← hdd] at c0 hdl hw0
  obtain ⟨c, s, hcs, hs, hc1⟩ : ∃ c s, d0 + y + 0 = s + 18446744073709551616 * c ∧ s < 18446744073709551616 ∧ c ≤ 1 := ⟨(d0 + y) / 18446744073709551616, (d0 + y) % 18446744073709551616, by omega, by omega, by omega⟩
  have HCS := Lib.hid hcs
  have P1 := R0.put (i := 0) (by omega) hB hs
  simp only [Nat.add_zero, Nat.pow_zero, Nat.one_mul, Nat.zero_add] at P1
  have hw1 : wv (xs.take 1) = d0 := by rw [hw0]; simp [wv]
  have HP1 := Lib.hid P1
  have HX := Lib.hid hx
  -- the ways out
  have hend : ∀ (i Z : Nat) (w2 : World), 0 < i → i ≤ L → (wv (xs.take i) + y = Z) → Z < 18446744073709551616 ^ i → VvP v L B (Z + 18446744073709551616 ^ i * wv (xs.drop i)) w w2 →
      ∃ Z, (0 : Nat) ≤ 1 ∧ Z < 18446744073709551616 ^ L ∧ wv xs + y = Z ∧ VvP v L B Z w w2 := fun i Z w2 hi0 hi hZ hZl hP => by
    have hsp := wv_split xs i (by omega)
    have hdl : wv (xs.drop i) < 18446744073709551616 ^ (L - i) := by
      have := wv_lt (a := xs.drop i) (fun d hd => hx.rw.lt d (List.mem_of_mem_drop hd))
      rw [List.length_drop, hlx, ← hLw] at this; exact this
    have hjl := join_lt hZl hi hdl
    exact ⟨_, by omega, hjl, by omega, hP⟩
  have HEND := Lib.hid hend
  clear ho hx hlx hLw hdd hw0 hcs hend hal2 P1
  by_cases hbk : sBlk x = sBlk v
  · have hok := hal hbk
    have HBK := Lib.hid hbk
    have HOK := Lib.hid hok
    have hpx : ∀ (w : World), (binOp .neq 202 (.pointer (some ⟨sBlk v, sOff v, none⟩)) (.pointer (some ⟨sBlk x, sOff x, none⟩))).run Tryz.prog w = .ok (.bool false) w := fun w => by rw [hbk, hok]; exact neqW_same w _
    clear hal hbk hok
    rcases (by omega : c = 0 ∨ c = 1) with rfl | rfl
    · have FIN := Lib.hid (HEND.out 1 s _ (by omega) hl0 (by rw [hw1]; have := HCS.out; omega) HP1.out.lt (HP1.out.rest hl0 HX.out.rw HXL.out HBK.out HOK.out))
      go_enter Tryz.func154, Tryz.ntmps154
      go_wp2_with fail
      refine (bitsAddC d0 y 0 s 0 w (by decide) HCS.out hs).mono ?_
      rintro _ w1 ⟨rfl, hw1⟩
      rw [hw1]
      clear hw1
      go_wp2_with fail
      go_quiet (fail)
      go_wp2
      go_ret
      obtain ⟨Z, g1, g2, g3, g4⟩ := FIN.out
      exact ⟨0, rfl, Z, g1, g2, g3, g4.drewN⟩
    · go_enter Tryz.func154, Tryz.ntmps154
      go_wp2_with fail
      refine (bitsAddC d0 y 0 s 1 w (by decide) HCS.out hs).mono ?_
      rintro _ w1 ⟨rfl, hw1⟩
      rw [hw1]
      clear hw1
      go_wp2
      go_loopw [9] (fun i wr => ∃ k Z : Nat, 1 ≤ k ∧ k ≤ L ∧ i = .int .i64 k ∧ wv (xs.take k) + y = Z + 18446744073709551616 ^ k ∧ Vv v L B k Z w wr) (fun i _ => L - (intOf i).toNat)
      case atStart => exact ⟨1, s, Nat.le_refl _, hl0, rfl, by rw [hw1, Nat.pow_one]; have := HCS.out; omega, HP1.out⟩
      case round =>
        obtain ⟨k, Z, hk1, hk, rfl, hZ, hrel⟩ := hrel
        have HREL := Lib.hid hrel
        have HZ := Lib.hid hZ
        rcases Nat.lt_or_ge k L with hkL | hkL
        · have c1 := HSRC.out _ _ _ hrel hkL
          have fz := hrel.frozen hcap (sOff v + k)
          obtain ⟨uk, vk⟩ := hrel.own hkL
          have hdk := getD_ltW HX.out.rw.lt k
          have hwk := wv_take_succ (ws := xs) (i := k) (by rw [HXL.out]; exact hkL)
          obtain ⟨d, hd⟩ : ∃ d, d = xs.getD k 0 := ⟨_, rfl⟩
          rw [← hd] at c1 hdk hwk
          have HWK := Lib.hid hwk
          clear hd hwk hZ hrel
          by_cases hmx : d = 18446744073709551615
          · subst hmx
            have PUT := Lib.hid (HREL.out.put hkL hB (d := 0) (by decide))
            have HR : Hid (wv (xs.take (k + 1)) + y = Z + 18446744073709551616 ^ k * 0 + 18446744073709551616 ^ (k + 1)) := Lib.hid (by
              have h1 := HWK.out; have h2 := HZ.out; have h3 := Nat.pow_succ (n := 18446744073709551616) (m := k)
              omega)
            go_wp2
            exact ⟨⟨k + 1, _, by omega, by omega, by go_num, HR.out, PUT.out⟩, by simp [intOf]; omega⟩
          · obtain ⟨d1, hd1⟩ : ∃ d1, d1 = d + 1 := ⟨_, rfl⟩
            have hwr : IntKind.u64.wrap ((d : Int) + 1) = (d1 : Int) := by rw [IntKind.wrap_u64, hd1]; omega
            have tm : ((d : Int) != 18446744073709551615) = true := by rw [bne_iff_ne]; omega
            have PUT := HREL.out.put hkL hB (d := d1) (by omega)
            have hok2 : wv (xs.take (k + 1)) + y = Z + 18446744073709551616 ^ k * d1 := by
              have h1 := HWK.out; have h2 := HZ.out
              rw [hd1, Nat.mul_add, Nat.mul_one]; omega
            have FIN := Lib.hid (HEND.out (k + 1) _ _ (by omega) (by omega) hok2 PUT.lt (PUT.rest (by omega) HX.out.rw HXL.out HBK.out HOK.out))
            clear hmx hd1 PUT hok2
            go_wp2_with fail
            go_quiet (fail)
            go_wp2
            go_ret
            obtain ⟨Z, g1, g2, g3, g4⟩ := FIN.out
            exact ⟨0, rfl, Z, g1, g2, g3, g4.drewN⟩
        · have hkk : k = L := by omega
          subst hkk
          have FIN : Hid (∃ Z, (1 : Nat) ≤ 1 ∧ Z < 18446744073709551616 ^ k ∧ wv xs + y = Z + 18446744073709551616 ^ k * 1 ∧ VvP v k B Z w wr) := Lib.hid (by
            rw [List.take_of_length_le (by rw [HXL.out]; exact Nat.le_refl _)] at hZ
            exact ⟨Z, Nat.le_refl _, hrel.lt, by omega, hrel.done 0 (by omega)⟩)
          clear hZ HZ hrel HREL
          go_wp2
          go_ret
          exact ⟨1, rfl, FIN.out⟩
  · have HBK := Lib.hid hbk
    have HSX := Lib.hid (show IsS x from hSx)
    clear hal hbk
    have hcpx : 0 < sCap x := by have := hSx.le; omega
    have HNE : Hid (∀ (i Z : Nat) (wr : World), Vv v L B i Z w wr → (binOp .neq 202 (.pointer (some ⟨sBlk v, sOff v, none⟩)) (.pointer (some ⟨sBlk x, sOff x, none⟩))).run Tryz.prog wr = .ok (.bool true) wr) := Lib.hid (fun _ _ _ h => by
      obtain ⟨⟨c1, t1, h1⟩, c2, t2, h2⟩ := h.rows hcap HX.out (by rw [HXL.out]; exact hl0) HBK.out
      exact neqW _ (fun hc => HBK.out hc.symm) h1 h2)
    have HCP : Hid (∀ (i Z : Nat) (wr : World), Vv v L B i Z w wr → 0 < i → i ≤ L → ∃ os' : List Value, Own wr B 116 (subS v i L) os' ∧ (cellsW (xs.drop i)).length = os'.length ∧ os'.length = L - i) := Lib.hid (fun _ _ _ h hi0 hi => by
      obtain ⟨os', h1, h2⟩ := h.all
      have := h2.sub (l := _) (n := L) hi (by omega)
      exact ⟨_, this, by rw [cellsW_length, List.length_drop, HXL.out]; simp; omega, by simp; omega⟩)
    rcases (by omega : c = 0 ∨ c = 1) with rfl | rfl
    · have hpx := fun n => HNE.out _ _ _ (HP1.out.drewN (k := n))
      obtain ⟨os', ho', hl', hll⟩ := HCP.out _ _ _ HP1.out (by omega) hl0
      obtain ⟨T, hT⟩ : ∃ T, T = cellsW (xs.drop 1) := ⟨_, rfl⟩
      have HT := Lib.hid hT
      have HLL := Lib.hid hll
      have HO' := Lib.hid ho'
      rw [← hT] at hl'
      have HL' := Lib.hid hl'
      have hSv1 := ho'.isS
      have hSx1 : IsS (subS x 1 L) := subS_isS hSx hl0 (by have := hSx.le; omega)
      clear ho' hl' hll hT
      go_enter Tryz.func154, Tryz.ntmps154
      go_wp2_with fail
      refine (bitsAddC d0 y 0 s 0 w (by decide) HCS.out hs).mono ?_
      rintro _ w1 ⟨rfl, hw1⟩
      rw [hw1]
      clear hw1
      go_wp2_with fail
      go_quiet (fail)
      go_wp2_with fail
      (refine wp_region_hoist 4 (by kernel_rfl) (by kernel_rfl) ⟨fun _ _ _ h => (by first | exact (hQp _ _ _ h).elim | cases h.2.1 | (obtain ⟨_, h3, _⟩ := h.2; cases h3)), fun _ _ h => (by first | exact (hQo _ _ h).elim | cases h.1 | (obtain ⟨_, h3, _⟩ := h; cases h3))⟩ ?_; simp only [List.take_succ_cons, List.take_zero, List.drop_succ_cons, List.drop_zero]; (repeat (go_big_quiet_step (fail))); refine wpQuiet_nil ?_; rintro _ ⟨nq, rfl⟩)
      go_wp2_with (refine wpList_copy_W (o := ⟨some 43, _, _, _, _, _⟩) rfl (.tmp 40) (.tmp 42) 107 107 rfl 116 Tryz.underlying107 sizeW (subS v 1 L) (subS x 1 L) rfl rfl B os' ((HO'.out.drewN _).drewN _) T ?d1 hSx1 ?d2 ?d3 (by rw [HT.out]; exact cellsW_one _) ?_)
      case d1 => exact HL'.out
      case d2 => rw [HT.out, subS_len hSx, cellsW_length, List.length_drop, HXL.out]
      case d3 => rw [HT.out]; exact (HP1.out.drewN.drewN).cpsrc HX.out.rw HBK.out HXL.out
      intro w2 ho2 hb2 hf2 _
      rw [HLL.out] at hf2
      rw [HT.out] at ho2
      have FIN := Lib.hid (HEND.out 1 s w2 (by omega) hl0 (by rw [hw1]; have := HCS.out; omega) HP1.out.lt (HP1.out.copied hl0 HX.out.rw.lt HXL.out ho2 (undrewN hb2) (FrB.sub hS hl0 (by have := hS.le; omega) hf2.undrewN)))
      clear ho2 hb2 hf2
      go_wp2
      go_ret
      exact ⟨0, rfl, FIN.out⟩
    · go_enter Tryz.func154, Tryz.ntmps154
      go_wp2_with fail
      refine (bitsAddC d0 y 0 s 1 w (by decide) HCS.out hs).mono ?_
      rintro _ w1 ⟨rfl, hw1⟩
      rw [hw1]
      clear hw1
      go_wp2
      go_loopw [9] (fun i wr => ∃ k Z : Nat, 1 ≤ k ∧ k ≤ L ∧ i = .int .i64 k ∧ wv (xs.take k) + y = Z + 18446744073709551616 ^ k ∧ Vv v L B k Z w wr) (fun i _ => L - (intOf i).toNat)
      case atStart => exact ⟨1, s, Nat.le_refl _, hl0, rfl, by rw [hw1, Nat.pow_one]; have := HCS.out; omega, HP1.out⟩
      case round =>
        obtain ⟨k, Z, hk1, hk, rfl, hZ, hrel⟩ := hrel
        have HREL := Lib.hid hrel
        have HZ := Lib.hid hZ
        rcases Nat.lt_or_ge k L with hkL | hkL
        · have c1 := HSRC.out _ _ _ hrel hkL
          have fz := hrel.frozen hcap (sOff v + k)
          obtain ⟨uk, vk⟩ := hrel.own hkL
          have hdk := getD_ltW HX.out.rw.lt k
          have hwk := wv_take_succ (ws := xs) (i := k) (by rw [HXL.out]; exact hkL)
          obtain ⟨d, hd⟩ : ∃ d, d = xs.getD k 0 := ⟨_, rfl⟩
          rw [← hd] at c1 hdk hwk
          have HWK := Lib.hid hwk
          clear hd hwk hZ hrel
          by_cases hmx : d = 18446744073709551615
          · subst hmx
            have PUT := Lib.hid (HREL.out.put hkL hB (d := 0) (by decide))
            have HR : Hid (wv (xs.take (k + 1)) + y = Z + 18446744073709551616 ^ k * 0 + 18446744073709551616 ^ (k + 1)) := Lib.hid (by
              have h1 := HWK.out; have h2 := HZ.out; have h3 := Nat.pow_succ (n := 18446744073709551616) (m := k)
              omega)
            go_wp2
            exact ⟨⟨k + 1, _, by omega, by omega, by go_num, HR.out, PUT.out⟩, by simp [intOf]; omega⟩
          · obtain ⟨d1, hd1⟩ : ∃ d1, d1 = d + 1 := ⟨_, rfl⟩
            have hwr : IntKind.u64.wrap ((d : Int) + 1) = (d1 : Int) := by rw [IntKind.wrap_u64, hd1]; omega
            have tm : ((d : Int) != 18446744073709551615) = true := by rw [bne_iff_ne]; omega
            have PUT := HREL.out.put hkL hB (d := d1) (by omega)
            have hok2 : wv (xs.take (k + 1)) + y = Z + 18446744073709551616 ^ k * d1 := by
              have h1 := HWK.out; have h2 := HZ.out
              rw [hd1, Nat.mul_add, Nat.mul_one]; omega
            have hpx := fun n => HNE.out _ _ _ (PUT.drewN (k := n))
            obtain ⟨os', ho', hl', hll⟩ := HCP.out _ _ _ PUT (by omega) (by omega)
            have HO' := Lib.hid ho'
            have HL' := Lib.hid hl'
            have HPUT := Lib.hid PUT
            have HOK2 := Lib.hid hok2
            have hk1w : IntKind.i64.wrap ((k : Int) + 1) = ((k + 1 : Nat) : Int) := by rw [IntKind.wrap_i64]; omega
            obtain ⟨k1, hk1e⟩ : ∃ k1, k1 = k + 1 := ⟨_, rfl⟩
            have HK1 := Lib.hid hk1e
            rw [← hk1e] at hk1w hll HO' HL'
            have HLL := Lib.hid hll
            obtain ⟨T, hT⟩ : ∃ T, T = cellsW (xs.drop k1) := ⟨_, rfl⟩
            rw [← hT] at HL'
            have HT := Lib.hid hT
            have hk1L : k1 ≤ L := by omega
            have hSv1 : IsS (subS v k1 L) := subS_isS hS hk1L (by have := hS.le; omega)
            have hSx1 : IsS (subS x k1 L) := subS_isS hSx hk1L (by have := hSx.le; omega)
            clear hmx hd1 PUT hok2 ho' hl' hk1e hll hT
            go_wp2_with fail
            go_quiet (fail)
            go_wp2_with fail
            (refine wp_region_hoist 8 (by kernel_rfl) (by kernel_rfl) ⟨fun _ _ _ h => (by first | exact (hQp _ _ _ h).elim | cases h.2.1 | (obtain ⟨_, h3, _⟩ := h.2; cases h3)), fun _ _ h => (by first | exact (hQo _ _ h).elim | cases h.1 | (obtain ⟨_, h3, _⟩ := h; cases h3))⟩ ?_; simp only [List.take_succ_cons, List.take_zero, List.drop_succ_cons, List.drop_zero]; (repeat (go_big_quiet_step (fail))); refine wpQuiet_nil ?_; rintro _ ⟨nq, rfl⟩)
            go_wp2_with (refine wpList_copy_W (o := ⟨some 74, _, _, _, _, _⟩) rfl (.tmp 69) (.tmp 73) 107 107 rfl 116 Tryz.underlying107 sizeW (subS v k1 L) (subS x k1 L) rfl rfl B os' ((HO'.out.drewN _).drewN _) T ?d1 hSx1 ?d2 ?d3 (by rw [HT.out]; exact cellsW_one _) ?_)
            case d1 => exact HL'.out
            case d2 => rw [HT.out, subS_len hSx, cellsW_length, List.length_drop, HXL.out]
            case d3 => rw [HT.out]; exact (HPUT.out.drewN.drewN).cpsrc HX.out.rw HBK.out HXL.out
            intro w2 ho2 hb2 hf2 _
            rw [HLL.out] at hf2
            rw [HT.out] at ho2
            rw [HK1.out] at ho2 hf2
            have FIN := Lib.hid (HEND.out (k + 1) _ w2 (by omega) (by omega) HOK2.out HPUT.out.lt (HPUT.out.copied (by omega) HX.out.rw.lt HXL.out ho2 (undrewN hb2) (FrB.sub hS (by omega) (by have := hS.le; omega) hf2.undrewN)))
            clear ho2 hb2 hf2
            go_wp2
            go_ret
            exact ⟨0, rfl, FIN.out⟩
        · have hkk : k = L := by omega
          subst hkk
          have FIN : Hid (∃ Z, (1 : Nat) ≤ 1 ∧ Z < 18446744073709551616 ^ k ∧ wv xs + y = Z + 18446744073709551616 ^ k * 1 ∧ VvP v k B Z w wr) := Lib.hid (by
            rw [List.take_of_length_le (by rw [HXL.out]; exact Nat.le_refl _)] at hZ
            exact ⟨Z, Nat.le_refl _, hrel.lt, by omega, hrel.done 0 (by omega)⟩)
          clear hZ HZ hrel HREL
          go_wp2
          go_ret
          exact ⟨1, rfl, FIN.out⟩
end Go.Proofs.YtllhnjpnkmjopaaGreatDoor
