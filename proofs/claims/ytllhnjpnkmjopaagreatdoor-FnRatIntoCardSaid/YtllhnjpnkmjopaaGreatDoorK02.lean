/-
Texts of this proof, joined: SpA SpB SpC SpD SpF SpG. No condition.
-/
import Derived.Test.YtllhnjpnkmjopaaGreatDoorK01
namespace Go.Proofs.YtllhnjpnkmjopaaGreatDoor
open Go.RowKit

def ints (ds : List Nat) : List Int := ds.map fun (d : Nat) => (d : Int)
def cellsN (ds : List Nat) : List Value := ds.map fun (d : Nat) => Value.int .i64 (d : Int)
theorem ints_length (ds : List Nat) : (ints ds).length = ds.length := by simp [ints]
theorem cellsN_length (ds : List Nat) : (cellsN ds).length = ds.length := by simp [cellsN]
theorem cellsN_eq (ds : List Nat) : cellsN ds = (ints ds).map (Value.int .i64) := by simp [cellsN, ints]
theorem cellsN_snoc (ds : List Nat) (d : Nat) : cellsN ds ++ [.int .i64 (d : Int)] = cellsN (ds ++ [d]) := by simp [cellsN]
def RL (w : World) (v : Value) (ds : List Nat) : Prop := RI .i64 w v (ints ds)
theorem RL.isS {w : World} {v : Value} {ds : List Nat} (h : RL w v ds) : IsS v := RI.isS h
theorem RL.len {w : World} {v : Value} {ds : List Nat} (h : RL w v ds) : sLen v = ds.length := (RI.len h).trans (ints_length ds)
theorem RL.cell {w : World} {v : Value} {ds : List Nat} (h : RL w v ds) (i : Nat) (hi : i < ds.length) : w.cell? ⟨sBlk v, sOff v + i, none⟩ = some (.int .i64 ((ds.getD i 0 : Nat) : Int)) := by
  rw [RI.cell h i (by rw [ints_length]; exact hi)]
  simp [ints, List.getD_eq_getElem?_getD, List.getElem?_eq_getElem hi]
theorem RL.below {w w' : World} {v : Value} {ds : List Nat} (h : RL w v ds) (hb : Below w.heap.size w w') : RL w' v ds := RI.below h hb
theorem RL.take {w : World} {v : Value} {ds : List Nat} (h : RL w v ds) {n : Nat} (hn : n ≤ ds.length) : RL w (subS v 0 n) (ds.take n) := by
  have := RI.sub h (l := 0) (n := n) (Nat.zero_le _) (by rw [ints_length]; exact hn)
  simpa [RL, ints, List.map_take] using this
theorem Own.rl {w : World} {B : Nat} {v : Value} {ds : List Nat} (h : Own w B 3 v (cellsN ds)) : RL w v ds := by
  rw [cellsN_eq] at h; exact h.rd
theorem RL.src {w : World} {v : Value} {ds : List Nat} {tx e : TypeId} (h : RL w v ds) (hk : Tryz.prog.underlying tx = some (.slice e)) : Src Tryz.prog 1 tx v ds.length (cellsN ds) w := by
  rw [cellsN_eq, ← ints_length]; exact RI.src h hk

structure NatV (w : World) (v : Value) (n : Nat) : Prop where
  isS : IsS v
  len : sLen v = nl n
  cell : ∀ i, i < nl n → w.cell? ⟨sBlk v, sOff v + i, none⟩ = some (.int .i64 ((dig n i : Nat) : Int))
theorem NatV.below {w w' : World} {v : Value} {n : Nat} (h : NatV w v n) (hb : Below w.heap.size w w') : NatV w' v n :=
  ⟨h.isS, h.len, fun i hi => (hb.cell (p := ⟨sBlk v, sOff v + i, none⟩) (World.block_lt_of_cell? w _ (h.cell i hi))).trans (h.cell i hi)⟩
theorem NatV.ofRL {w : World} {v : Value} {ds : List Nat} (h : RL w v ds) (hd : ∀ d ∈ ds, d < 65536) (hl : ds = [] ∨ ds.getD (ds.length - 1) 0 ≠ 0) : NatV w v (val ds) := by
  have hn : nl (val ds) = ds.length := by
    rcases hl with rfl | hl
    · rfl
    · cases hs : ds.length with
      | zero => rw [List.eq_nil_of_length_eq_zero hs]; rfl
      | succ k =>
        rw [hs, Nat.add_sub_cancel] at hl
        exact nl_of (by rw [← hs]; exact val_lt hd) (by rw [val_dig hd]; exact hl)
  refine ⟨h.isS, by rw [hn]; exact h.len, fun i hi => ?_⟩
  rw [h.cell i (by omega), val_dig hd]
def digs (n : Nat) : List Nat := (List.range (nl n)).map (dig n)
theorem digs_length (n : Nat) : (digs n).length = nl n := by simp [digs]
theorem NatV.rl {w : World} {v : Value} {n : Nat} (h : NatV w v n) : RL w v (digs n) := by
  refine ⟨h.isS, by rw [ints_length, digs_length]; exact h.len, fun i hi => ?_⟩
  rw [ints_length, digs_length] at hi
  rw [h.cell i hi]
  simp [ints, digs, List.getD_eq_getElem?_getD, hi]
theorem val_range (n : Nat) : ∀ k, val ((List.range k).map (dig n)) = n % 65536 ^ k
  | 0 => by simp [val, Nat.mod_one]
  | k + 1 => by
    rw [List.range_succ, List.map_append, List.map_cons, List.map_nil, val_snoc, val_range n k, mod_succ]
    simp
theorem val_digs (n : Nat) : val (digs n) = n := by rw [digs, val_range, mod_nl (Nat.le_refl _)]
theorem NatV.zero {w : World} {v : Value} (h : IsS v) (hl : sLen v = 0) : NatV w v 0 := ⟨h, hl, fun i hi => by rw [nl_zero] at hi; omega⟩

def NPost (n : Nat) (w : World) (v : Value) (w' : World) : Prop := NatV w' v n ∧ Below w.heap.size w w'

def TPost (n : Nat) (w : World) (v : Value) (w' : World) : Prop := NatV w v n ∧ w = w'
set_option maxRecDepth 100000 in
set_option maxHeartbeats 400000 in
theorem spTrim (v : Value) (ds : List Nat) (w : World) (hr : RL w v ds) (hd : ∀ d ∈ ds, d < 65536) (hl : ds.length ≤ 1000000000000) :
    Calls Tryz.prog 55 #[v] w fun e w' => ∃ r, e = .returned r ∧ TPost (val ds) w r w' := by
  have Hr := Lib.hid hr
  have Hd := Lib.hid hd
  clear hr hd
  obtain ⟨n, hn⟩ : ∃ n, n = ds.length := ⟨_, rfl⟩
  rw [← hn] at hl
  have Hn := Lib.hid hn
  clear hn
  go_enter Tryz.func55, Tryz.ntmps55
  go_wp2
  go_loop [0] (fun u => ∃ k : Nat, k ≤ n ∧ RL w u (ds.take k) ∧ val (ds.take k) = val ds) (fun u => sLen u)
  case atStart =>
    refine ⟨n, Nat.le_refl _, ?_, ?_⟩ <;> rw [List.take_of_length_le (by rw [Hn.out]; exact Nat.le_refl _)]
    exact Hr.out
  case round =>
    obtain ⟨k, hk, hu, hv⟩ := hrel
    have hS := hu.isS
    have hL : sLen u0 = k := by have := hu.len; simp at this; have := Hn.out; omega
    have hC := hS.le
    have hC' : k ≤ sCap u0 := by omega
    have Hu := Lib.hid hu
    have Hv := Lib.hid hv
    clear hC hu hv
    by_cases hk0 : k = 0
    · subst hk0
      go_wp2
      go_ret
      refine ⟨_, rfl, ?_, rfl⟩
      rw [← Hv.out]
      exact NatV.zero hS hL
    · have hk1 : k - 1 < ds.length := by have := Hn.out; omega
      have c := Hu.out.cell (k - 1) (by simp; omega)
      rw [show (ds.take k).getD (k - 1) 0 = ds.getD (k - 1) 0 by simp [List.getD_eq_getElem?_getD, show k - 1 < k by omega]] at c
      obtain ⟨d, hd⟩ : ∃ d, d = ds.getD (k - 1) 0 := ⟨_, rfl⟩
      rw [← hd] at c
      have htk : ds.take k = ds.take (k - 1) ++ [d] := by
        conv => lhs; rw [show k = (k - 1) + 1 by omega]
        rw [List.take_succ_eq_append_getElem hk1, hd, List.getD_eq_getElem?_getD, List.getElem?_eq_getElem hk1]; rfl
      have Htk := Lib.hid htk
      have r' := Hu.out.take (n := k - 1) (by simp; omega)
      rw [List.take_take, show min (k - 1) k = k - 1 by omega] at r'
      have Hr' := Lib.hid r'
      clear hd r' htk
      by_cases hz : d = 0
      · have hz' : ((d : Int) == 0) = true := by rw [beq_iff_eq]; omega
        go_wp2
        go_round
        case rel =>
          refine ⟨k - 1, by omega, Hr'.out, ?_⟩
          rw [← Hv.out, Htk.out, val_snoc, hz]; simp
        case measure =>
          show sLen (subS u0 0 (k - 1)) < sLen u0
          rw [subS_len hS, hL]; omega
      · have hz' : ((d : Int) == 0) = false := by rw [beq_eq_false_iff_ne]; omega
        go_wp2
        go_ret
        refine ⟨_, rfl, ?_, rfl⟩
        rw [← Hv.out]
        refine NatV.ofRL Hu.out (fun x hx => Hd.out x (List.mem_of_mem_take hx)) (.inr ?_)
        rw [Htk.out]
        simpa [List.getD_eq_getElem?_getD] using hz
def SmRel (N B : Nat) (w : World) (m : Nat) (v : Value) (wr : World) : Prop := ∃ ds : List Nat, Own wr B 3 v (cellsN ds) ∧ (∀ d ∈ ds, d < 65536) ∧ val ds + 65536 ^ ds.length * m = N ∧ ds.length + nl m ≤ nl N ∧ (ds = [] ∨ 0 < m ∨ ds.getD (ds.length - 1) 0 ≠ 0) ∧ Below B w wr
set_option maxRecDepth 100000 in
set_option maxHeartbeats 400000 in
theorem spSmall (n : Nat) (w : World) (hn : n ≤ 9223372036854775807) :
    Calls Tryz.prog 25 #[.int .i64 n] w fun e w' => ∃ r, e = .returned r ∧ NPost n w r w' := by
  have Hn := Lib.hid (nl_le4 (n := n) (by omega))
  go_enter Tryz.func25, Tryz.ntmps25
  go_wp2
  go_loopw [0, 3] (fun i u wr => ∃ m : Nat, m ≤ n ∧ i = .int .i64 m ∧ SmRel n w.heap.size w m u wr) (fun i _ _ => (intOf i).toNat)
  case atStart => exact ⟨n, Nat.le_refl _, rfl, [], Own.zero _ _ _ _ _, by simp, by simp [val], by simp, .inl rfl, (Below.refl _ _).alloc (Nat.le_refl _) _⟩
  case round =>
    obtain ⟨m, hm, rfl, ds, ho, hd, hv, hl, hz, hb⟩ := hrel
    have Hd := Lib.hid hd
    have Hv := Lib.hid hv
    have Hl := Lib.hid hl
    have Hz := Lib.hid hz
    have hbz := hb.size
    have Hcl := Lib.hid (cellsN_length ds)
    clear hd hv hl hz
    by_cases hm0 : m = 0
    · subst hm0
      go_wp2
      go_ret
      refine ⟨_, rfl, ?_, hb⟩
      have := NatV.ofRL ho.rl Hd.out (Hz.out.imp id fun h => h.resolve_left (by omega))
      rwa [show val ds = n by have := Hv.out; simpa using this] at this
    · have hm1 : 0 < m := by omega
      have hlen : ds.length ≤ 4 := by have := Hl.out; have := Hn.out; omega
      go_wp2_with (at_builtin; refine wpList_append_O rfl _ _ _ _ rfl elemN w.heap.size _ _ rfl (ho.alloc _) _ rfl 1 [.int .i64 ((m : Int) % 65536)] (srcOne Tryz.underlying29 wr _ _) ?c3 ?c4 ?c5 ?_)
      case c3 => rw [Hcl.out]; unfold maxLen; omega
      case c4 => rw [Hcl.out]; omega
      case c5 => simp; omega
      rintro v1 w1 ho1 hb1 - - -
      rw [show (m : Int) % 65536 = ((m % 65536 : Nat) : Int) by omega, cellsN_snoc] at ho1
      go_wp2
      go_roundw
      case rel =>
        refine ⟨m / 65536, by omega, by go_num, ds ++ [m % 65536], ho1, ?_, ?_, ?_, ?_, (hb.alloc hbz _).trans hb1⟩
        · intro x hx
          rcases List.mem_append.1 hx with h | h
          · exact Hd.out x h
          · rw [List.mem_singleton.1 h]; omega
        · rw [val_snoc, List.length_append, List.length_singleton, Nat.pow_succ, ← Hv.out]
          have := Nat.div_add_mod m 65536
          grind
        · have := nl_div hm1
          have := Hl.out
          simp; omega
        · by_cases h : m / 65536 = 0
          · right; right
            simp [List.getD_eq_getElem?_getD]; omega
          · right; left; omega
      case measure => simp [intOf]; omega

def AdRel (x y B : Nat) (w : World) (i c : Nat) (v : Value) (wr : World) : Prop := ∃ ds : List Nat, Own wr B 3 v (cellsN ds) ∧ (∀ d ∈ ds, d < 65536) ∧ ds.length = i ∧ val ds + 65536 ^ i * c = x % 65536 ^ i + y % 65536 ^ i ∧ Below B w wr
theorem add_step {x y i V c : Nat} (h : V + 65536 ^ i * c = x % 65536 ^ i + y % 65536 ^ i) :
    V + 65536 ^ i * ((c + dig x i + dig y i) % 65536) + 65536 ^ (i + 1) * ((c + dig x i + dig y i) / 65536) = x % 65536 ^ (i + 1) + y % 65536 ^ (i + 1) := by
  rw [mod_succ, mod_succ, Nat.pow_succ]
  have := Nat.div_add_mod (c + dig x i + dig y i) 65536
  generalize (c + dig x i + dig y i) / 65536 = q at *
  generalize (c + dig x i + dig y i) % 65536 = r at *
  grind
theorem AdRel.step {x y B k c S : Nat} {w w1 : World} {v1 : Value} {ds : List Nat} {d : Int} (hd : ∀ d ∈ ds, d < 65536) (hdl : ds.length = k) (hv : val ds + 65536 ^ k * c = x % 65536 ^ k + y % 65536 ^ k)
    (hS : S = c + dig x k + dig y k) (hdS : d = ((S % 65536 : Nat) : Int)) (ho : Own w1 B 3 v1 (cellsN ds ++ [.int .i64 d])) (hb : Below B w w1) : AdRel x y B w (k + 1) (S / 65536) v1 w1 := by
  subst hdS
  rw [cellsN_snoc] at ho
  refine ⟨_, ho, ?_, by simp [hdl], ?_, hb⟩
  · intro z hz
    rcases List.mem_append.1 hz with h | h
    · exact hd z h
    · rw [List.mem_singleton.1 h]; omega
  · rw [val_snoc, hdl, hS]; exact add_step hv
set_option maxRecDepth 100000 in
set_option maxHeartbeats 1600000 in
theorem spAdd (a b : Value) (x y : Nat) (w : World) (ha : NatV w a x) (hb : NatV w b y) (hx : nl x ≤ 1000000000) (hy : nl y ≤ 1000000000) :
    Calls Tryz.prog 24 #[a, b] w fun e w' => ∃ r, e = .returned r ∧ NPost (x + y) w r w' := by
  have hSa := ha.isS
  have hSb := hb.isS
  have hLa := ha.len
  have hLb := hb.len
  obtain ⟨la, hla⟩ : ∃ la, la = nl x := ⟨_, rfl⟩
  obtain ⟨lb, hlb⟩ : ∃ lb, lb = nl y := ⟨_, rfl⟩
  rw [← hla] at hLa hx
  rw [← hlb] at hLb hy
  have Hla := Lib.hid hla
  have Hlb := Lib.hid hlb
  have Ha := Lib.hid ha
  have Hb := Lib.hid hb
  clear hla hlb ha hb
  go_enter Tryz.func24, Tryz.ntmps24
  go_wp2
  go_loopw [5, 6, 7] (fun u c i wr => ∃ k c' : Nat, k ≤ max la lb ∧ c' ≤ 1 ∧ i = .int .i64 k ∧ c = .int .i64 c' ∧ AdRel x y w.heap.size w k c' u wr) (fun _ _ i _ => max la lb - (intOf i).toNat)
  case atStart => exact ⟨0, 0, Nat.zero_le _, by omega, rfl, rfl, [], Own.zero _ _ _ _ _, by simp, rfl, by simp [val, Nat.mod_one], (Below.refl _ _).alloc (Nat.le_refl _) _⟩
  case round =>
    obtain ⟨k, c, hk, hc, rfl, rfl, ds, ho, hd, hdl, hv, hbl⟩ := hrel
    have Hd := Lib.hid hd
    have Hv := Lib.hid hv
    have hbz := hbl.size
    have Hcl := Lib.hid (cellsN_length ds)
    have Hdl := Lib.hid hdl
    clear hd hv hdl
    have g1 := dig_lt x k
    have g2 := dig_lt y k
    have na := Ha.out.below hbl
    have nb := Hb.out.below hbl
    obtain ⟨p, hp⟩ : ∃ p, p = dig x k := ⟨_, rfl⟩
    obtain ⟨q, hq⟩ : ∃ q, q = dig y k := ⟨_, rfl⟩
    rw [← hp] at g1
    rw [← hq] at g2
    have Hp := Lib.hid hp
    have Hq := Lib.hid hq
    clear hp hq
    by_cases hka : k < la
    · have ca := na.cell k (by rw [← Hla.out]; exact hka)
      rw [← Hp.out] at ca
      by_cases hkb : k < lb
      · have cb := nb.cell k (by rw [← Hlb.out]; exact hkb)
        rw [← Hq.out] at cb
        clear na nb
        go_wp2_with (at_builtin; refine wpList_append_O rfl _ _ _ _ rfl elemN w.heap.size _ _ rfl (ho.alloc _) _ rfl 1 [.int .i64 _] (srcOne Tryz.underlying29 wr _ _) ?c3 ?c4 ?c5 ?_)
        case c3 => rw [Hcl.out, Hdl.out]; unfold maxLen; omega
        case c4 => rw [Hcl.out, Hdl.out]; omega
        case c5 => simp; omega
        rintro v1 w1 ho1 hb1 - - -
        have Ho1 := Lib.hid ho1
        clear ho1
        go_wp2
        go_roundw
        case rel =>
          refine ⟨k + 1, (c + p + q) / 65536, by omega, by omega, by go_num, by go_num, ?_⟩
          exact AdRel.step Hd.out Hdl.out Hv.out (by rw [Hp.out, Hq.out]) (by omega) Ho1.out ((hbl.alloc hbz _).trans hb1)
        case measure => simp [intOf]; omega
      · have hq0 : dig y k = 0 := dig_ge (by rw [← Hlb.out]; omega)
        have Hq0 := Lib.hid hq0
        clear na nb hq0
        go_wp2_with (at_builtin; refine wpList_append_O rfl _ _ _ _ rfl elemN w.heap.size _ _ rfl (ho.alloc _) _ rfl 1 [.int .i64 _] (srcOne Tryz.underlying29 wr _ _) ?c3 ?c4 ?c5 ?_)
        case c3 => rw [Hcl.out, Hdl.out]; unfold maxLen; omega
        case c4 => rw [Hcl.out, Hdl.out]; omega
        case c5 => simp; omega
        rintro v1 w1 ho1 hb1 - - -
        have Ho1 := Lib.hid ho1
        clear ho1
        go_wp2
        go_roundw
        case rel =>
          refine ⟨k + 1, (c + p) / 65536, by omega, by omega, by go_num, by go_num, ?_⟩
          exact AdRel.step Hd.out Hdl.out Hv.out (by rw [Hp.out, Hq0.out]; rfl) (by omega) Ho1.out ((hbl.alloc hbz _).trans hb1)
        case measure => simp [intOf]; omega
    · have hp0 : dig x k = 0 := dig_ge (by rw [← Hla.out]; omega)
      have Hp0 := Lib.hid hp0
      clear hp0
      by_cases hkb : k < lb
      · have cb := nb.cell k (by rw [← Hlb.out]; exact hkb)
        rw [← Hq.out] at cb
        clear na nb
        go_wp2_with (at_builtin; refine wpList_append_O rfl _ _ _ _ rfl elemN w.heap.size _ _ rfl (ho.alloc _) _ rfl 1 [.int .i64 _] (srcOne Tryz.underlying29 wr _ _) ?c3 ?c4 ?c5 ?_)
        case c3 => rw [Hcl.out, Hdl.out]; unfold maxLen; omega
        case c4 => rw [Hcl.out, Hdl.out]; omega
        case c5 => simp; omega
        rintro v1 w1 ho1 hb1 - - -
        have Ho1 := Lib.hid ho1
        clear ho1
        go_wp2
        go_roundw
        case rel =>
          refine ⟨k + 1, (c + q) / 65536, by omega, by omega, by go_num, by go_num, ?_⟩
          exact AdRel.step Hd.out Hdl.out Hv.out (by rw [Hp0.out, Hq.out]; omega) (by omega) Ho1.out ((hbl.alloc hbz _).trans hb1)
        case measure => simp [intOf]; omega
      · clear na nb
        go_wp2_with (at_builtin; refine wpList_append_O rfl _ _ _ _ rfl elemN w.heap.size _ _ rfl (ho.alloc _) _ rfl 1 [.int .i64 _] (srcOne Tryz.underlying29 wr _ _) ?c3 ?c4 ?c5 ?_)
        case c3 => rw [Hcl.out, Hdl.out]; unfold maxLen; omega
        case c4 => rw [Hcl.out, Hdl.out]; omega
        case c5 => simp; omega
        rintro v1 w1 ho1 hb1 - - -
        rw [cellsN_snoc] at ho1
        have Ho1 := Lib.hid ho1
        clear ho1
        go_wp2_with fail
        refine (spTrim v1 (ds ++ [c]) w1 Ho1.out.rl ?_ ?_).mono ?_
        · intro z hz
          rcases List.mem_append.1 hz with h | h
          · exact Hd.out z h
          · rw [List.mem_singleton.1 h]; omega
        · rw [List.length_append, Hdl.out]; simp; omega
        rintro _ _ ⟨r, rfl, hr, rfl⟩
        have Hrr := Lib.hid hr
        clear hr
        go_wp2
        go_ret
        refine ⟨_, rfl, ?_, (hbl.alloc hbz _).trans hb1⟩
        have h1 : val (ds ++ [c]) = x + y := by
          rw [val_snoc, Hdl.out, Hv.out, mod_nl (by rw [← Hla.out]; omega), mod_nl (by rw [← Hlb.out]; omega)]
        rw [← h1]
        exact Hrr.out
def MuRel (B : Nat) (w : World) (v : Value) (L lo pos c T : Nat) (wr : World) : Prop :=
  ∃ os : List Nat, Own wr B 3 v (cellsN os) ∧ os.length = L ∧ (∀ d ∈ os, d < 65536) ∧ (∀ j, lo ≤ j → os.getD j 0 = 0) ∧ val os + 65536 ^ pos * c = T ∧ Below B w wr
theorem cellsN_set (os : List Nat) (i d : Nat) : (cellsN os).set i (.int .i64 (d : Int)) = cellsN (os.set i d) := by simp [cellsN, List.map_set]
theorem getD_lt {os : List Nat} (h : ∀ d ∈ os, d < 65536) (i : Nat) : os.getD i 0 < 65536 := by
  by_cases hi : i < os.length
  · rw [List.getD_eq_getElem?_getD, List.getElem?_eq_getElem hi]; exact h _ (List.getElem_mem hi)
  · rw [List.getD_eq_getElem?_getD, List.getElem?_eq_none (by omega)]; decide
theorem getD_set (os : List Nat) (i j d : Nat) (hi : i < os.length) : (os.set i d).getD j 0 = if i = j then d else os.getD j 0 := by
  simp only [List.getD_eq_getElem?_getD, List.getElem?_set]
  split
  · rename_i h; rfl
  · rfl
theorem muStore {B L lo pos c c' d T T' : Nat} {w wr : World} {v : Value} {os : List Nat} (ho : Own wr B 3 v (cellsN os)) (hL : os.length = L) (hd : ∀ d ∈ os, d < 65536) (hz : ∀ j, lo ≤ j → os.getD j 0 = 0)
    (hv : val os + 65536 ^ pos * c = T) (hb : Below B w wr) (hp : pos < L) (hlo : pos < lo) (hd' : d < 65536) (hT : T' + 65536 ^ pos * (c + os.getD pos 0) = T + 65536 ^ pos * (d + 65536 * c')) :
    MuRel B w v L lo (pos + 1) c' T' (wr.setCell ⟨sBlk v, sOff v + pos, none⟩ (.int .i64 (d : Int))) := by
  have hs := ho.set (i := pos) (by rw [cellsN_length]; omega) (.int .i64 (d : Int))
  rw [cellsN_set] at hs
  have hl := ho.len
  rw [cellsN_length] at hl
  have hcp := ho.isS.le
  refine ⟨_, hs, by simpa using hL, ?_, fun j hj => ?_, ?_, bset hb (ho.lt (by omega)).1⟩
  · intro z hz'
    rcases List.mem_or_eq_of_mem_set hz' with h | h
    · exact hd z h
    · rw [h]; exact hd'
  · rw [getD_set _ _ _ _ (by omega), if_neg (by omega)]; exact hz j hj
  · have h1 := val_set (a := os) (i := pos) (by omega) d
    rw [Nat.pow_succ]
    generalize os.getD pos 0 = o at *
    generalize val (os.set pos d) = V at *
    generalize val os = V0 at *
    generalize 65536 ^ pos = p at *
    grind
def Tin (x y i p k : Nat) : Nat := x % 65536 ^ i * y + 65536 ^ i * (p * (y % 65536 ^ k))
theorem Tin_step {x y i p k c o q r : Nat} (h : c + (o + p * dig y k) = r + 65536 * q) : Tin x y i p (k + 1) + 65536 ^ (i + k) * (c + o) = Tin x y i p k + 65536 ^ (i + k) * (r + 65536 * q) := by
  rw [← h]
  unfold Tin
  rw [mod_succ y k, Nat.pow_add]
  grind
theorem Tin_end {x y i k : Nat} (hk : nl y ≤ k) : Tin x y i (dig x i) k = x % 65536 ^ (i + 1) * y := by
  unfold Tin
  rw [mod_nl hk, mod_succ]
  grind

set_option maxRecDepth 100000 in
set_option maxHeartbeats 1600000 in
theorem spMul (a b : Value) (x y : Nat) (w : World) (ha : NatV w a x) (hb : NatV w b y) (hx : nl x ≤ 1000000000) (hy : nl y ≤ 1000000000) :
    Calls Tryz.prog 37 #[a, b] w fun e w' => ∃ r, e = .returned r ∧ NPost (x * y) w r w' := by
  have hSa := ha.isS
  have hSb := hb.isS
  have hLa := ha.len
  have hLb := hb.len
  obtain ⟨la, hla⟩ : ∃ la, la = nl x := ⟨_, rfl⟩
  obtain ⟨lb, hlb⟩ : ∃ lb, lb = nl y := ⟨_, rfl⟩
  rw [← hla] at hLa hx
  rw [← hlb] at hLb hy
  have Hla := Lib.hid hla
  have Hlb := Lib.hid hlb
  have Ha := Lib.hid ha
  have Hb := Lib.hid hb
  clear hla hlb ha hb
  go_enter Tryz.func37, Tryz.ntmps37
  go_wp2_with (at_make; refine wpList_make_O rfl _ _ _ rfl elemN .i64 .i64 _ _ rfl rfl w.heap.size ?c1 ?c2 ?c3 ?c4 ?c5 ?_)
  case c1 => omega
  case c2 => omega
  case c3 => omega
  case c4 => omega
  case c5 => exact Nat.le_refl _
  rintro v0 w0 - ho0 hb0 -
  have e0 : List.replicate ((la : Int) + lb).toNat (Value.int .i64 0) = cellsN (List.replicate (la + lb) 0) := by
    rw [show ((la : Int) + lb).toNat = la + lb by omega]; simp [cellsN]
  rw [e0] at ho0
  have hSv := ho0.isS
  have hLv : sLen v0 = la + lb := by rw [ho0.len, cellsN_length]; simp
  have M0 : MuRel w.heap.size w v0 (la + lb) 0 0 0 0 w0 :=
    ⟨_, ho0, by simp, fun d hd => by rw [(List.mem_replicate.1 hd).2]; decide, fun j _ => (by rw [List.getD_eq_getElem?_getD, List.getElem?_replicate]; split <;> rfl), by rw [val_replicate], hb0⟩
  clear ho0 e0 hb0
  have HM0 := Lib.hid M0
  clear M0
  go_wp2
  go_loopw [19] (fun i wr => ∃ k : Nat, k ≤ la ∧ i = .int .i64 k ∧ MuRel w.heap.size w v0 (la + lb) (k + lb) 0 0 (x % 65536 ^ k * y) wr) (fun i _ => la - (intOf i).toNat)
  case atStart =>
    refine ⟨0, Nat.zero_le _, rfl, ?_⟩
    obtain ⟨os, h1, h2, h3, h4, h5, h6⟩ := HM0.out
    exact ⟨os, h1, h2, h3, fun j _ => h4 j (Nat.zero_le _), by simp [Nat.mod_one]; simpa using h5, h6⟩
  case round =>
    obtain ⟨i, hi, rfl, hM⟩ := hrel
    obtain ⟨wo, hwo⟩ : ∃ wo : World, wo = wr := ⟨_, rfl⟩
    subst hwo
    have HM := Lib.hid hM
    have hbo : Below w.heap.size w wo := by obtain ⟨_, _, _, _, _, _, h⟩ := hM; exact h
    clear hM
    by_cases hia : i < la
    · have ca := (Ha.out.below hbo).cell i (by rw [← Hla.out]; exact hia)
      have g1 := dig_lt x i
      obtain ⟨p, hp⟩ : ∃ p, p = dig x i := ⟨_, rfl⟩
      rw [← hp] at ca g1
      have Hp := Lib.hid hp
      clear hp
      go_wp2
      go_loopw [8, 26] (fun c k wr => ∃ kk cc : Nat, kk ≤ lb ∧ cc < 65536 ∧ k = .int .i64 kk ∧ c = .int .i64 cc ∧ MuRel w.heap.size w v0 (la + lb) (i + lb) (i + kk) cc (Tin x y i p kk) wr) (fun _ k _ => lb - (intOf k).toNat)
      case atStart =>
        refine ⟨0, 0, Nat.zero_le _, by decide, rfl, rfl, ?_⟩
        obtain ⟨os, h1, h2, h3, h4, h5, h6⟩ := HM.out
        refine ⟨os, h1, h2, h3, h4, ?_, h6⟩
        unfold Tin; simp [Nat.mod_one]; simpa using h5
      case round =>
        obtain ⟨k, c, hk, hc, rfl, rfl, os, ho, hoL, hod, hoz, hov, hbl⟩ := hrel
        have Ho := Lib.hid ho
        have HoL := Lib.hid hoL
        have Hod := Lib.hid hod
        have Hoz := Lib.hid hoz
        have Hov := Lib.hid hov
        have hcap : la + lb ≤ sCap v0 := by rw [← hLv]; exact hSv.le
        by_cases hkb : k < lb
        · have cb := (Hb.out.below hbl).cell k (by rw [← Hlb.out]; exact hkb)
          have g2 := dig_lt y k
          obtain ⟨q, hq⟩ : ∃ q, q = dig y k := ⟨_, rfl⟩
          rw [← hq] at cb g2
          have Hq := Lib.hid hq
          have g3 := getD_lt hod (i + k)
          have co : wr.cell? ⟨sBlk v0, sOff v0 + (i + k), none⟩ = some (.int .i64 ((os.getD (i + k) 0 : Nat) : Int)) := ho.rl.cell (i + k) (by omega)
          obtain ⟨o, hoo⟩ : ∃ o, o = os.getD (i + k) 0 := ⟨_, rfl⟩
          rw [← hoo] at co g3
          have Hoo := Lib.hid hoo
          have fz := ho.frozen (by omega) (sOff v0 + (i + k))
          have hpq : (p : Int) * q ≤ 4294836225 := by
            have : p * q ≤ 65535 * 65535 := Nat.mul_le_mul (by omega) (by omega)
            have e : ((p * q : Nat) : Int) = (p : Int) * q := by simp
            omega
          have hpq0 : 0 ≤ (p : Int) * q := by
            have e : ((p * q : Nat) : Int) = (p : Int) * q := by simp
            omega
          clear ho hoL hod hoz hov hq hoo
          go_wp2
          have hS : ((p * q : Nat) : Int) = (p : Int) * q := by simp
          obtain ⟨S, hSd⟩ : ∃ S : Nat, S = c + (o + p * q) := ⟨_, rfl⟩
          have hSi : (c : Int) + ((o : Int) + (p : Int) * q) = (S : Int) := by rw [hSd]; omega
          rw [hSi, show (S : Int) % 65536 = ((S % 65536 : Nat) : Int) by omega]
          refine ⟨⟨k + 1, S / 65536, by omega, by omega, by go_num, by go_num, ?_⟩, by simp [intOf]; omega⟩
          refine muStore (pos := i + k) (c' := S / 65536) (d := S % 65536) Ho.out HoL.out Hod.out Hoz.out Hov.out hbl (by omega) (by omega) (by omega) ?_
          rw [← Hoo.out]
          refine Tin_step ?_
          rw [← Hq.out, ← hSd]
          omega
        · have hkb' : k = lb := by omega
          have fz := fun (hc : 0 < sCap v0) => ho.frozen hc (sOff v0 + (i + lb))
          have fz := fz (by omega)
          have co : wr.cell? ⟨sBlk v0, sOff v0 + (i + lb), none⟩ = some (.int .i64 ((os.getD (i + lb) 0 : Nat) : Int)) := ho.rl.cell (i + lb) (by omega)
          rw [hoz (i + lb) (Nat.le_refl _)] at co
          clear ho hoL hod hoz hov
          have Hk := Lib.hid hkb'
          clear hkb'
          go_wp2
          refine ⟨⟨i + 1, by omega, by go_num, ?_⟩, by simp [intOf]; omega⟩
          have hov := Hov.out
          rw [Hk.out] at hov
          have h1 := muStore (pos := i + lb) (lo := i + 1 + lb) (c' := 0) (d := c) (T' := x % 65536 ^ (i + 1) * y) Ho.out HoL.out Hod.out (fun j hj => Hoz.out j (by omega)) hov hbl (by omega) (by omega) hc (by
            rw [Hoz.out (i + lb) (Nat.le_refl _), Hp.out, Tin_end (by rw [← Hlb.out]; exact Nat.le_refl _)])
          obtain ⟨os', a1, a2, a3, a4, a5, a6⟩ := h1
          exact ⟨os', a1, a2, a3, a4, by simpa using a5, a6⟩
    · have hla' : i = la := by omega
      subst hla'
      obtain ⟨os, h1, h2, h3, h4, h5, h6⟩ := HM.out
      have Ho := Lib.hid h1
      have HoL := Lib.hid h2
      have Hod := Lib.hid h3
      have Hov := Lib.hid h5
      clear h1 h2 h3 h4 h5
      go_wp2_with fail
      refine (spTrim v0 os _ Ho.out.rl Hod.out (by rw [HoL.out]; omega)).mono ?_
      rintro _ _ ⟨r, rfl, hr, rfl⟩
      have Hr := Lib.hid hr
      clear hr
      go_wp2
      go_ret
      refine ⟨_, rfl, ?_, h6⟩
      have h7 : val os = x * y := by
        have := Hov.out
        rw [mod_nl (by rw [← Hla.out]; exact Nat.le_refl _)] at this
        simpa using this
      rw [← h7]; exact Hr.out
theorem bthen {a b c : World} (h : Below a.heap.size a b) (k : Below b.heap.size b c) : Below a.heap.size a c := h.trans (k.mono h.size)
def QdRel (x d B L k r : Nat) (w : World) (v : Value) (wr : World) : Prop :=
  ∃ os : List Nat, Own wr B 3 v (cellsN os) ∧ os.length = L ∧ (∀ d ∈ os, d < 65536) ∧ (∀ j, j < k → os.getD j 0 = 0) ∧ (∃ Q, val os = 65536 ^ k * Q ∧ Q * d + r = x / 65536 ^ k) ∧ Below B w wr
theorem div_pow_step (x k : Nat) : x / 65536 ^ k = x / 65536 ^ (k + 1) * 65536 + dig x k := by
  unfold dig
  rw [Nat.pow_succ, ← Nat.div_div_eq_div_mul]
  omega
theorem qdStore {x d B L k r : Nat} {w wr : World} {v : Value} {os : List Nat} (ho : Own wr B 3 v (cellsN os)) (hL : os.length = L) (hd : ∀ d ∈ os, d < 65536) (hz : ∀ j, j < k + 1 → os.getD j 0 = 0)
    (hv : ∃ Q, val os = 65536 ^ (k + 1) * Q ∧ Q * d + r = x / 65536 ^ (k + 1)) (hb : Below B w wr) (hk : k < L) (hr : r < d) (hd' : 0 < d) :
    QdRel x d B L k ((r * 65536 + dig x k) % d) w v (wr.setCell ⟨sBlk v, sOff v + k, none⟩ (.int .i64 (((r * 65536 + dig x k) / d : Nat) : Int))) := by
  have hs := ho.set (i := k) (by rw [cellsN_length]; omega) (.int .i64 (((r * 65536 + dig x k) / d : Nat) : Int))
  rw [cellsN_set] at hs
  have hl := ho.len
  rw [cellsN_length] at hl
  have hcp := ho.isS.le
  refine ⟨_, hs, by simpa using hL, ?_, fun j hj => ?_, ?_, bset hb (ho.lt (by omega)).1⟩
  · intro z hz'
    rcases List.mem_or_eq_of_mem_set hz' with h | h
    · exact hd z h
    · rw [h]
      have := dig_lt x k
      rw [Nat.div_lt_iff_lt_mul hd']
      have : (r + 1) * 65536 ≤ d * 65536 := Nat.mul_le_mul_right _ hr
      omega
  · rw [getD_set _ _ _ _ (by omega), if_neg (by omega)]; exact hz j (by omega)
  · obtain ⟨Q, h1, h2⟩ := hv
    refine ⟨Q * 65536 + (r * 65536 + dig x k) / d, ?_, ?_⟩
    · have h3 := val_set (a := os) (i := k) (by omega) ((r * 65536 + dig x k) / d)
      rw [hz k (by omega), h1, Nat.pow_succ] at h3
      generalize (r * 65536 + dig x k) / d = q at *
      generalize val (os.set k q) = V at *
      grind
    · rw [div_pow_step x k, ← h2]
      have h3 := Nat.div_add_mod (r * 65536 + dig x k) d
      generalize (r * 65536 + dig x k) / d = q at *
      generalize (r * 65536 + dig x k) % d = z at *
      grind
def BDPost (n d : Nat) (w : World) (q : Value) (w' : World) : Prop := NatV w' q (n / d) ∧ Below w.heap.size w w'
set_option maxRecDepth 100000 in
set_option maxHeartbeats 800000 in
theorem spByDigit (a : Value) (x d : Nat) (w : World) (ha : NatV w a x) (hx : nl x ≤ 1000000000) (hd0 : 0 < d) (hd1 : d < 65536) :
    Calls Tryz.prog 113 #[a, .int .i64 d] w fun e w' => ∃ q, e = .returned (.tuple #[q, .int .i64 ((x % d : Nat) : Int)]) ∧ BDPost x d w q w' := by
  have hSa := ha.isS
  have hLa := ha.len
  obtain ⟨la, hla⟩ : ∃ la, la = nl x := ⟨_, rfl⟩
  rw [← hla] at hLa hx
  have Hla := Lib.hid hla
  have Ha := Lib.hid ha
  clear hla ha
  go_enter Tryz.func113, Tryz.ntmps113
  go_wp2_with (at_make; refine wpList_make_O rfl _ _ _ rfl elemN .i64 .i64 _ _ rfl rfl w.heap.size ?c1 ?c2 ?c3 ?c4 ?c5 ?_)
  case c1 => omega
  case c2 => omega
  case c3 => omega
  case c4 => omega
  case c5 => exact Nat.le_refl _
  rintro v0 w0 - ho0 hb0 -
  have e0 : List.replicate la (Value.int .i64 0) = cellsN (List.replicate la 0) := by simp [cellsN]
  rw [e0] at ho0
  have hSv := ho0.isS
  have hLv : sLen v0 = la := by rw [ho0.len, cellsN_length]; simp
  have M0 : QdRel x d w.heap.size la la 0 w v0 w0 :=
    ⟨_, ho0, by simp, fun d hd => by rw [(List.mem_replicate.1 hd).2]; decide, fun j _ => (by rw [List.getD_eq_getElem?_getD, List.getElem?_replicate]; split <;> rfl), ⟨0, by rw [val_replicate]; simp, by rw [Nat.div_eq_of_lt (by rw [Hla.out]; exact lt_nl x)]; simp⟩, hb0⟩
  clear ho0 e0 hb0
  have HM0 := Lib.hid M0
  clear M0
  go_wp2
  go_loopw [7, 8] (fun r i wr => ∃ k rr : Nat, k ≤ la ∧ rr < d ∧ i = .int .i64 ((k : Int) - 1) ∧ r = .int .i64 rr ∧ QdRel x d w.heap.size la k rr w v0 wr) (fun _ i _ => (intOf i + 1).toNat)
  case atStart => exact ⟨la, 0, Nat.le_refl _, hd0, by go_num, rfl, HM0.out⟩
  case round =>
    obtain ⟨k, rr, hk, hr, rfl, rfl, os, ho, hoL, hod, hoz, hov, hbl⟩ := hrel
    have Ho := Lib.hid ho
    have HoL := Lib.hid hoL
    have Hod := Lib.hid hod
    have Hoz := Lib.hid hoz
    have Hov := Lib.hid hov
    by_cases hk0 : 0 < k
    · obtain ⟨j, rfl⟩ : ∃ j, k = j + 1 := ⟨k - 1, by omega⟩
      have hcap : la ≤ sCap v0 := by rw [← hLv]; exact hSv.le
      have ca := (Ha.out.below hbl).cell j (by rw [← Hla.out]; omega)
      have g1 := dig_lt x j
      obtain ⟨p, hp⟩ : ∃ p, p = dig x j := ⟨_, rfl⟩
      rw [← hp] at ca g1
      have Hp := Lib.hid hp
      have fz := ho.frozen (by omega) (sOff v0 + j)
      have co := ho.rl.cell j (by omega)
      rw [hoz j (by omega)] at co
      clear ho hoL hod hoz hov hp
      rw [show ((j + 1 : Nat) : Int) - 1 = (j : Int) by omega]
      have t1 : decide ((0:Int) ≤ (j : Int)) = true := by rw [decide_eq_true_iff]; omega
      have e1 : (((rr * 65536 + p) / d : Nat) : Int) = ((rr : Int) * 65536 + (p : Int)) / (d : Int) := by simp
      have e2 : (((rr * 65536 + p) % d : Nat) : Int) = ((rr : Int) * 65536 + (p : Int)) % (d : Int) := by simp
      have E1 := Lib.hid e1
      have E2 := Lib.hid e2
      clear e1 e2
      go_wp2
      rw [← E1.out, ← E2.out]
      refine ⟨⟨j, _, by omega, Nat.mod_lt _ hd0, by go_num, rfl, ?_⟩, by simp [intOf]⟩
      rw [Hp.out]
      exact qdStore Ho.out HoL.out Hod.out Hoz.out Hov.out hbl (by omega) hr hd0
    · have hk' : k = 0 := by omega
      subst hk'
      clear ho hoL hod hoz hov
      go_wp2_with fail
      refine (spTrim v0 os _ Ho.out.rl Hod.out (by rw [HoL.out]; omega)).mono ?_
      rintro _ _ ⟨r, rfl, hr', rfl⟩
      have Hr := Lib.hid hr'
      clear hr'
      go_wp2
      go_ret2
      obtain ⟨Q, h1, h2⟩ := Hov.out
      simp at h1 h2
      have h3 := Nat.div_add_mod x d
      have h4 : x / d = Q := by rw [← h2, Nat.mul_comm Q d, Nat.mul_add_div hd0, Nat.div_eq_of_lt hr]; rfl
      have h5 : x % d = rr := by rw [← h2, Nat.mul_comm Q d, Nat.mul_add_mod, Nat.mod_eq_of_lt hr]
      have h6 := Hr.out
      rw [h1, ← h4] at h6
      rw [h5]
      exact ⟨_, rfl, h6, hbl⟩
def cmpN (x y : Nat) : Int := if x < y then -1 else if y < x then 1 else 0
theorem cmpN_lt {x y : Nat} (h : x < y) : cmpN x y = -1 := if_pos h
theorem cmpN_gt {x y : Nat} (h : y < x) : cmpN x y = 1 := by unfold cmpN; rw [if_neg (by omega), if_pos h]
theorem cmpN_eq (x : Nat) : cmpN x x = 0 := by unfold cmpN; simp
theorem cmpN_le (x y : Nat) : cmpN x y ≤ 0 ↔ x ≤ y := by unfold cmpN; split; omega; split <;> omega
theorem cmpN_zero (x y : Nat) : cmpN x y = 0 ↔ x = y := by unfold cmpN; split; omega; split <;> omega
theorem cmpN_ge (x y : Nat) : 0 ≤ cmpN x y ↔ y ≤ x := by unfold cmpN; split; omega; split <;> omega
theorem cmpN_bd (x y : Nat) : -1 ≤ cmpN x y ∧ cmpN x y ≤ 1 := by unfold cmpN; split; omega; split <;> omega
theorem lt_of_nl {x y : Nat} (h : nl x < nl y) : x < y := by
  refine Nat.lt_of_not_le fun hc => ?_
  have := nl_mono hc
  omega
theorem lt_of_dig_lt {x y i : Nat} (he : x / 65536 ^ (i + 1) = y / 65536 ^ (i + 1)) (h : dig x i < dig y i) : x < y := by
  have h1 := div_pow_step x i
  have h2 := div_pow_step y i
  refine Nat.lt_of_not_le fun hc => ?_
  have := Nat.div_le_div_right (c := 65536 ^ i) hc
  omega
theorem ret_int {a b : Int} (h : a = b) : Ending.returned (.int .i64 a) = Ending.returned (.int .i64 b) := by rw [h]
set_option maxRecDepth 100000 in
set_option maxHeartbeats 400000 in
theorem spCmp (a b : Value) (x y : Nat) (w : World) (ha : NatV w a x) (hb : NatV w b y) (_hx : nl x ≤ 1000000000) (hy : nl y ≤ 1000000000) :
    Calls Tryz.prog 39 #[a, b] w fun e w' => e = .returned (.int .i64 (cmpN x y)) ∧ Below w.heap.size w w' := by
  have hSa := ha.isS
  have hSb := hb.isS
  have hLa := ha.len
  have hLb := hb.len
  obtain ⟨la, hla⟩ : ∃ la, la = nl x := ⟨_, rfl⟩
  obtain ⟨lb, hlb⟩ : ∃ lb, lb = nl y := ⟨_, rfl⟩
  rw [← hla] at hLa _hx
  rw [← hlb] at hLb hy
  have Hla := Lib.hid hla
  have Hlb := Lib.hid hlb
  have Ha := Lib.hid ha
  have Hb := Lib.hid hb
  clear hla hlb ha hb
  go_enter Tryz.func39, Tryz.ntmps39
  by_cases h1 : la < lb
  · have t1 : decide (la < lb) = true := by rw [decide_eq_true_iff]; exact h1
    go_wp2
    go_ret
    exact ⟨ret_int (cmpN_lt (lt_of_nl (by rw [← Hla.out, ← Hlb.out]; exact h1))).symm, Below.refl _ _⟩
  · have t1 : decide (la < lb) = false := by rw [decide_eq_false_iff_not]; exact h1
    by_cases h2 : lb < la
    · have t2 : decide (lb < la) = true := by rw [decide_eq_true_iff]; exact h2
      go_wp2
      go_ret
      exact ⟨ret_int (cmpN_gt (lt_of_nl (by rw [← Hla.out, ← Hlb.out]; exact h2))).symm, Below.refl _ _⟩
    · have t2 : decide (lb < la) = false := by rw [decide_eq_false_iff_not]; exact h2
      have HE := Lib.hid (show la = lb by omega)
      go_wp2
      go_loopw [5] (fun i wr => ∃ k : Nat, k ≤ la ∧ i = .int .i64 ((k : Int) - 1) ∧ x / 65536 ^ k = y / 65536 ^ k ∧ Below w.heap.size w wr) (fun i _ => (intOf i + 1).toNat)
      case atStart =>
        refine ⟨la, Nat.le_refl _, by go_num, ?_, Below.refl _ _⟩
        have e1 := lt_nl x
        have e2 := lt_nl y
        rw [← Hla.out] at e1
        rw [← Hlb.out, ← HE.out] at e2
        rw [Nat.div_eq_of_lt e1, Nat.div_eq_of_lt e2]
      case round =>
        obtain ⟨k, hk, rfl, hv, hbl⟩ := hrel
        have Hv := Lib.hid hv
        clear hv
        by_cases hk0 : 0 < k
        · obtain ⟨j, rfl⟩ : ∃ j, k = j + 1 := ⟨k - 1, by omega⟩
          have ca := (Ha.out.below hbl).cell j (by rw [← Hla.out]; omega)
          have cb := (Hb.out.below hbl).cell j (by rw [← Hlb.out]; omega)
          have hjb : j < lb := by omega
          obtain ⟨p, hp⟩ : ∃ p, p = dig x j := ⟨_, rfl⟩
          obtain ⟨q, hq⟩ : ∃ q, q = dig y j := ⟨_, rfl⟩
          rw [← hp] at ca
          rw [← hq] at cb
          have Hp := Lib.hid hp
          have Hq := Lib.hid hq
          clear hp hq
          rw [show ((j + 1 : Nat) : Int) - 1 = (j : Int) by omega]
          have t3 : decide ((0:Int) ≤ (j : Int)) = true := by rw [decide_eq_true_iff]; omega
          by_cases h3 : p < q
          · have t4 : decide (p < q) = true := by rw [decide_eq_true_iff]; exact h3
            go_wp2
            go_quiet (fail)
            go_wp2
            go_ret
            exact ⟨ret_int (cmpN_lt (lt_of_dig_lt Hv.out (by rw [← Hp.out, ← Hq.out]; exact h3))).symm, undrewN' hbl⟩
          · have t4 : decide (p < q) = false := by rw [decide_eq_false_iff_not]; exact h3
            by_cases h4 : q < p
            · have t5 : decide (q < p) = true := by rw [decide_eq_true_iff]; exact h4
              go_wp2
              go_quiet (fail)
              go_wp2
              go_quiet (fail)
              go_wp2
              go_ret
              exact ⟨ret_int (cmpN_gt (lt_of_dig_lt Hv.out.symm (by rw [← Hp.out, ← Hq.out]; exact h4))).symm, undrewN' (undrewN' hbl)⟩
            · have t5 : decide (q < p) = false := by rw [decide_eq_false_iff_not]; exact h4
              go_wp2
              go_quiet (fail)
              go_wp2
              go_quiet (fail)
              go_wp2
              refine ⟨⟨j, by omega, by go_num, ?_, by first | exact undrewN' (undrewN' hbl) | exact undrewN' hbl⟩, by simp [intOf]⟩
              rw [div_pow_step x j, div_pow_step y j, Hv.out, ← Hp.out, ← Hq.out]
              omega
        · have hk1 : k = 0 := by omega
          subst hk1
          go_wp2
          go_ret
          have e := Hv.out
          rw [Nat.pow_zero, Nat.div_one, Nat.div_one] at e
          rw [e, cmpN_eq]
          exact ⟨rfl, hbl⟩

def SuRel (x y B : Nat) (w : World) (i c : Nat) (v : Value) (wr : World) : Prop := ∃ ds : List Nat, Own wr B 3 v (cellsN ds) ∧ (∀ d ∈ ds, d < 65536) ∧ ds.length = i ∧ val ds + y % 65536 ^ i = x % 65536 ^ i + 65536 ^ i * c ∧ Below B w wr
theorem SuRel.step {x y B k c c' r : Nat} {w w1 : World} {v1 : Value} {ds : List Nat} (hd : ∀ d ∈ ds, d < 65536) (hdl : ds.length = k) (hv : val ds + y % 65536 ^ k = x % 65536 ^ k + 65536 ^ k * c)
    (hr : r < 65536) (hS : r + c + dig y k = dig x k + 65536 * c') (ho : Own w1 B 3 v1 (cellsN ds ++ [.int .i64 (r : Int)])) (hb : Below B w w1) : SuRel x y B w (k + 1) c' v1 w1 := by
  rw [cellsN_snoc] at ho
  refine ⟨_, ho, ?_, by simp [hdl], ?_, hb⟩
  · intro z hz
    rcases List.mem_append.1 hz with h | h
    · exact hd z h
    · rw [List.mem_singleton.1 h]; omega
  · rw [val_snoc, hdl, mod_succ, mod_succ, Nat.pow_succ]
    generalize 65536 ^ k = p at *
    grind
set_option maxRecDepth 100000 in
set_option maxHeartbeats 800000 in
theorem spSub (a b : Value) (x y : Nat) (w : World) (ha : NatV w a x) (hb : NatV w b y) (hx : nl x ≤ 1000000000) (hy : y ≤ x) :
    Calls Tryz.prog 40 #[a, b] w fun e w' => ∃ r, e = .returned r ∧ NPost (x - y) w r w' := by
  have hSa := ha.isS
  have hSb := hb.isS
  have hLa := ha.len
  have hLb := hb.len
  have hlab := nl_mono hy
  obtain ⟨la, hla⟩ : ∃ la, la = nl x := ⟨_, rfl⟩
  obtain ⟨lb, hlb⟩ : ∃ lb, lb = nl y := ⟨_, rfl⟩
  rw [← hla] at hLa hx hlab
  rw [← hlb] at hLb hlab
  have Hla := Lib.hid hla
  have Hlb := Lib.hid hlb
  have Ha := Lib.hid ha
  have Hb := Lib.hid hb
  clear hla hlb ha hb
  go_enter Tryz.func40, Tryz.ntmps40
  go_wp2
  go_loopw [5, 6, 12] (fun v c i wr => ∃ k cc : Nat, k ≤ la ∧ cc ≤ 1 ∧ i = .int .i64 k ∧ c = .int .i64 cc ∧ SuRel x y w.heap.size w k cc v wr) (fun _ _ i _ => la - (intOf i).toNat)
  case atStart => exact ⟨0, 0, Nat.zero_le _, by decide, rfl, rfl, [], Own.zero _ _ _ _ _, by simp, rfl, by simp [val, Nat.mod_one], (Below.refl _ _).alloc (Nat.le_refl _) _⟩
  case round =>
    obtain ⟨k, c, hk, hc, rfl, rfl, ds, ho, hd, hdl, hv, hbl⟩ := hrel
    have Hd := Lib.hid hd
    have Hdl := Lib.hid hdl
    have Hv := Lib.hid hv
    have hbz := hbl.size
    have Hcl := Lib.hid (cellsN_length ds)
    clear hd hdl hv
    by_cases hka : k < la
    · have ca := (Ha.out.below hbl).cell k (by rw [← Hla.out]; exact hka)
      have g1 := dig_lt x k
      have g2 := dig_lt y k
      have cb : k < lb → _ := fun h => (Hb.out.below hbl).cell k (by rw [← Hlb.out]; exact h)
      have hyz : ¬ k < lb → dig y k = 0 := fun h => dig_ge (by rw [← Hlb.out]; omega)
      obtain ⟨p, hp⟩ : ∃ p, p = dig x k := ⟨_, rfl⟩
      obtain ⟨q, hq⟩ : ∃ q, q = dig y k := ⟨_, rfl⟩
      rw [← hp] at ca g1
      rw [← hq] at cb hyz g2
      have Hp := Lib.hid hp
      have Hq := Lib.hid hq
      clear hp hq
      have fin : ∀ (r c' : Nat), r < 65536 → r + c + q = p + 65536 * c' → ∀ (v1 : Value) (w1 : World), Own w1 w.heap.size 3 v1 (cellsN ds ++ [.int .i64 (r : Int)]) → Below w.heap.size w w1 → SuRel x y w.heap.size w (k + 1) c' v1 w1 :=
        fun r c' h1 h2 v1 w1 h3 h4 => SuRel.step Hd.out Hdl.out Hv.out h1 (by rw [← Hp.out, ← Hq.out]; exact h2) h3 h4
      have Fin := Lib.hid fin
      have hdlk : ds.length ≤ 1000000000 := by have := Hdl.out; omega
      clear fin
      have hsplit : (k < lb ∧ p < c + q) ∨ (k < lb ∧ c + q ≤ p) ∨ (¬ k < lb ∧ p < c) ∨ (¬ k < lb ∧ c ≤ p) := by omega
      rcases hsplit with ⟨hkb, hpq⟩ | ⟨hkb, hpq⟩ | ⟨hkb, hpq⟩ | ⟨hkb, hpq⟩
      case' inl =>
        have cb' := cb hkb
        have t1 : decide (k < lb) = true := by rw [decide_eq_true_iff]; exact hkb
        have t2 : decide ((p : Int) - c - q < 0) = true := by rw [decide_eq_true_iff]; omega
        obtain ⟨r, hr⟩ : ∃ r : Nat, (r : Int) = (p : Int) - c - q + 65536 := ⟨(p + 65536) - c - q, by omega⟩
        have hf := Fin.out r 1 (by omega) (by omega)
      case' inr.inl =>
        have cb' := cb hkb
        have t1 : decide (k < lb) = true := by rw [decide_eq_true_iff]; exact hkb
        have t2 : decide ((p : Int) - c - q < 0) = false := by rw [decide_eq_false_iff_not]; omega
        obtain ⟨r, hr⟩ : ∃ r : Nat, (r : Int) = (p : Int) - c - q := ⟨p - c - q, by omega⟩
        have hf := Fin.out r 0 (by omega) (by omega)
      case' inr.inr.inl =>
        have cb' := hyz hkb
        have t1 : decide (k < lb) = false := by rw [decide_eq_false_iff_not]; exact hkb
        have t2 : decide ((p : Int) - c < 0) = true := by rw [decide_eq_true_iff]; omega
        obtain ⟨r, hr⟩ : ∃ r : Nat, (r : Int) = (p : Int) - c + 65536 := ⟨(p + 65536) - c, by omega⟩
        have hf := Fin.out r 1 (by omega) (by omega)
        clear cb'
      case' inr.inr.inr =>
        have cb' := hyz hkb
        have t1 : decide (k < lb) = false := by rw [decide_eq_false_iff_not]; exact hkb
        have t2 : decide ((p : Int) - c < 0) = false := by rw [decide_eq_false_iff_not]; omega
        obtain ⟨r, hr⟩ : ∃ r : Nat, (r : Int) = (p : Int) - c := ⟨p - c, by omega⟩
        have hf := Fin.out r 0 (by omega) (by omega)
        clear cb'
      all_goals
        rw [hr] at hf
        have Hf := Lib.hid hf
        clear hf hr hyz cb
        go_wp2_with (at_builtin; refine wpList_append_O rfl _ _ _ _ rfl elemN w.heap.size _ _ rfl (ho.alloc _) _ rfl 1 [.int .i64 _] (srcOne Tryz.underlying29 wr _ _) ?_ ?_ ?_ ?_)
        · rw [Hcl.out]; unfold maxLen; omega
        · rw [Hcl.out]; omega
        · simp; omega
        · intro v1 w1 ho1 hb1 _ _ _
          have hs := Hf.out v1 w1 ho1 ((hbl.alloc hbz _).trans hb1)
          have Hs := Lib.hid hs
          clear hs ho1
          go_wp2
          refine ⟨⟨k + 1, _, by omega, ?_, by go_num, ?_, Hs.out⟩, by simp [intOf]; omega⟩
          · omega
          · rfl
    · have hkl : k = la := by omega
      subst hkl
      go_wp2_with fail
      refine (spTrim _ ds wr ho.rl Hd.out (by have := Hdl.out; omega)).mono ?_
      rintro _ _ ⟨r, rfl, hr, rfl⟩
      have Hr := Lib.hid hr
      clear hr
      go_wp2
      go_ret
      refine ⟨_, rfl, ?_, hbl⟩
      have e1 := Hv.out
      have e2 := val_lt Hd.out
      rw [Hdl.out] at e2
      rw [mod_nl (n := x) (by rw [← Hla.out]; exact Nat.le_refl _), mod_nl (n := y) (by rw [← Hlb.out]; exact hlab)] at e1
      have hc0 : c = 0 := by
        rcases (by omega : c = 0 ∨ c = 1) with h | h
        · exact h
        · rw [h] at e1; omega
      rw [hc0] at e1
      rw [show x - y = val ds by omega]
      exact Hr.out
def bl (n : Nat) : Nat := if n = 0 then 0 else n.log2 + 1
theorem bl_zero : bl 0 = 0 := rfl
theorem lt_bl (n : Nat) : n < 2 ^ bl n := by
  unfold bl
  split
  · rename_i h; subst h; decide
  · exact Nat.lt_log2_self
theorem bl_ge {n : Nat} (h : 0 < n) : 2 ^ (bl n - 1) ≤ n := by
  unfold bl
  rw [if_neg (by omega), Nat.add_sub_cancel]
  exact Nat.log2_self_le (by omega)
theorem bl_le {n k : Nat} (h : n < 2 ^ k) : bl n ≤ k := by
  rcases Nat.eq_zero_or_pos n with rfl | hp
  · exact Nat.zero_le _
  · have h1 := bl_ge hp
    have h2 : 2 ^ (bl n - 1) < 2 ^ k := by omega
    have h3 := (Nat.pow_lt_pow_iff_right (show 1 < 2 by decide)).1 h2
    omega
theorem bl_gt {n k : Nat} (h : 2 ^ k ≤ n) : k < bl n := by
  have h1 := lt_bl n
  have h2 : 2 ^ k < 2 ^ bl n := by omega
  exact (Nat.pow_lt_pow_iff_right (show 1 < 2 by decide)).1 h2
theorem bl_pos {n : Nat} (h : 0 < n) : 0 < bl n := bl_gt (k := 0) (by omega)
theorem bl_of {n k : Nat} (h1 : 2 ^ k ≤ n) (h2 : n < 2 ^ (k + 1)) : bl n = k + 1 := by
  have := bl_le h2
  have := bl_gt h1
  omega
theorem bl_half {n : Nat} (h : 0 < n) : bl (n / 2) + 1 = bl n := by
  have h1 := bl_ge h
  have h2 := lt_bl n
  have h3 := bl_pos h
  obtain ⟨k, hk⟩ : ∃ k, bl n = k + 1 := ⟨bl n - 1, by omega⟩
  rw [hk] at h1 h2 ⊢
  rw [Nat.add_sub_cancel] at h1
  cases k with
  | zero =>
    rw [show n / 2 = 0 by simp at h2; omega]; rfl
  | succ k => rw [bl_of (n := n / 2) (k := k) (by rw [Nat.pow_succ] at h1; omega) (by rw [Nat.pow_succ] at h2; omega)]
theorem bl_shift {n t k : Nat} (ht : 0 < t) (hn : n = n % 2 ^ k + 2 ^ k * t) : bl n = k + bl t := by
  have h1 := bl_ge ht
  have h2 := lt_bl t
  have h3 := bl_pos ht
  have h4 := Nat.mod_lt n (Nat.pow_pos (n := k) (show 0 < 2 by decide))
  have h5 := bl_of (n := n) (k := k + (bl t - 1)) (by
    rw [Nat.pow_add, hn]
    have := Nat.mul_le_mul_left (2 ^ k) h1
    omega) (by
    rw [show k + (bl t - 1) + 1 = k + bl t by omega, Nat.pow_add, hn]
    have : 2 ^ k * (t + 1) ≤ 2 ^ k * 2 ^ bl t := Nat.mul_le_mul_left _ h2
    rw [Nat.mul_add] at this
    omega)
  omega
theorem bl_digits {n : Nat} (h : 0 < n) : bl n = 16 * (nl n - 1) + bl (dig n (nl n - 1)) := by
  have h0 := nl_pos h
  refine bl_shift (Nat.pos_of_ne_zero (dig_last h)) ?_
  rw [← pow16, ← mod_succ, show nl n - 1 + 1 = nl n by omega, mod_nl (Nat.le_refl _)]
theorem bl_nl (n : Nat) : bl n ≤ 16 * nl n := bl_le (by rw [← pow16]; exact lt_nl n)
theorem nl_bl {n k : Nat} (h : bl n ≤ 16 * k) : nl n ≤ k := nl_le (by rw [pow16]; exact Nat.lt_of_lt_of_le (lt_bl n) (Nat.pow_le_pow_right (by decide) h))
theorem nl_two (i : Nat) : nl (2 ^ i) = i / 16 + 1 := by
  refine Nat.le_antisymm (nl_le ?_) ?_
  · rw [pow16]; exact Nat.pow_lt_pow_right (by decide) (by omega)
  · refine Nat.lt_of_not_le fun hc => ?_
    have h1 := lt_nl (2 ^ i)
    rw [pow16] at h1
    have := (Nat.pow_lt_pow_iff_right (show 1 < 2 by decide)).1 h1
    omega

set_option maxRecDepth 100000 in
set_option maxHeartbeats 400000 in
theorem spLen (a : Value) (x : Nat) (w : World) (ha : NatV w a x) (hx : nl x ≤ 1000000000) :
    Calls Tryz.prog 46 #[a] w fun e w' => e = .returned (.int .i64 (bl x : Nat)) ∧ w = w' := by
  have hSa := ha.isS
  have hLa := ha.len
  have Ha := Lib.hid ha
  clear ha
  by_cases hx0 : x = 0
  · subst hx0
    rw [nl_zero] at hLa
    go_enter Tryz.func46, Tryz.ntmps46
    go_wp2
    go_ret
    exact ⟨rfl, rfl⟩
  · have h0 := nl_pos (show 0 < x by omega)
    have hd := bl_digits (show 0 < x by omega)
    have c := Ha.out.cell (nl x - 1) (by omega)
    have hz : ((nl x : Int) == 0) = false := by rw [beq_eq_false_iff_ne]; omega
    obtain ⟨t, ht⟩ : ∃ t, t = dig x (nl x - 1) := ⟨_, rfl⟩
    have htl := dig_lt x (nl x - 1)
    rw [← ht] at hd c htl
    obtain ⟨n, hn⟩ : ∃ n, n = nl x := ⟨_, rfl⟩
    rw [← hn] at hLa hx h0 hd c hz
    have Hd := Lib.hid hd
    have hbx := bl_nl x
    rw [← hn] at hbx
    have e1 : (n : Int) - 1 = ((n - 1 : Nat) : Int) := by omega
    clear hd ht hn
    go_enter Tryz.func46, Tryz.ntmps46
    go_wp2
    go_loop [3, 4] (fun i u => ∃ k m : Nat, m < 65536 ∧ k ≤ 16000000000 ∧ i = .int .i64 k ∧ u = .int .i64 m ∧ k + bl m = bl x) (fun _ u => (intOf u).toNat)
    case atStart => exact ⟨16 * (n - 1), t, htl, by omega, by go_num, rfl, Hd.out.symm⟩
    case round =>
      obtain ⟨k, m, hm, hk, rfl, rfl, hb⟩ := hrel
      have hkb : k ≤ bl x := by omega
      have hkm : 0 < m → k + 1 ≤ bl x := fun h => by have := bl_pos h; omega
      have Hb := Lib.hid hb
      clear hb
      by_cases hm0 : m = 0
      · subst hm0
        go_wp2
        go_ret
        have e := Hb.out
        rw [bl_zero, Nat.add_zero] at e
        rw [← e]
        exact ⟨rfl, rfl⟩
      · have t1 : decide (0 < m) = true := by rw [decide_eq_true_iff]; omega
        have hh := bl_half (show 0 < m by omega)
        have Hh := Lib.hid hh
        clear hh
        go_wp2
        refine ⟨⟨k + 1, m / 2, by omega, ?_, by go_num, by go_num, ?_⟩, by simp [intOf]; omega⟩
        · have := hkm (by omega); omega
        · have := Hb.out; have := Hh.out; omega
end Go.Proofs.YtllhnjpnkmjopaaGreatDoor
