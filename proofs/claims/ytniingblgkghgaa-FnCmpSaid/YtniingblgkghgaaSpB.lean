/-
Natural numbers of the reference: Small, Add. No condition.
-/
import Derived.Test.YtniingblgkghgaaSpA
namespace Go.Proofs.Ytniingblgkghgaa
open Go.RowKit

/-- Small's relation. -/
def SmRel (N B : Nat) (w : World) (m : Nat) (v : Value) (wr : World) : Prop := ∃ ds : List Nat, Own wr B 3 v (cellsN ds) ∧ (∀ d ∈ ds, d < 65536) ∧ val ds + 65536 ^ ds.length * m = N ∧ ds.length + nl m ≤ nl N ∧ (ds = [] ∨ 0 < m ∨ ds.getD (ds.length - 1) 0 ≠ 0) ∧ Below B w wr
set_option maxRecDepth 100000 in
set_option maxHeartbeats 400000 in
theorem spSmall (n : Nat) (w : World) (hn : n ≤ 9223372036854775807) :
    Calls Try.prog 49 #[.int .i64 n] w fun e w' => ∃ r, e = .returned r ∧ NPost n w r w' := by
  have Hn := Lib.hid (nl_le4 (n := n) (by omega))
  go_enter Try.func49, Try.ntmps49
  go_wp2
  go_loopw [0, 3] (fun i u wr => ∃ m : Nat, m ≤ n ∧ i = .int .i64 m ∧ SmRel n w.heap.size w m u wr) (fun i _ _ => (intOf i).toNat)
  case atStart => exact ⟨n, Nat.le_refl _, rfl, [], Own.zero _ _ _ _ _, by simp, by simp [val], by simp, .inl rfl, (Below.refl _ _).alloc (Nat.le_refl _) _⟩
  case round =>
    obtain ⟨m, hm, rfl, ds, ho, hd, hv, hl, hz, hb⟩ := hrel
    have Hd := Lib.hid hd
    have Hv := Lib.hid hv
    have Hl := Lib.hid hl
    have Hz := Lib.hid hz
    have hbz := hb.size
    have Hcl := Lib.hid (cellsN_length ds)
    clear hd hv hl hz
    by_cases hm0 : m = 0
    · subst hm0
      go_wp2
      go_ret
      refine ⟨_, rfl, ?_, hb⟩
      have := NatV.ofRL ho.rl Hd.out (Hz.out.imp id fun h => h.resolve_left (by omega))
      rwa [show val ds = n by have := Hv.out; simpa using this] at this
    · have hm1 : 0 < m := by omega
      have hlen : ds.length ≤ 4 := by have := Hl.out; have := Hn.out; omega
      go_wp2_with (at_builtin; refine wpList_append_O rfl _ _ _ _ rfl elemN w.heap.size _ _ rfl (ho.alloc _) _ rfl 1 [.int .i64 ((m : Int) % 65536)] (srcOne Try.underlying34 wr _ _) ?c3 ?c4 ?c5 ?_)
      case c3 => rw [Hcl.out]; unfold maxLen; omega
      case c4 => rw [Hcl.out]; omega
      case c5 => simp; omega
      rintro v1 w1 ho1 hb1 - - -
      rw [show (m : Int) % 65536 = ((m % 65536 : Nat) : Int) by omega, cellsN_snoc] at ho1
      go_wp2
      go_roundw
      case rel =>
        refine ⟨m / 65536, by omega, by go_num, ds ++ [m % 65536], ho1, ?_, ?_, ?_, ?_, (hb.alloc hbz _).trans hb1⟩
        · intro x hx
          rcases List.mem_append.1 hx with h | h
          · exact Hd.out x h
          · rw [List.mem_singleton.1 h]; omega
        · rw [val_snoc, List.length_append, List.length_singleton, Nat.pow_succ, ← Hv.out]
          have := Nat.div_add_mod m 65536
          grind
        · have := nl_div hm1
          have := Hl.out
          simp; omega
        · by_cases h : m / 65536 = 0
          · right; right
            simp [List.getD_eq_getElem?_getD]; omega
          · right; left; omega
      case measure => simp [intOf]; omega

/-- Add's relation. -/
def AdRel (x y B : Nat) (w : World) (i c : Nat) (v : Value) (wr : World) : Prop := ∃ ds : List Nat, Own wr B 3 v (cellsN ds) ∧ (∀ d ∈ ds, d < 65536) ∧ ds.length = i ∧ val ds + 65536 ^ i * c = x % 65536 ^ i + y % 65536 ^ i ∧ Below B w wr
theorem add_step {x y i V c : Nat} (h : V + 65536 ^ i * c = x % 65536 ^ i + y % 65536 ^ i) :
    V + 65536 ^ i * ((c + dig x i + dig y i) % 65536) + 65536 ^ (i + 1) * ((c + dig x i + dig y i) / 65536) = x % 65536 ^ (i + 1) + y % 65536 ^ (i + 1) := by
  rw [mod_succ, mod_succ, Nat.pow_succ]
  have := Nat.div_add_mod (c + dig x i + dig y i) 65536
  generalize (c + dig x i + dig y i) / 65536 = q at *
  generalize (c + dig x i + dig y i) % 65536 = r at *
  grind
theorem AdRel.step {x y B k c S : Nat} {w w1 : World} {v1 : Value} {ds : List Nat} {d : Int} (hd : ∀ d ∈ ds, d < 65536) (hdl : ds.length = k) (hv : val ds + 65536 ^ k * c = x % 65536 ^ k + y % 65536 ^ k)
    (hS : S = c + dig x k + dig y k) (hdS : d = ((S % 65536 : Nat) : Int)) (ho : Own w1 B 3 v1 (cellsN ds ++ [.int .i64 d])) (hb : Below B w w1) : AdRel x y B w (k + 1) (S / 65536) v1 w1 := by
  subst hdS
  rw [cellsN_snoc] at ho
  refine ⟨_, ho, ?_, by simp [hdl], ?_, hb⟩
  · intro z hz
    rcases List.mem_append.1 hz with h | h
    · exact hd z h
    · rw [List.mem_singleton.1 h]; omega
  · rw [val_snoc, hdl, hS]; exact add_step hv
set_option maxRecDepth 100000 in
set_option maxHeartbeats 1600000 in
theorem spAdd (a b : Value) (x y : Nat) (w : World) (ha : NatV w a x) (hb : NatV w b y) (hx : nl x ≤ 1000000000) (hy : nl y ≤ 1000000000) :
    Calls Try.prog 67 #[a, b] w fun e w' => ∃ r, e = .returned r ∧ NPost (x + y) w r w' := by
  have hSa := ha.isS
  have hSb := hb.isS
  have hLa := ha.len
  have hLb := hb.len
  obtain ⟨la, hla⟩ : ∃ la, la = nl x := ⟨_, rfl⟩
  obtain ⟨lb, hlb⟩ : ∃ lb, lb = nl y := ⟨_, rfl⟩
  rw [← hla] at hLa hx
  rw [← hlb] at hLb hy
  have Hla := Lib.hid hla
  have Hlb := Lib.hid hlb
  have Ha := Lib.hid ha
  have Hb := Lib.hid hb
  clear hla hlb ha hb
  go_enter Try.func67, Try.ntmps67
  go_wp2
  go_loopw [5, 6, 7] (fun u c i wr => ∃ k c' : Nat, k ≤ max la lb ∧ c' ≤ 1 ∧ i = .int .i64 k ∧ c = .int .i64 c' ∧ AdRel x y w.heap.size w k c' u wr) (fun _ _ i _ => max la lb - (intOf i).toNat)
  case atStart => exact ⟨0, 0, Nat.zero_le _, by omega, rfl, rfl, [], Own.zero _ _ _ _ _, by simp, rfl, by simp [val, Nat.mod_one], (Below.refl _ _).alloc (Nat.le_refl _) _⟩
  case round =>
    obtain ⟨k, c, hk, hc, rfl, rfl, ds, ho, hd, hdl, hv, hbl⟩ := hrel
    have Hd := Lib.hid hd
    have Hv := Lib.hid hv
    have hbz := hbl.size
    have Hcl := Lib.hid (cellsN_length ds)
    have Hdl := Lib.hid hdl
    clear hd hv hdl
    have g1 := dig_lt x k
    have g2 := dig_lt y k
    have na := Ha.out.below hbl
    have nb := Hb.out.below hbl
    obtain ⟨p, hp⟩ : ∃ p, p = dig x k := ⟨_, rfl⟩
    obtain ⟨q, hq⟩ : ∃ q, q = dig y k := ⟨_, rfl⟩
    rw [← hp] at g1
    rw [← hq] at g2
    have Hp := Lib.hid hp
    have Hq := Lib.hid hq
    clear hp hq
    by_cases hka : k < la
    · have ca := na.cell k (by rw [← Hla.out]; exact hka)
      rw [← Hp.out] at ca
      by_cases hkb : k < lb
      · have cb := nb.cell k (by rw [← Hlb.out]; exact hkb)
        rw [← Hq.out] at cb
        clear na nb
        go_wp2_with (at_builtin; refine wpList_append_O rfl _ _ _ _ rfl elemN w.heap.size _ _ rfl (ho.alloc _) _ rfl 1 [.int .i64 _] (srcOne Try.underlying34 wr _ _) ?c3 ?c4 ?c5 ?_)
        case c3 => rw [Hcl.out, Hdl.out]; unfold maxLen; omega
        case c4 => rw [Hcl.out, Hdl.out]; omega
        case c5 => simp; omega
        rintro v1 w1 ho1 hb1 - - -
        have Ho1 := Lib.hid ho1
        clear ho1
        go_wp2
        go_roundw
        case rel =>
          refine ⟨k + 1, (c + p + q) / 65536, by omega, by omega, by go_num, by go_num, ?_⟩
          exact AdRel.step Hd.out Hdl.out Hv.out (by rw [Hp.out, Hq.out]) (by omega) Ho1.out ((hbl.alloc hbz _).trans hb1)
        case measure => simp [intOf]; omega
      · have hq0 : dig y k = 0 := dig_ge (by rw [← Hlb.out]; omega)
        have Hq0 := Lib.hid hq0
        clear na nb hq0
        go_wp2_with (at_builtin; refine wpList_append_O rfl _ _ _ _ rfl elemN w.heap.size _ _ rfl (ho.alloc _) _ rfl 1 [.int .i64 _] (srcOne Try.underlying34 wr _ _) ?c3 ?c4 ?c5 ?_)
        case c3 => rw [Hcl.out, Hdl.out]; unfold maxLen; omega
        case c4 => rw [Hcl.out, Hdl.out]; omega
        case c5 => simp; omega
        rintro v1 w1 ho1 hb1 - - -
        have Ho1 := Lib.hid ho1
        clear ho1
        go_wp2
        go_roundw
        case rel =>
          refine ⟨k + 1, (c + p) / 65536, by omega, by omega, by go_num, by go_num, ?_⟩
          exact AdRel.step Hd.out Hdl.out Hv.out (by rw [Hp.out, Hq0.out]; rfl) (by omega) Ho1.out ((hbl.alloc hbz _).trans hb1)
        case measure => simp [intOf]; omega
    · have hp0 : dig x k = 0 := dig_ge (by rw [← Hla.out]; omega)
      have Hp0 := Lib.hid hp0
      clear hp0
      by_cases hkb : k < lb
      · have cb := nb.cell k (by rw [← Hlb.out]; exact hkb)
        rw [← Hq.out] at cb
        clear na nb
        go_wp2_with (at_builtin; refine wpList_append_O rfl _ _ _ _ rfl elemN w.heap.size _ _ rfl (ho.alloc _) _ rfl 1 [.int .i64 _] (srcOne Try.underlying34 wr _ _) ?c3 ?c4 ?c5 ?_)
        case c3 => rw [Hcl.out, Hdl.out]; unfold maxLen; omega
        case c4 => rw [Hcl.out, Hdl.out]; omega
        case c5 => simp; omega
        rintro v1 w1 ho1 hb1 - - -
        have Ho1 := Lib.hid ho1
        clear ho1
        go_wp2
        go_roundw
        case rel =>
          refine ⟨k + 1, (c + q) / 65536, by omega, by omega, by go_num, by go_num, ?_⟩
          exact AdRel.step Hd.out Hdl.out Hv.out (by rw [Hp0.out, Hq.out]; omega) (by omega) Ho1.out ((hbl.alloc hbz _).trans hb1)
        case measure => simp [intOf]; omega
      · clear na nb
        go_wp2_with (at_builtin; refine wpList_append_O rfl _ _ _ _ rfl elemN w.heap.size _ _ rfl (ho.alloc _) _ rfl 1 [.int .i64 _] (srcOne Try.underlying34 wr _ _) ?c3 ?c4 ?c5 ?_)
        case c3 => rw [Hcl.out, Hdl.out]; unfold maxLen; omega
        case c4 => rw [Hcl.out, Hdl.out]; omega
        case c5 => simp; omega
        rintro v1 w1 ho1 hb1 - - -
        rw [cellsN_snoc] at ho1
        have Ho1 := Lib.hid ho1
        clear ho1
        go_wp2_with fail
        refine (spTrim v1 (ds ++ [c]) w1 Ho1.out.rl ?_ ?_).mono ?_
        · intro z hz
          rcases List.mem_append.1 hz with h | h
          · exact Hd.out z h
          · rw [List.mem_singleton.1 h]; omega
        · rw [List.length_append, Hdl.out]; simp; omega
        rintro _ _ ⟨r, rfl, hr, rfl⟩
        have Hrr := Lib.hid hr
        clear hr
        go_wp2
        go_ret
        refine ⟨_, rfl, ?_, (hbl.alloc hbz _).trans hb1⟩
        have h1 : val (ds ++ [c]) = x + y := by
          rw [val_snoc, Hdl.out, Hv.out, mod_nl (by rw [← Hla.out]; omega), mod_nl (by rw [← Hlb.out]; omega)]
        rw [← h1]
        exact Hrr.out
end Go.Proofs.Ytniingblgkghgaa
