/-
Texts of this proof, joined: DdH. No condition.
-/
import Derived.Test.YtdepidpgbgfjlaaGreatDoorK71
namespace Go.Proofs.YtdepidpgbgfjlaaGreatDoor
open Go.RowKit

theorem win_val {X R m n j r : Nat} (hR : R = X / 18446744073709551616 ^ j) (hjr : j + r ≤ m + n) : wv (((wdsN X (m + n)).take (j + r)).drop j) = R % 18446744073709551616 ^ r := by
  rw [wdsN_window X (m + n) hjr, wdsN_wv, ← hR]
theorem wdsN_low (A n : Nat) : wdsN (A % 18446744073709551616 ^ n) n = wdsN A n :=
  wdsN_of (wdsN_length _ _) fun i hi => by rw [wdsN_getD hi, wdg_lowmod _ _ _ hi]
theorem fin0 {u q h v : Value} {Q U V m n B s L j X R qh Z : Nat} {o : Option (Nat × Value)} {hs : List Value} {w w1 : World} (hX : X = U % (V * 18446744073709551616 ^ (j + 1))) (hR : R = X / 18446744073709551616 ^ j) (hVp : 0 < V) (hVn : V < 18446744073709551616 ^ n) (hj : j < m)
    (g1 : R < 18446744073709551616 ^ (n + 1)) (p1 : R / V ≤ qh) (p2 : qh ≤ R / V + 1) (hq : qh < 18446744073709551616) (sp : SbP u q h v Q V m n B s L o (wdsN X (m + n)) hs (j + 1) j (n + 1) (V * qh) 0 Z w w1) :
    qh = R / V ∧ Db u q h v Q V m n B s L o (wdsN (U % (V * 18446744073709551616 ^ j)) (m + n)) (j + 1) w w1 := by
  have he := sp.eq
  rw [win_val hR (by omega), Nat.mod_eq_of_lt g1, Nat.mul_zero, Nat.add_zero, Nat.mod_eq_of_lt (prod_lt hVn hq), Nat.add_comm, Nat.mul_comm] at he
  obtain ⟨k1, k2⟩ := kd_sub0 hVp p1 he p2
  refine ⟨k1, ?_⟩
  have hd := sp.db
  rw [k2, hR, hX, show j + (n + 1) = j + n + 1 by omega, round_words hVp (Nat.le_of_lt hVn) hj] at hd
  exact hd
theorem fin1 {u q h v : Value} {Q U V m n B s L j X R qh Z A c : Nat} {o : Option (Nat × Value)} {hs : List Value} {w w1 w2 : World} (hX : X = U % (V * 18446744073709551616 ^ (j + 1))) (hR : R = X / 18446744073709551616 ^ j) (hVp : 0 < V) (hVn : V < 18446744073709551616 ^ n) (hj : j < m)
    (g1 : R < 18446744073709551616 ^ (n + 1)) (p1 : R / V ≤ qh) (p2 : qh ≤ R / V + 1) (hq : qh < 18446744073709551616) (sp : SbP u q h v Q V m n B s L o (wdsN X (m + n)) hs (j + 1) j (n + 1) (V * qh) 1 Z w w1)
    (ap : AdP u q h v Q V m n B s L o ((wdsN X (m + n)).take j ++ (wdsN Z (n + 1) ++ (wdsN X (m + n)).drop (j + (n + 1)))) (j + 1) j c A w w2) :
    0 < qh ∧ qh - 1 = R / V ∧ wdg Z n + c = 18446744073709551616 ∧
    (((wdsN X (m + n)).take j ++ (wdsN Z (n + 1) ++ (wdsN X (m + n)).drop (j + (n + 1)))).take j ++ (wdsN A n ++ ((wdsN X (m + n)).take j ++ (wdsN Z (n + 1) ++ (wdsN X (m + n)).drop (j + (n + 1)))).drop (j + n))).getD (j + n) 0 = wdg Z n ∧
    (((wdsN X (m + n)).take j ++ (wdsN Z (n + 1) ++ (wdsN X (m + n)).drop (j + (n + 1)))).take j ++ (wdsN A n ++ ((wdsN X (m + n)).take j ++ (wdsN Z (n + 1) ++ (wdsN X (m + n)).drop (j + (n + 1)))).drop (j + n))).set (j + n) 0 = wdsN (U % (V * 18446744073709551616 ^ j)) (m + n) := by
  have he := sp.eq
  rw [win_val hR (by omega), Nat.mod_eq_of_lt g1, Nat.mul_one, Nat.mod_eq_of_lt (prod_lt hVn hq), Nat.add_comm Z, Nat.mul_comm V, Nat.pow_succ] at he
  have l1 : ((wdsN X (m + n)).take j).length = j := by rw [List.length_take, wdsN_length]; omega
  have ea : ((wdsN X (m + n)).take j ++ (wdsN Z (n + 1) ++ (wdsN X (m + n)).drop (j + (n + 1)))).take j = (wdsN X (m + n)).take j := List.take_left' l1
  have ew : (((wdsN X (m + n)).take j ++ (wdsN Z (n + 1) ++ (wdsN X (m + n)).drop (j + (n + 1)))).take (j + n)).drop j = wdsN Z n := by
    rw [List.take_append, l1, List.take_of_length_le (by omega), show j + n - j = n by omega, List.drop_left' l1, wdsN_succ, List.append_assoc, List.take_left' (wdsN_length _ _)]
  have eb : ((wdsN X (m + n)).take j ++ (wdsN Z (n + 1) ++ (wdsN X (m + n)).drop (j + (n + 1)))).drop (j + n) = wdg Z n :: (wdsN X (m + n)).drop (j + (n + 1)) := by
    rw [← List.drop_drop, List.drop_left' l1, wdsN_succ, List.append_assoc, List.drop_left' (wdsN_length _ _)]; rfl
  have hs := ap.sum
  rw [ew, wdsN_wv] at hs
  have hz := wmod_succ Z n
  rw [Nat.mod_eq_of_lt sp.lt] at hz
  have haeq := ap.eq
  obtain ⟨k1, k2, k3, k4⟩ := kd_sub1 (bn := 18446744073709551616 ^ n) (b := 18446744073709551616) hVp p1 p2 he hz (Nat.mod_lt _ (wpow_pos n)) (wdg_lt _ _) (hs.symm.trans haeq) (Nat.mod_lt _ (wpow_pos n)) (Nat.le_of_lt hVn)
  refine ⟨k1, k2, k4, ?_, ?_⟩
  · rw [eb, ea, List.getD_eq_getElem?_getD, List.getElem?_append_right (by omega), l1, List.getElem?_append_right (by rw [wdsN_length]; omega), wdsN_length, show j + n - j - n = 0 by omega]; rfl
  · have hL : R % V < 18446744073709551616 ^ n := Nat.lt_trans (Nat.mod_lt _ hVp) hVn
    have hA : wdsN A n = wdsN (R % V) n := by rw [← k3, wdsN_low]
    have := list_fix (us := wdsN X (m + n)) (j := j) (n := n) (Z := Z) (A := A) (L := R % V) (by rw [wdsN_length]; omega) hA hL
    rw [show j + (n + 1) = j + n + 1 by omega, this, hR, hX, round_words hVp (Nat.le_of_lt hVn) hj]
theorem finm {u q h v : Value} {Q U V m n B s L X R c Z : Nat} {o : Option (Nat × Value)} {hs : List Value} {w w1 : World} (hX : X = U % (V * 18446744073709551616 ^ (m + 1))) (hR : R = X / 18446744073709551616 ^ m) (hU : U < V * 18446744073709551616 ^ m) (hVn : V < 18446744073709551616 ^ n) (hRV : R < V)
    (sp : SbP u q h v Q V m n B s L o (wdsN X (m + n)) hs (m + 1) m n (V * 0) c Z w w1) :
    c = 0 ∧ Db u q h v Q V m n B s L o (wdsN (U % (V * 18446744073709551616 ^ m)) (m + n)) m w w1 := by
  obtain ⟨d1, d2, d3, d4⟩ := dd_start hU
  have hXU : X = U := hX.trans d2
  have he := sp.eq
  have hRn : R < 18446744073709551616 ^ n := Nat.lt_trans hRV hVn
  rw [win_val hR (Nat.le_refl _), Nat.mod_eq_of_lt hRn, Nat.mul_zero, Nat.zero_mod, Nat.add_zero] at he
  have hc : c = 0 := by
    rcases Nat.eq_zero_or_pos c with h0 | h0
    · exact h0
    · have := Nat.le_mul_of_pos_right (18446744073709551616 ^ n) h0
      have := sp.lt
      omega
  subst hc
  rw [Nat.mul_zero, Nat.add_zero] at he
  have hd := sp.db
  have hw : (wdsN X (m + n)).take m ++ (wdsN Z n ++ (wdsN X (m + n)).drop (m + n)) = wdsN (U % (V * 18446744073709551616 ^ m)) (m + n) := by
    have h1 := wdsN_patch (X := X) (L := m + n) (j := m) (n := n) (R := Z) (Nat.le_refl _) (by
      rw [hXU]
      refine Nat.lt_of_lt_of_le hU ?_
      rw [Nat.pow_add, Nat.mul_comm]
      exact Nat.mul_le_mul_left _ (Nat.le_of_lt hVn)) sp.lt
    rw [h1, ← he, hR, hXU, d1, Nat.add_comm, Nat.div_add_mod]
  rw [hw] at hd
  obtain ⟨qs, q1, q2, q3⟩ := hd.oq
  exact ⟨rfl, ⟨hd.ou, hd.lu, hd.bu, ⟨qs, q1, q2, fun k a b => by omega⟩, hd.oh, hd.rv, hd.st, hd.below, hd.fr⟩⟩
theorem fm_call {u q h v : Value} {Q U V m n N B s L X R qh jn : Nat} {o : Option (Nat × Value)} {w wr : World} (C : DbC u q h v n) (d : Db u q h v Q V m n B s L o (wdsN X N) (m + 1) w wr) (ho : Own wr B 164 h (cellsW (wdsN (V * qh) (n + 1))))
    (hX : X = U % (V * 18446744073709551616 ^ (m + 1))) (hR : R = X / 18446744073709551616 ^ m) (hU : U < V * 18446744073709551616 ^ m) (hVn : V < 18446744073709551616 ^ n) (hRV : R < V) (hN : N = m + n) (hjn : jn = m + n) (hq : qh = 0) (hn0 : 0 < n) (hn : n ≤ 1000000) :
    Calls Tryz.prog 253 #[subS u m jn, subS u m jn, subS h 0 n] wr fun e w' => ∃ c2 : Nat, e = .returned (.int .u64 c2) ∧ c2 = 0 ∧ Db u q h v Q V m n B s L o (wdsN (U % (V * 18446744073709551616 ^ m)) N) m w w' := by
  subst hN
  subst hjn
  refine (sb_call (J := m + 1) (j := m) (r := n) C d ho hn0 (Nat.le_succ n) (Nat.le_refl _) hn).mono ?_
  rintro _ w' ⟨c2, rfl, Z, hsp⟩
  subst hq
  obtain ⟨f1, f2⟩ := finm hX hR hU hVn hRV hsp
  exact ⟨c2, rfl, f1, f2⟩
end Go.Proofs.YtdepidpgbgfjlaaGreatDoor
