/-
Natural numbers of the reference: Power, byDigit. No condition.
-/
import Derived.Test.YtniingblgkghgaaSpC
namespace Go.Proofs.Ytniingblgkghgaa
open Go.RowKit

theorem bthen {a b c : World} (h : Below a.heap.size a b) (k : Below b.heap.size b c) : Below a.heap.size a c := h.trans (k.mono h.size)
theorem nl_pow {b n : Nat} (hb : b < 65536) : nl (b ^ n) ≤ n + 1 :=
  nl_le (Nat.lt_of_le_of_lt (Nat.pow_le_pow_left (Nat.le_of_lt hb) n) (Nat.pow_lt_pow_right (by decide) (by omega)))
/-- byDigit's relation: the digits from k on are of the quotient. -/
def QdRel (x d B L k r : Nat) (w : World) (v : Value) (wr : World) : Prop :=
  ∃ os : List Nat, Own wr B 3 v (cellsN os) ∧ os.length = L ∧ (∀ d ∈ os, d < 65536) ∧ (∀ j, j < k → os.getD j 0 = 0) ∧ (∃ Q, val os = 65536 ^ k * Q ∧ Q * d + r = x / 65536 ^ k) ∧ Below B w wr
theorem div_pow_step (x k : Nat) : x / 65536 ^ k = x / 65536 ^ (k + 1) * 65536 + dig x k := by
  unfold dig
  rw [Nat.pow_succ, ← Nat.div_div_eq_div_mul]
  omega
theorem qdStore {x d B L k r : Nat} {w wr : World} {v : Value} {os : List Nat} (ho : Own wr B 3 v (cellsN os)) (hL : os.length = L) (hd : ∀ d ∈ os, d < 65536) (hz : ∀ j, j < k + 1 → os.getD j 0 = 0)
    (hv : ∃ Q, val os = 65536 ^ (k + 1) * Q ∧ Q * d + r = x / 65536 ^ (k + 1)) (hb : Below B w wr) (hk : k < L) (hr : r < d) (hd' : 0 < d) :
    QdRel x d B L k ((r * 65536 + dig x k) % d) w v (wr.setCell ⟨sBlk v, sOff v + k, none⟩ (.int .i64 (((r * 65536 + dig x k) / d : Nat) : Int))) := by
  have hs := ho.set (i := k) (by rw [cellsN_length]; omega) (.int .i64 (((r * 65536 + dig x k) / d : Nat) : Int))
  rw [cellsN_set] at hs
  have hl := ho.len
  rw [cellsN_length] at hl
  have hcp := ho.isS.le
  refine ⟨_, hs, by simpa using hL, ?_, fun j hj => ?_, ?_, bset hb (ho.lt (by omega)).1⟩
  · intro z hz'
    rcases List.mem_or_eq_of_mem_set hz' with h | h
    · exact hd z h
    · rw [h]
      have := dig_lt x k
      rw [Nat.div_lt_iff_lt_mul hd']
      have : (r + 1) * 65536 ≤ d * 65536 := Nat.mul_le_mul_right _ hr
      omega
  · rw [getD_set _ _ _ _ (by omega), if_neg (by omega)]; exact hz j (by omega)
  · obtain ⟨Q, h1, h2⟩ := hv
    refine ⟨Q * 65536 + (r * 65536 + dig x k) / d, ?_, ?_⟩
    · have h3 := val_set (a := os) (i := k) (by omega) ((r * 65536 + dig x k) / d)
      rw [hz k (by omega), h1, Nat.pow_succ] at h3
      generalize (r * 65536 + dig x k) / d = q at *
      generalize val (os.set k q) = V at *
      grind
    · rw [div_pow_step x k, ← h2]
      have h3 := Nat.div_add_mod (r * 65536 + dig x k) d
      generalize (r * 65536 + dig x k) / d = q at *
      generalize (r * 65536 + dig x k) % d = z at *
      grind
def BDPost (n d : Nat) (w : World) (q : Value) (w' : World) : Prop := NatV w' q (n / d) ∧ Below w.heap.size w w'
end Go.Proofs.Ytniingblgkghgaa
