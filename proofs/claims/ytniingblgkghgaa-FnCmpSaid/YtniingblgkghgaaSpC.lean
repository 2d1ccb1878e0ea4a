/-
Natural numbers of the reference: Mul. No condition.
-/
import Derived.Test.YtniingblgkghgaaSpB
namespace Go.Proofs.Ytniingblgkghgaa
open Go.RowKit

/-- A row of L digits, those from lo on are 0, which with c at the place pos is T. -/
def MuRel (B : Nat) (w : World) (v : Value) (L lo pos c T : Nat) (wr : World) : Prop :=
  ∃ os : List Nat, Own wr B 3 v (cellsN os) ∧ os.length = L ∧ (∀ d ∈ os, d < 65536) ∧ (∀ j, lo ≤ j → os.getD j 0 = 0) ∧ val os + 65536 ^ pos * c = T ∧ Below B w wr
theorem cellsN_set (os : List Nat) (i d : Nat) : (cellsN os).set i (.int .i64 (d : Int)) = cellsN (os.set i d) := by simp [cellsN, List.map_set]
theorem getD_lt {os : List Nat} (h : ∀ d ∈ os, d < 65536) (i : Nat) : os.getD i 0 < 65536 := by
  by_cases hi : i < os.length
  · rw [List.getD_eq_getElem?_getD, List.getElem?_eq_getElem hi]; exact h _ (List.getElem_mem hi)
  · rw [List.getD_eq_getElem?_getD, List.getElem?_eq_none (by omega)]; decide
theorem getD_set (os : List Nat) (i j d : Nat) (hi : i < os.length) : (os.set i d).getD j 0 = if i = j then d else os.getD j 0 := by
  simp only [List.getD_eq_getElem?_getD, List.getElem?_set]
  split
  · rename_i h; rfl
  · rfl
/-- One digit is stored. -/
theorem muStore {B L lo pos c c' d T T' : Nat} {w wr : World} {v : Value} {os : List Nat} (ho : Own wr B 3 v (cellsN os)) (hL : os.length = L) (hd : ∀ d ∈ os, d < 65536) (hz : ∀ j, lo ≤ j → os.getD j 0 = 0)
    (hv : val os + 65536 ^ pos * c = T) (hb : Below B w wr) (hp : pos < L) (hlo : pos < lo) (hd' : d < 65536) (hT : T' + 65536 ^ pos * (c + os.getD pos 0) = T + 65536 ^ pos * (d + 65536 * c')) :
    MuRel B w v L lo (pos + 1) c' T' (wr.setCell ⟨sBlk v, sOff v + pos, none⟩ (.int .i64 (d : Int))) := by
  have hs := ho.set (i := pos) (by rw [cellsN_length]; omega) (.int .i64 (d : Int))
  rw [cellsN_set] at hs
  have hl := ho.len
  rw [cellsN_length] at hl
  have hcp := ho.isS.le
  refine ⟨_, hs, by simpa using hL, ?_, fun j hj => ?_, ?_, bset hb (ho.lt (by omega)).1⟩
  · intro z hz'
    rcases List.mem_or_eq_of_mem_set hz' with h | h
    · exact hd z h
    · rw [h]; exact hd'
  · rw [getD_set _ _ _ _ (by omega), if_neg (by omega)]; exact hz j hj
  · have h1 := val_set (a := os) (i := pos) (by omega) d
    rw [Nat.pow_succ]
    generalize os.getD pos 0 = o at *
    generalize val (os.set pos d) = V at *
    generalize val os = V0 at *
    generalize 65536 ^ pos = p at *
    grind
def Tin (x y i p k : Nat) : Nat := x % 65536 ^ i * y + 65536 ^ i * (p * (y % 65536 ^ k))
theorem Tin_step {x y i p k c o q r : Nat} (h : c + (o + p * dig y k) = r + 65536 * q) : Tin x y i p (k + 1) + 65536 ^ (i + k) * (c + o) = Tin x y i p k + 65536 ^ (i + k) * (r + 65536 * q) := by
  rw [← h]
  unfold Tin
  rw [mod_succ y k, Nat.pow_add]
  grind
theorem Tin_end {x y i k : Nat} (hk : nl y ≤ k) : Tin x y i (dig x i) k = x % 65536 ^ (i + 1) * y := by
  unfold Tin
  rw [mod_nl hk, mod_succ]
  grind

end Go.Proofs.Ytniingblgkghgaa
