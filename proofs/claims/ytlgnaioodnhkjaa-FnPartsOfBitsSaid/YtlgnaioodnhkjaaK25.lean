/-
Texts of this proof, joined: FdF. No condition.
-/
import Derived.Test.YtlgnaioodnhkjaaK24
/-
Floats: Float64, Float32 by values. No condition.
-/
namespace Go.Proofs.Ytlgnaioodnhkjaa
open Go.RowKit

/-- What Float64 answers. -/
def f64V (f : Nat) (n : Bool) (M : Nat) (X : Int) : Nat := (if n then 9223372036854775808 else 0) + if f = 1 then btV n M X 52 (-1074) 2047 else if f = 0 then 0 else 9218868437227405312
def f64A (f : Nat) (n : Bool) (M : Nat) (X : Int) : Int := if f = 1 then btS n M X 52 (-1074) 2047 else 0
theorem f64_bd (f : Nat) (n : Bool) (M : Nat) (X : Int) : f64V f n M X < 18446744073709551616 ∧ -1 ≤ f64A f n M X ∧ f64A f n M X ≤ 1 := by
  have h1 := btV_le (n := n) (M := M) (k := 52) (T := 2047) (E := X) (L := -1074)
  have h2 := btS_bd n M 52 2047 X (-1074)
  rw [show 2047 * 2 ^ 52 = 9218868437227405312 from rfl] at h1
  unfold f64V f64A
  constructor
  · by_cases hf : f = 1
    · rw [if_pos hf]; split <;> omega
    · rw [if_neg hf]; repeat' split
      all_goals omega
  · split <;> omega
set_option maxRecDepth 100000 in
set_option maxHeartbeats 800000 in
theorem float64_zero (c p m : Nat) (a e : Int) (neg : Bool) (v : Value) (w : World) (h : FltR w c p m a 0 neg v e) :
    Calls Try.prog 44 #[.pointer (some ⟨c, 0, none⟩)] w fun e' w' => e' = .returned (.tuple #[.float .f64 (if neg then 9223372036854775808 else 0), .int .i8 0]) ∧ Below w.heap.size w w' := by
  obtain ⟨c0, c1, c2, c3', c4, c5, c6⟩ := h.cells
  have c3 : w.cell? ⟨c, 3, none⟩ = some (.int .u8 0) := c3'
  have HB := Lib.hid (Below.refl w.heap.size w)
  clear h c3'
  cases neg
  · go_enter Try.func44, Try.ntmps44
    go_wp2
    go_ret2
    exact ⟨rfl, HB.out⟩
  · go_enter Try.func44, Try.ntmps44
    go_wp2
    go_ret2
    exact ⟨rfl, HB.out⟩
set_option maxRecDepth 100000 in
set_option maxHeartbeats 800000 in
theorem float64_inf (c p m : Nat) (a e : Int) (neg : Bool) (v : Value) (w : World) (h : FltR w c p m a 2 neg v e) :
    Calls Try.prog 44 #[.pointer (some ⟨c, 0, none⟩)] w fun e' w' => e' = .returned (.tuple #[.float .f64 (if neg then 18442240474082181120 else 9218868437227405312), .int .i8 0]) ∧ Below w.heap.size w w' := by
  obtain ⟨c0, c1, c2, c3', c4, c5, c6⟩ := h.cells
  have c3 : w.cell? ⟨c, 3, none⟩ = some (.int .u8 2) := c3'
  have HB := Lib.hid (Below.refl w.heap.size w)
  clear h c3'
  cases neg
  · go_enter Try.func44, Try.ntmps44
    go_wp2_with fail
    refine (mInfP _).mono ?_
    rintro _ _ ⟨rfl, rfl⟩
    go_wp2
    go_ret2
    exact ⟨rfl, HB.out⟩
  · go_enter Try.func44, Try.ntmps44
    go_wp2_with fail
    refine (mInfN _).mono ?_
    rintro _ _ ⟨rfl, rfl⟩
    go_wp2
    go_ret2
    exact ⟨rfl, HB.out⟩
theorem float64_val (c Bx p m f : Nat) (a : Int) (neg : Bool) (M : Nat) (X : Int) (w : World) (hx : FVal w Bx c p m a f neg M X) (hf : f ≤ 2) (hp0 : f = 1 → 0 < p) (hp : p ≤ 64000000) (hX : f = 1 → -800000000 ≤ X + bl M ∧ X + bl M ≤ 800000000 ∧ X + bl M ≠ -1074) :
    Calls Try.prog 44 #[.pointer (some ⟨c, 0, none⟩)] w fun e' w' => e' = .returned (.tuple #[.float .f64 (f64V f neg M X), .int .i8 (f64A f neg M X)]) ∧ Below w.heap.size w w' := by
  obtain ⟨v, e, h1, h2⟩ := hx
  rcases (by omega : f = 0 ∨ f = 1 ∨ f = 2) with rfl | rfl | rfl
  · have h3 := float64_zero c p m a e neg v w h1
    have e1 : (if neg = true then 9223372036854775808 else 0) = f64V 0 neg M X := by cases neg <;> simp [f64V]
    have e2 : (0 : Int) = f64A 0 neg M X := by simp [f64A]
    rw [e1, e2] at h3
    exact h3
  · obtain ⟨hM, ws, ho, hg, hd⟩ := h2 rfl
    have h0 := hd.symm.pos hM
    have hb := hd.bl h0
    have hbl := hg.bl
    obtain ⟨k1, k2, k3⟩ := hX rfl
    have hb2 : e = X + bl M := by omega
    obtain ⟨q1, q2⟩ := btV_deq (n := neg) (k := 52) (T := 2047) (L := -1074) h0 hd (by omega) (by decide)
    rw [show f64V 1 neg M X = (if neg then 9223372036854775808 else 0) + btV neg (wv ws) (e - 64 * (ws.length : Int)) 52 (-1074) 2047 by rw [q1]; simp [f64V], show f64A 1 neg M X = btS neg (wv ws) (e - 64 * (ws.length : Int)) 52 (-1074) 2047 by rw [q2]; simp [f64A]]
    by_cases hl : e < -1074
    · obtain ⟨r1, r2⟩ := bt_low (n := neg) (k := 52) (T := 2047) (L := -1074) (E := e - 64 * (ws.length : Int)) h0 (by omega) (by decide)
      rw [r1, r2]
      exact float64_low c p m a e neg v w h1 hl (by omega)
    · exact float64_fin c Bx p m a e neg v ws w h1 ho hg (hp0 rfl) hp (by omega) (by omega)
  · have h3 := float64_inf c p m a e neg v w h1
    have e1 : (if neg = true then 18442240474082181120 else 9218868437227405312) = f64V 2 neg M X := by cases neg <;> simp [f64V]
    have e2 : (0 : Int) = f64A 2 neg M X := by simp [f64A]
    rw [e1, e2] at h3
    exact h3
/-- What Float32 answers. -/
def f32V (f : Nat) (n : Bool) (M : Nat) (X : Int) : Nat := (if n then 2147483648 else 0) + if f = 1 then btV n M X 23 (-149) 255 else if f = 0 then 0 else 2139095040
def f32A (f : Nat) (n : Bool) (M : Nat) (X : Int) : Int := if f = 1 then btS n M X 23 (-149) 255 else 0
theorem f32_bd (f : Nat) (n : Bool) (M : Nat) (X : Int) : f32V f n M X < 4294967296 ∧ -1 ≤ f32A f n M X ∧ f32A f n M X ≤ 1 := by
  have h1 := btV_le (n := n) (M := M) (k := 23) (T := 255) (E := X) (L := -149)
  have h2 := btS_bd n M 23 255 X (-149)
  rw [show 255 * 2 ^ 23 = 2139095040 from rfl] at h1
  unfold f32V f32A
  constructor
  · by_cases hf : f = 1
    · rw [if_pos hf]; split <;> omega
    · rw [if_neg hf]; repeat' split
      all_goals omega
  · split <;> omega
set_option maxRecDepth 100000 in
set_option maxHeartbeats 800000 in
theorem float32_zero (c p m : Nat) (a e : Int) (neg : Bool) (v : Value) (w : World) (h : FltR w c p m a 0 neg v e) :
    Calls Try.prog 56 #[.pointer (some ⟨c, 0, none⟩)] w fun e' w' => e' = .returned (.tuple #[.float .f32 (if neg then 2147483648 else 0), .int .i8 0]) ∧ Below w.heap.size w w' := by
  obtain ⟨c0, c1, c2, c3', c4, c5, c6⟩ := h.cells
  have c3 : w.cell? ⟨c, 3, none⟩ = some (.int .u8 0) := c3'
  have HB := Lib.hid (Below.refl w.heap.size w)
  clear h c3'
  cases neg
  · go_enter Try.func56, Try.ntmps56
    go_wp2
    go_ret2
    exact ⟨rfl, HB.out⟩
  · go_enter Try.func56, Try.ntmps56
    go_wp2
    go_ret2
    exact ⟨rfl, HB.out⟩
set_option maxRecDepth 100000 in
set_option maxHeartbeats 800000 in
theorem float32_inf (c p m : Nat) (a e : Int) (neg : Bool) (v : Value) (w : World) (h : FltR w c p m a 2 neg v e) :
    Calls Try.prog 56 #[.pointer (some ⟨c, 0, none⟩)] w fun e' w' => e' = .returned (.tuple #[.float .f32 (if neg then 4286578688 else 2139095040), .int .i8 0]) ∧ Below w.heap.size w w' := by
  obtain ⟨c0, c1, c2, c3', c4, c5, c6⟩ := h.cells
  have c3 : w.cell? ⟨c, 3, none⟩ = some (.int .u8 2) := c3'
  have HB := Lib.hid (Below.refl w.heap.size w)
  clear h c3'
  cases neg
  · go_enter Try.func56, Try.ntmps56
    go_wp2_with fail
    refine (mInfP _).mono ?_
    rintro _ _ ⟨rfl, rfl⟩
    go_wp2
    go_ret2
    exact ⟨rfl, HB.out⟩
  · go_enter Try.func56, Try.ntmps56
    go_wp2_with fail
    refine (mInfN _).mono ?_
    rintro _ _ ⟨rfl, rfl⟩
    go_wp2
    go_ret2
    exact ⟨rfl, HB.out⟩
theorem float32_val (c Bx p m f : Nat) (a : Int) (neg : Bool) (M : Nat) (X : Int) (w : World) (hx : FVal w Bx c p m a f neg M X) (hf : f ≤ 2) (hp0 : f = 1 → 0 < p) (hp : p ≤ 64000000) (hX : f = 1 → -800000000 ≤ X + bl M ∧ X + bl M ≤ 800000000 ∧ X + bl M ≠ -149) :
    Calls Try.prog 56 #[.pointer (some ⟨c, 0, none⟩)] w fun e' w' => e' = .returned (.tuple #[.float .f32 (f32V f neg M X), .int .i8 (f32A f neg M X)]) ∧ Below w.heap.size w w' := by
  obtain ⟨v, e, h1, h2⟩ := hx
  rcases (by omega : f = 0 ∨ f = 1 ∨ f = 2) with rfl | rfl | rfl
  · have h3 := float32_zero c p m a e neg v w h1
    have e1 : (if neg = true then 2147483648 else 0) = f32V 0 neg M X := by cases neg <;> simp [f32V]
    have e2 : (0 : Int) = f32A 0 neg M X := by simp [f32A]
    rw [e1, e2] at h3
    exact h3
  · obtain ⟨hM, ws, ho, hg, hd⟩ := h2 rfl
    have h0 := hd.symm.pos hM
    have hb := hd.bl h0
    have hbl := hg.bl
    obtain ⟨k1, k2, k3⟩ := hX rfl
    have hb2 : e = X + bl M := by omega
    obtain ⟨q1, q2⟩ := btV_deq (n := neg) (k := 23) (T := 255) (L := -149) h0 hd (by omega) (by decide)
    rw [show f32V 1 neg M X = (if neg then 2147483648 else 0) + btV neg (wv ws) (e - 64 * (ws.length : Int)) 23 (-149) 255 by rw [q1]; simp [f32V], show f32A 1 neg M X = btS neg (wv ws) (e - 64 * (ws.length : Int)) 23 (-149) 255 by rw [q2]; simp [f32A]]
    by_cases hl : e < -149
    · obtain ⟨r1, r2⟩ := bt_low (n := neg) (k := 23) (T := 255) (L := -149) (E := e - 64 * (ws.length : Int)) h0 (by omega) (by decide)
      rw [r1, r2]
      exact float32_low c p m a e neg v w h1 hl (by omega)
    · exact float32_fin c Bx p m a e neg v ws w h1 ho hg (hp0 rfl) hp (by omega) (by omega)
  · have h3 := float32_inf c p m a e neg v w h1
    have e1 : (if neg = true then 4286578688 else 2139095040) = f32V 2 neg M X := by cases neg <;> simp [f32V]
    have e2 : (0 : Int) = f32A 2 neg M X := by simp [f32A]
    rw [e1, e2] at h3
    exact h3
end Go.Proofs.Ytlgnaioodnhkjaa
