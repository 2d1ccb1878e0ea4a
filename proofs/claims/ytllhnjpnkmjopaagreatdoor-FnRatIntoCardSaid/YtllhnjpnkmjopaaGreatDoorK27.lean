/-
Texts of this proof, joined: GcH GcB. No condition.
-/
import Derived.Test.YtllhnjpnkmjopaaGreatDoorK14
import Derived.Test.YtllhnjpnkmjopaaGreatDoorK17
import Derived.Test.YtllhnjpnkmjopaaGreatDoorK24
import Derived.Test.YtllhnjpnkmjopaaGreatDoorK26
namespace Go.Proofs.YtllhnjpnkmjopaaGreatDoor
open Go.RowKit

theorem results_tmp5 {fn : Func} {a b c d e : Tmp} (h : fn.results = #[.tmp a, .tmp b, .tmp c, .tmp d, .tmp e]) (tmps : Array Value) (P : Program) (w : World) :
    (results fn tmps).run P w = .ok (.tuple #[tmps.getD a undef, tmps.getD b undef, tmps.getD c undef, tmps.getD d undef, tmps.getD e undef]) w := by
  simp [results, h]
set_option maxRecDepth 100000 in
set_option maxHeartbeats 1600000 in
theorem euclid_any (a b q r B X Y : Nat) (mq mr : Bool) (va vb vq vr : Value) (zq zr : List Value) (w : World) (h : Quad w B a b q r false false mq mr va vb vq vr (cellsW (wds X)) (cellsW (wds Y)) zq zr)
    (hX0 : 0 < X) (hY0 : 0 < Y) (hX : nw X ≤ 1000) (hY : nw Y < 40) (hT : DivW w) (hg : 4 < B) :
    Calls Tryz.prog 193 #[.pointer (some ⟨a, 0, none⟩), .pointer (some ⟨b, 0, none⟩), .pointer none, .pointer none, .pointer (some ⟨q, 0, none⟩), .pointer (some ⟨r, 0, none⟩), .bool false] w
      fun e w' => e = .returned (.tuple #[.pointer (some ⟨b, 0, none⟩), .pointer (some ⟨r, 0, none⟩), .pointer (some ⟨a, 0, none⟩), .pointer none, .pointer none]) ∧ (∃ vq' vr', Quad w' B a b q r false false false false va vb vq' vr' (cellsW (wds X)) (cellsW (wds Y)) (cellsW (wds (X / Y))) (cellsW (wds (X % Y)))) ∧ Below B w w' := by
  have H := Lib.hid (quoRem_any a b q r B X Y mq mr va vb vq vr zq zr w h hX0 hY0 hX hY hT hg)
  clear h hX0 hY0 hX hY hT hg
  go_enter Tryz.func193, Tryz.ntmps193
  go_wp2_with fail
  refine H.out.mono ?_
  rintro _ w1 ⟨rfl, ⟨vq', vr', g1⟩, k1⟩
  have G1 := Lib.hid g1
  have K1 := Lib.hid k1
  clear g1 k1
  go_wp2
  (try simp only [Exit.inBlock, Exit.then]); refine bodyPost_ret (results_tmp5 rfl _ _ _) rfl ?_
  exact ⟨rfl, ⟨_, _, G1.out⟩, K1.out⟩
theorem Smaller.gcd {A B A' B' : Nat} (h : Smaller A B A' B') : Nat.gcd A' B' = Nat.gcd A B :=
  Nat.dvd_antisymm (Nat.dvd_gcd ((h.dvd _).2 ⟨Nat.gcd_dvd_left _ _, Nat.gcd_dvd_right _ _⟩).1 ((h.dvd _).2 ⟨Nat.gcd_dvd_left _ _, Nat.gcd_dvd_right _ _⟩).2)
    (Nat.dvd_gcd ((h.dvd _).1 ⟨Nat.gcd_dvd_left _ _, Nat.gcd_dvd_right _ _⟩).1 ((h.dvd _).1 ⟨Nat.gcd_dvd_left _ _, Nat.gcd_dvd_right _ _⟩).2)
theorem intAbs_new (b c q N : Nat) (v : Value) (neg : Bool) (cc : Array Value) (tc : TypeId) (w : World) (hne : b ≠ c) (rb : w.heap[b]? = some (.cells #[.bool false, .slice none 0 0] 110 (0, 0))) (rc : w.heap[c]? = some (.cells cc tc (0, 0)))
    (hn : cc[q]? = some (.bool neg)) (hx : cc[q + 1]? = some v) (hv : RW w v (wds N)) (hl : nw N ≤ 1000000000) (B : Nat) (hB : B ≤ b) :
    Calls Tryz.prog 190 #[.pointer (some ⟨b, 0, none⟩), .pointer (some ⟨c, q, none⟩)] w fun e w' => e = .returned (.pointer (some ⟨b, 0, none⟩)) ∧ (∃ r, Bx w' B b false r (cellsW (wds N)) ∧ (0 < sCap r → w.heap.size ≤ sBlk r)) ∧ Below B w w' ∧ (∀ t, t < w.heap.size → t ≠ b → w'.heap[t]? = w.heap[t]?) := by
  have H := Lib.hid (intSet b 0 c q (.bool false) v neg _ cc _ tc (wds N) w hne rb rc rfl rfl hn hx hv (by rw [wds_length]; exact hl))
  have hbB : B ≤ w.heap.size := Nat.le_trans hB (Nat.le_of_lt (get_lt rb))
  have HX : Hid (∀ r w1, Own w1 w.heap.size 116 r (cellsW (wds N)) → Below w.heap.size w w1 → CellF ((w1.setCell ⟨b, 1, none⟩ r).setCell ⟨b, 0, none⟩ (.bool neg)) b 0 (.bool neg) ∧ ((∃ x, Bx (((w1.setCell ⟨b, 1, none⟩ r).setCell ⟨b, 0, none⟩ (.bool neg)).setCell ⟨b, 0, none⟩ (.bool false)) B b false x (cellsW (wds N)) ∧ (0 < sCap x → w.heap.size ≤ sBlk x)) ∧ Below B w (((w1.setCell ⟨b, 1, none⟩ r).setCell ⟨b, 0, none⟩ (.bool neg)).setCell ⟨b, 0, none⟩ (.bool false)) ∧ (∀ t, t < w.heap.size → t ≠ b → (((w1.setCell ⟨b, 1, none⟩ r).setCell ⟨b, 0, none⟩ (.bool neg)).setCell ⟨b, 0, none⟩ (.bool false)).heap[t]? = w.heap[t]?))) := Lib.hid (by
    intro r w1 ho hb
    have r1 := keep_row hb rb
    have r2 := rowset (i := 1) r r1
    have r3 := rowset (i := 0) (.bool neg) r2
    have r4 := rowset (i := 0) (.bool false) r3
    have hoth : ∀ t, t ≠ b → (((w1.setCell ⟨b, 1, none⟩ r).setCell ⟨b, 0, none⟩ (.bool neg)).setCell ⟨b, 0, none⟩ (.bool false)).heap[t]? = w1.heap[t]? := fun t h1 => by
      rw [heap_setCell_other _ _ _ _ (by simpa using h1), heap_setCell_other _ _ _ _ (by simpa using h1), heap_setCell_other _ _ _ _ (by simpa using h1)]
    refine ⟨row_at r3 rfl, ⟨r, ⟨hB, r4, ?_⟩, fun hc => (ho.lt hc).1⟩, ?_, ?_⟩
    · exact (ho.mono hbB).same fun hc => hoth _ (fun he => by have h1 := (ho.lt hc).1; have h2 := get_lt rb; omega)
    · exact bset (bset (bset (hb.mono hbB) hB) hB) hB
    · intro t ht htb
      exact (hoth t htb).trans (hb.block t ht))
  clear rb rc hn hx hv hl hbB hB
  go_enter Tryz.func190, Tryz.ntmps190
  go_wp2_with fail
  refine H.out.mono ?_
  rintro _ _ ⟨rfl, r, w1, rfl, ho, hb⟩
  obtain ⟨⟨c0, f0⟩, hp⟩ := HX.out r w1 ho hb
  have HP := Lib.hid hp
  clear ho hb hp
  go_wp2
  go_ret
  exact ⟨rfl, HP.out⟩
def ldw (X n h : Nat) : Nat := wdg (X * 2 ^ h) (n - 1)
theorem ldw_eq {X n h : Nat} (hn : 2 ≤ n) (hh : h < 64) : ldw X n h = wdg X (n - 2) / 2 ^ (64 - h) + wdg X (n - 1) * 2 ^ h % 18446744073709551616 := by
  have := wdg_shl_succ X (n - 2) hh
  rw [show n - 2 + 1 = n - 1 by omega] at this
  exact this
theorem ldw_div {X n h : Nat} (hn : 2 ≤ n) (hh : h < 64) (hX : X * 2 ^ h < 18446744073709551616 ^ n) : ldw X n h = X / 2 ^ (64 * (n - 1) - h) := by
  unfold ldw
  rw [← wtop (by rw [show n - 1 + 1 = n by omega]; exact hX), w_two]
  have e : 2 ^ (64 * (n - 1)) = 2 ^ (64 * (n - 1) - h) * 2 ^ h := by rw [← Nat.pow_add]; congr 1; omega
  rw [e, Nat.mul_div_mul_right _ _ (Nat.two_pow_pos h)]
theorem ldw_parts {A B n h : Nat} (hn : 2 ≤ n) (hh : h < 64) (hA : A * 2 ^ h < 18446744073709551616 ^ n) (hBA : B ≤ A) :
    ∃ K al be, A = ldw A n h * K + al ∧ B = ldw B n h * K + be ∧ al < K ∧ be < K ∧ ldw B n h ≤ ldw A n h := by
  have hB : B * 2 ^ h < 18446744073709551616 ^ n := Nat.lt_of_le_of_lt (Nat.mul_le_mul_right _ hBA) hA
  have hK : 0 < 2 ^ (64 * (n - 1) - h) := Nat.two_pow_pos _
  refine ⟨2 ^ (64 * (n - 1) - h), A % 2 ^ (64 * (n - 1) - h), B % 2 ^ (64 * (n - 1) - h), ?_, ?_, Nat.mod_lt _ hK, Nat.mod_lt _ hK, ?_⟩
  · rw [ldw_div hn hh hA, Nat.mul_comm]; exact (Nat.div_add_mod _ _).symm
  · rw [ldw_div hn hh hB, Nat.mul_comm]; exact (Nat.div_add_mod _ _).symm
  · rw [ldw_div hn hh hA, ldw_div hn hh hB]; exact Nat.div_le_div_right hBA
theorem ldw_or {x y h c : Nat} (hh : h < 64) (hy : y < 18446744073709551616) (hc : c = y / 2 ^ (64 - h) + x * 2 ^ h % 18446744073709551616) :
    bits .or .u64 ((x * 2 ^ h % 18446744073709551616 : Nat) : Int) ((y / 2 ^ (64 - h) : Nat) : Int) = (c : Int) := by
  have h1 : y / 2 ^ (64 - h) < 2 ^ h := by
    refine Nat.div_lt_of_lt_mul ?_
    rw [word_split (by omega)]; exact hy
  rw [u64_or_nat _ _ (Nat.mod_lt _ (by decide)) (Nat.lt_of_le_of_lt (Nat.div_le_self _ _) hy), shl_or hh h1, hc]
end Go.Proofs.YtllhnjpnkmjopaaGreatDoor
