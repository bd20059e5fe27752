/-
  THE WALKS OF bitOf256 AND OF FnUint256BitsAtSplitsAndReadsEachBit.
-/
import Derived.Test.Qxb6617384aBits
namespace Go.Proofs.Qxb6617384a
open Go.RowKit Plain
set_option linter.unusedVariables false

/-- Bit k of A, as the walk carries it: 0 outside 0 .. 255. -/
def bt (A : Nat) (k : Int) : Int := (bit A k.toNat : Nat)

theorem bt_in (A i s : Nat) (k : Int) (hs : s < 64) (hk : k = 64 * (i : Int) + s) : bits .and .u64 (lm A i / 2 ^ s) 1 = bt A k := by
  unfold lm bt
  have := u64_and_nat (limb A i / 2 ^ s) 1 (div_word _ _ (limb_lt _ _)) (by decide)
  rw [show ((1 : Nat) : Int) = 1 from rfl] at this
  rw [shr_nat, this, nat_mask1, bit_limb A i s hs, show k.toNat = 64 * i + s from by omega]
theorem bt_far (A : Nat) (k : Int) (hA : A < 2 ^ 256) (hk : 256 ≤ k) : bt A k = 0 := by
  unfold bt
  rw [bit_far A k.toNat hA (by omega)]; rfl
/-- Bit j of a window. -/
theorem win_bit (A j : Nat) (k n : Int) (hk : 0 ≤ k) (hn : n ≤ 64) (hj : (j : Int) < n) : bits .and .u64 (win A k n / 2 ^ j) 1 = bt A (k + j) := by
  unfold win bt
  have := u64_and_nat (window A k.toNat n.toNat / 2 ^ j) 1 (div_word _ _ (window_word _ _ _ (by omega))) (by decide)
  rw [show ((1 : Nat) : Int) = 1 from rfl] at this
  rw [shr_nat, this, nat_mask1, bit_window A k.toNat n.toNat j (by omega), show (k + j).toNat = k.toNat + j from by omega]
theorem win_bit_out (A j : Nat) (k n : Int) (hn : n ≤ 64) (hj : n ≤ (j : Int)) : bits .and .u64 (win A k n / 2 ^ j) 1 = 0 := by
  unfold win
  have := u64_and_nat (window A k.toNat n.toNat / 2 ^ j) 1 (div_word _ _ (window_word _ _ _ (by omega))) (by decide)
  rw [show ((1 : Nat) : Int) = 1 from rfl] at this
  rw [shr_nat, this, nat_mask1, bit_window_out A k.toNat n.toNat j (by omega)]; rfl
/-- The two parts, joined. -/
theorem win_join (A : Nat) (k n m : Nat) (h : n + m ≤ 64) : bits .or .u64 (win A k n) (IntKind.u64.wrap (win A (k + n) m * 2 ^ n)) = win A k (n + m) := by
  unfold win
  rw [shl_nat, u64_or_nat _ _ (window_word _ _ _ (by omega)) (Nat.mod_lt _ (by decide)), show ((k : Int) + n).toNat = k + n from by omega, show ((n : Int) + m).toNat = n + m from by omega]
  simp only [Int.toNat_natCast]
  rw [window_join A k n m h]

/-! ### 'bitOf256' -/
set_option maxHeartbeats 400000 in
theorem bitOf_far (A : Nat) (hA : A < 2 ^ 256) (k : Int) (hk : 256 ≤ k) (w : World) :
    Calls Try.prog 11 #[.agg #[.int .u64 (lm A 0), .int .u64 (lm A 1), .int .u64 (lm A 2), .int .u64 (lm A 3)], .int .i64 k] w fun e w' =>
      e = .returned (.int .u64 (bt A k)) ∧ Below w.heap.size w w' := by
  have HR : Hid (bt A k = 0) := bt_far A k hA hk
  have h0 : ¬ k < 0 := by omega
  clear hA
  go_enter Try.func11, Try.ntmps11
  go_wp2
  go_ret
  exact ⟨ret_int HR.out.symm, (Below.refl _ _).alloc (Nat.le_refl _) _⟩
set_option maxHeartbeats 800000 in
theorem bitOf_in (A : Nat) (i s : Nat) (hi : i = 0 ∨ i = 1 ∨ i = 2 ∨ i = 3) (hs : s < 64) (k : Int) (hk0 : 0 ≤ k) (hk : k < 256) (hd : k / 64 = (i : Int)) (hm : k % 64 = (s : Int)) (w : World) :
    Calls Try.prog 11 #[.agg #[.int .u64 (lm A 0), .int .u64 (lm A 1), .int .u64 (lm A 2), .int .u64 (lm A 3)], .int .i64 k] w fun e w' =>
      e = .returned (.int .u64 (bt A k)) ∧ Below w.heap.size w w' := by
  have HR : Hid (bits .and .u64 (lm A i / 2 ^ s) 1 = bt A k) := bt_in A i s k hs (by omega)
  rcases hi with rfl | rfl | rfl | rfl <;> simp only [Int.cast_ofNat_Int] at hd
  all_goals
    go_enter Try.func11, Try.ntmps11
    go_wp2
    go_ret
    exact ⟨ret_int HR.out, (Below.refl _ _).alloc (Nat.le_refl _) _⟩
theorem bitOf_any (A : Nat) (hA : A < 2 ^ 256) (k : Int) (hk0 : 0 ≤ k) (w : World) :
    Calls Try.prog 11 #[.agg #[.int .u64 (lm A 0), .int .u64 (lm A 1), .int .u64 (lm A 2), .int .u64 (lm A 3)], .int .i64 k] w fun e w' =>
      e = .returned (.int .u64 (bt A k)) ∧ Below w.heap.size w w' := by
  by_cases hf : 256 ≤ k
  · exact bitOf_far A hA k hf w
  obtain ⟨i, hi⟩ := Int.eq_ofNat_of_zero_le (show 0 ≤ k / 64 by omega)
  obtain ⟨s, hs⟩ := Int.eq_ofNat_of_zero_le (show 0 ≤ k % 64 by omega)
  exact bitOf_in A i s (by omega) (by omega) k hk0 (by omega) hi hs w

/-! ### The law -/
/-- The argument lies in block x; nothing below x has turned. -/
structure One (A x : Nat) (w wr : World) : Prop where
  bel : Below x w wr
  hsz : x < wr.heap.size
  a0 : wr.cell? ⟨x, 0, none⟩ = some (.int .u64 (lm A 0))
  a1 : wr.cell? ⟨x, 1, none⟩ = some (.int .u64 (lm A 1))
  a2 : wr.cell? ⟨x, 2, none⟩ = some (.int .u64 (lm A 2))
  a3 : wr.cell? ⟨x, 3, none⟩ = some (.int .u64 (lm A 3))
theorem One.start (A : Nat) (w : World) : One A w.heap.size w (w.alloc (.cells #[.int .u64 (lm A 0), .int .u64 (lm A 1), .int .u64 (lm A 2), .int .u64 (lm A 3)] 23)) := by
  refine ⟨(Below.refl _ _).alloc (Nat.le_refl _) _, by simp, ?_, ?_, ?_, ?_⟩ <;> simp
theorem One.next {A x : Nat} {w wr w1 : World} (T : One A x w wr) (h : Below wr.heap.size wr w1) : One A x w w1 := by
  have hs := T.hsz
  have h2 := h.size
  have k1 : ∀ j, w1.cell? ⟨x, j, none⟩ = wr.cell? ⟨x, j, none⟩ := fun j => h.cell (p := ⟨x, j, none⟩) hs
  exact ⟨T.bel.trans (h.mono (by omega)), by omega, (k1 0).trans T.a0, (k1 1).trans T.a1, (k1 2).trans T.a2, (k1 3).trans T.a3⟩
theorem two_allocs (w : World) (o1 o2 : Obj) : Below w.heap.size w ((w.alloc o1).alloc o2) := ((Below.refl _ _).alloc (Nat.le_refl _) _).alloc (by simp) _

theorem wrap_over (k : Int) (h1 : 9223372036854775743 < k) (h2 : k ≤ 9223372036854775807) : wrap64 (k + 64) < 0 := by
  unfold wrap64; omega

set_option maxHeartbeats 1000000 in
theorem splits_out (a0 a1 a2 a3 k n m : Int) (hk : k ≤ 9223372036854775807) (h : k < 0 ∨ (0 ≤ k ∧ 9223372036854775743 < k) ∨ (0 ≤ k ∧ k ≤ 9223372036854775743 ∧ (n < 0 ∨ (0 ≤ n ∧ 64 < n) ∨ (0 ≤ n ∧ n ≤ 64 ∧ m < 0) ∨ (0 ≤ n ∧ n ≤ 64 ∧ 0 ≤ m ∧ 64 < m) ∨ (0 ≤ n ∧ n ≤ 64 ∧ 0 ≤ m ∧ m ≤ 64 ∧ 64 < n + m)))) (w : World) :
    Calls Try.prog 5 #[.agg #[.int .u64 a0, .int .u64 a1, .int .u64 a2, .int .u64 a3], .int .i64 k, .int .i64 n, .int .i64 m] w fun e w' => e = .returned (.bool true) ∧ Below w.heap.size w w' := by
  rcases h with h1 | ⟨h1, h2⟩ | ⟨h1, h2, h3 | ⟨h3, h4⟩ | ⟨h3, h4, h5⟩ | ⟨h3, h4, h5, h6⟩ | ⟨h3, h4, h5, h6, h7⟩⟩
  · go_enter Try.func5, Try.ntmps5
    go_wp2
    go_ret
    exact ⟨rfl, (Below.refl _ _).alloc (Nat.le_refl _) _⟩
  · have h3 := wrap_over k h2 hk
    go_enter Try.func5, Try.ntmps5
    go_wp2
    all_goals
      go_ret
      exact ⟨rfl, (Below.refl _ _).alloc (Nat.le_refl _) _⟩
  all_goals
    go_enter Try.func5, Try.ntmps5
    go_wp2
    go_ret
    exact ⟨rfl, (Below.refl _ _).alloc (Nat.le_refl _) _⟩

set_option maxHeartbeats 2000000 in
set_option maxRecDepth 100000 in
theorem splits_in (A : Nat) (hA : A < 2 ^ 256) (k n m : Nat) (hk : k ≤ 9223372036854775743) (hnm : n + m ≤ 64) (w : World) :
    Calls Try.prog 5 #[.agg #[.int .u64 (lm A 0), .int .u64 (lm A 1), .int .u64 (lm A 2), .int .u64 (lm A 3)], .int .i64 k, .int .i64 n, .int .i64 m] w fun e w' => e = .returned (.bool true) ∧ Below w.heap.size w w' := by
  have HA : Hid (A < 2 ^ 256) := hA
  have HJ : Hid _ := win_join A k n m hnm
  have HT : Hid _ := One.start A w
  have hn64 : n ≤ 64 := by omega
  have hm64 : m ≤ 64 := by omega
  clear hA
  go_enter Try.func5, Try.ntmps5
  go_wp2_with fail
  refine (zzBitsAt_any A HA.out k (n + m) (by omega) (by omega) (by omega) (by omega) _).mono ?_
  rintro e w1 ⟨rfl, o1, o2, hw⟩
  have HT1 : Hid (One A w.heap.size w w1) := by rw [hw]; exact HT.out.next (two_allocs _ _ _)
  clear hw
  obtain ⟨bel, hsz, a0, a1, a2, a3⟩ := HT1.out
  go_wp2_with fail
  refine (zzBitsAt_any A HA.out k n (by omega) (by omega) (by omega) (by omega) _).mono ?_
  rintro e w2 ⟨rfl, o3, o4, hw⟩
  have HT2 : Hid (One A w.heap.size w w2) := by rw [hw]; exact HT1.out.next (two_allocs _ _ _)
  clear hw bel hsz a0 a1 a2 a3
  obtain ⟨bel, hsz, a0, a1, a2, a3⟩ := HT2.out
  go_wp2_with fail
  refine (zzBitsAt_any A HA.out (k + n) m (by omega) (by omega) (by omega) (by omega) _).mono ?_
  rintro e w3 ⟨rfl, o5, o6, hw⟩
  have HT3 : Hid (One A w.heap.size w w3) := by rw [hw]; exact HT2.out.next (two_allocs _ _ _)
  clear hw bel hsz a0 a1 a2 a3 HT1 HT2
  have hj := HJ.out
  go_wp2
  clear hj HJ
  go_loopw [12] (fun i wr => ∃ j : Nat, j ≤ 64 ∧ i = .int .i64 j ∧ One A w.heap.size w wr) (fun i _ => 64 - (intOf i).toNat)
  case atStart => exact ⟨0, by omega, rfl, HT3.out⟩
  case round =>
    obtain ⟨j, hj, rfl, T⟩ := hrel
    have HTr : Hid (One A w.heap.size w wr) := T
    obtain ⟨bel, hsz, a0, a1, a2, a3⟩ := T
    by_cases hlt : j < 64
    · by_cases hin : j < n + m
      · have hb := win_bit A j k (n + m) (by omega) (by omega) (by omega)
        go_wp2_with fail
        refine (bitOf_any A HA.out (k + j) (by omega) _).mono ?_
        rintro e w4 ⟨rfl, hbel⟩
        have HTn : Hid (One A w.heap.size w w4) := HTr.out.next hbel
        clear hbel bel hsz a0 a1 a2 a3
        go_wp2
        go_round
        case rel => exact ⟨j + 1, by omega, by go_num, HTn.out⟩
        case measure => simp [intOf]; omega
      · have hb := win_bit_out A j k (n + m) (by omega) (by omega)
        go_wp2
        go_round
        case rel => exact ⟨j + 1, by omega, by go_num, HTr.out⟩
        case measure => simp [intOf]; omega
    · go_wp2
      go_ret
      exact ⟨rfl, bel⟩

/-- FnUint256BitsAtSplitsAndReadsEachBit returns true, whatever it is handed. -/
theorem law_splits (A : Nat) (hA : A < 2 ^ 256) (k n m : Int) (hk : k ≤ 9223372036854775807) (w : World) :
    Calls Try.prog 5 #[.agg #[.int .u64 (lm A 0), .int .u64 (lm A 1), .int .u64 (lm A 2), .int .u64 (lm A 3)], .int .i64 k, .int .i64 n, .int .i64 m] w fun e w' => e = .returned (.bool true) ∧ Below w.heap.size w w' := by
  by_cases h : 0 ≤ k ∧ k ≤ 9223372036854775743 ∧ 0 ≤ n ∧ 0 ≤ m ∧ n + m ≤ 64
  · obtain ⟨h1, h2, h3, h4, h5⟩ := h
    obtain ⟨k, rfl⟩ := Int.eq_ofNat_of_zero_le h1
    obtain ⟨n, rfl⟩ := Int.eq_ofNat_of_zero_le h3
    obtain ⟨m, rfl⟩ := Int.eq_ofNat_of_zero_le h4
    exact splits_in A hA k n m (by omega) (by omega) w
  · exact splits_out _ _ _ _ k n m hk (by omega) w
end Go.Proofs.Qxb6617384a
