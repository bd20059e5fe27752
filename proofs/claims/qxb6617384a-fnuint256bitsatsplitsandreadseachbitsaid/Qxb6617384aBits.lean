/-
  THE WALKS OF bitsAt AND ITS SHIM, over the seat's dump: the n bits of a number A from bit k up.
-/
import Derived.Test.Qxb6617384aRows
import Derived.Test.Qxb6617384aPlain
import Derived.WalkKit
import Derived.WalkSpells
import Derived.StillTactics
import Derived.Laws.Pointers
namespace Go.Proofs.Qxb6617384a
open Go.RowKit Plain
set_option linter.unusedVariables false

theorem ret_int {k : IntKind} {a b : Int} (h : a = b) : Ending.returned (.int k a) = .returned (.int k b) := by rw [h]

/-- Word i of A, as the walk carries it. -/
def lm (A i : Nat) : Int := (limb A i : Nat)
/-- The n bits of A from bit k up, as the walk carries them. -/
def win (A : Nat) (k n : Int) : Int := (window A k.toNat n.toNat : Nat)
theorem lm_nonneg (A i : Nat) : 0 ≤ lm A i := by unfold lm; omega
theorem lm_lt (A i : Nat) : lm A i < 18446744073709551616 := by unfold lm; have := limb_lt A i; omega
theorem win_nonneg (A : Nat) (k n : Int) : 0 ≤ win A k n := by unfold win; omega
theorem win_lt (A : Nat) (k n : Int) (hn : n ≤ 64) : win A k n < 18446744073709551616 := by
  unfold win; have := window_word A k.toNat n.toNat (by omega); omega

/-! ### The walk's words for Go's '<<', '&', '|' on uint64, in plain numbers -/
theorem wrap_mask (n : Nat) (hn : n ≤ 64) : IntKind.u64.wrap (IntKind.u64.wrap (2 ^ n) - 1) = ((2 ^ n - 1 : Nat) : Int) := by
  have hp : 0 < 2 ^ n := Nat.two_pow_pos n
  have e : ((2 : Int) ^ n) = ((2 ^ n : Nat) : Int) := by simp
  rw [e, IntKind.wrap_u64, IntKind.wrap_u64]
  by_cases h : n = 64
  · subst h; decide
  · have hlt : 2 ^ n < 2 ^ 64 := Nat.pow_lt_pow_right (by decide) (by omega)
    have h64 : (2 : Nat) ^ 64 = 18446744073709551616 := by decide
    omega
theorem mask_lt (n : Nat) (hn : n ≤ 64) : 2 ^ n - 1 < 18446744073709551616 := by
  have h1 : 2 ^ n ≤ 2 ^ 64 := Nat.pow_le_pow_right (by decide) hn
  have h64 : (2 : Nat) ^ 64 = 18446744073709551616 := by decide
  have hp : 0 < 2 ^ n := Nat.two_pow_pos n
  omega
theorem shr_nat (x s : Nat) : (x : Int) / 2 ^ s = ((x / 2 ^ s : Nat) : Int) := by simp
theorem shl_nat (x s : Nat) : IntKind.u64.wrap ((x : Int) * 2 ^ s) = ((x * 2 ^ s % 18446744073709551616 : Nat) : Int) := by
  rw [IntKind.wrap_u64]; simp
theorem div_word (x s : Nat) (h : x < 18446744073709551616) : x / 2 ^ s < 18446744073709551616 := Nat.lt_of_le_of_lt (Nat.div_le_self _ _) h

theorem res_one (A i s : Nat) (k n : Int) (hA : A < 2 ^ 256) (hs : s < 64) (hn0 : 0 ≤ n) (hn : n ≤ 64) (h : s = 0 ∨ 3 ≤ i) (hk : k = 64 * (i : Int) + s) :
    bits .and .u64 (lm A i / 2 ^ s) (IntKind.u64.wrap (IntKind.u64.wrap (2 ^ n.toNat) - 1)) = win A k n := by
  obtain ⟨n, rfl⟩ := Int.eq_ofNat_of_zero_le hn0
  unfold lm win
  rw [Int.toNat_natCast, wrap_mask n (by omega), shr_nat, u64_and_nat _ _ (div_word _ _ (limb_lt _ _)) (mask_lt n (by omega)), read_one A i s n hA hs (by omega) h]
  rw [show k.toNat = 64 * i + s from by omega]
theorem res_one0 (A i : Nat) (k n : Int) (hA : A < 2 ^ 256) (hn0 : 0 ≤ n) (hn : n ≤ 64) (hk : k = 64 * (i : Int)) :
    bits .and .u64 (lm A i) (IntKind.u64.wrap (IntKind.u64.wrap (2 ^ n.toNat) - 1)) = win A k n := by
  have := res_one A i 0 k n hA (by decide) hn0 hn (Or.inl rfl) (by omega)
  simpa using this
theorem res_two (A i s : Nat) (k n : Int) (hs0 : 0 < s) (hs : s < 64) (hn0 : 0 ≤ n) (hn : n ≤ 64) (hk : k = 64 * (i : Int) + s) :
    bits .and .u64 (bits .or .u64 (lm A i / 2 ^ s) (IntKind.u64.wrap (lm A (i + 1) * 2 ^ (64 - s)))) (IntKind.u64.wrap (IntKind.u64.wrap (2 ^ n.toNat) - 1)) = win A k n := by
  obtain ⟨n, rfl⟩ := Int.eq_ofNat_of_zero_le hn0
  unfold lm win
  rw [Int.toNat_natCast, wrap_mask n (by omega), shr_nat, shl_nat, u64_or_nat _ _ (div_word _ _ (limb_lt _ _)) (Nat.mod_lt _ (by decide)),
    u64_and_nat _ _ (by exact Nat.or_lt_two_pow (n := 64) (div_word _ _ (limb_lt _ _)) (Nat.mod_lt _ (by decide))) (mask_lt n (by omega)), read_two A i s n hs hs0 (by omega)]
  rw [show k.toNat = 64 * i + s from by omega]
theorem res_far (A : Nat) (k n : Int) (hA : A < 2 ^ 256) (hk : 256 ≤ k) : win A k n = 0 := by
  unfold win
  rw [window_far A k.toNat n.toNat hA (by omega)]; rfl

/-! ### The walk of '(*uint256).bitsAt' -/
set_option maxHeartbeats 400000 in
theorem bitsAt_far (A : Nat) (hA : A < 2 ^ 256) (k n : Int) (hk0 : 256 ≤ k) (hk : k ≤ 9223372036854775807) (a : Option Addr) (w : World) :
    Calls Try.prog 13 #[.pointer a, .int .i64 k, .int .i64 n] w fun e w' => e = .returned (.int .u64 (win A k n)) ∧ w' = w := by
  have HR : Hid (win A k n = 0) := res_far A k n hA hk0
  have hd : 4 ≤ k / 64 := by omega
  go_enter Try.func13, Try.ntmps13
  go_wp2
  go_ret
  exact ⟨ret_int HR.out.symm, rfl⟩

set_option maxHeartbeats 800000 in
theorem bitsAt_zero (A : Nat) (hA : A < 2 ^ 256) (i : Nat) (hi : i = 0 ∨ i = 1 ∨ i = 2 ∨ i = 3) (k n : Int) (hk0 : 0 ≤ k) (hk : k ≤ 9223372036854775807) (hd : k / 64 = (i : Int)) (hm : k % 64 = 0) (hn0 : 0 ≤ n) (hn : n ≤ 64) (b : Nat) (w : World)
    (c0 : w.cell? ⟨b, i, none⟩ = some (.int .u64 (lm A i))) :
    Calls Try.prog 13 #[.pointer (some ⟨b, 0, none⟩), .int .i64 k, .int .i64 n] w fun e w' => e = .returned (.int .u64 (win A k n)) ∧ w' = w := by
  have HR : Hid (bits .and .u64 (lm A i) (IntKind.u64.wrap (IntKind.u64.wrap (2 ^ n.toNat) - 1)) = win A k n) := res_one0 A i k n hA hn0 hn (by omega)
  have l1 := lm_nonneg A i
  have l2 := lm_lt A i
  rcases hi with rfl | rfl | rfl | rfl <;> simp only [Int.cast_ofNat_Int] at hd
  all_goals
    go_enter Try.func13, Try.ntmps13
    go_wp2
    go_ret
    exact ⟨ret_int HR.out, rfl⟩

set_option maxHeartbeats 800000 in
theorem bitsAt_last (A : Nat) (hA : A < 2 ^ 256) (s : Nat) (k n : Int) (hk0 : 0 ≤ k) (hk : k ≤ 9223372036854775807) (hd : k / 64 = 3) (hm : k % 64 = (s : Int)) (hs0 : 0 < s) (hs : s < 64) (hn0 : 0 ≤ n) (hn : n ≤ 64) (b : Nat) (w : World)
    (c0 : w.cell? ⟨b, 3, none⟩ = some (.int .u64 (lm A 3))) :
    Calls Try.prog 13 #[.pointer (some ⟨b, 0, none⟩), .int .i64 k, .int .i64 n] w fun e w' => e = .returned (.int .u64 (win A k n)) ∧ w' = w := by
  have HR : Hid (bits .and .u64 (lm A 3 / 2 ^ s) (IntKind.u64.wrap (IntKind.u64.wrap (2 ^ n.toNat) - 1)) = win A k n) := res_one A 3 s k n hA hs hn0 hn (Or.inr (by decide)) (by omega)
  have l1 := lm_nonneg A 3
  have l2 := lm_lt A 3
  go_enter Try.func13, Try.ntmps13
  go_wp2
  go_ret
  exact ⟨ret_int HR.out, rfl⟩

set_option maxHeartbeats 800000 in
theorem bitsAt_two (A : Nat) (i : Nat) (hi : i = 0 ∨ i = 1 ∨ i = 2) (s : Nat) (k n : Int) (hk0 : 0 ≤ k) (hk : k ≤ 9223372036854775807) (hd : k / 64 = (i : Int)) (hm : k % 64 = (s : Int)) (hs0 : 0 < s) (hs : s < 64) (hn0 : 0 ≤ n) (hn : n ≤ 64) (b : Nat) (w : World)
    (c0 : w.cell? ⟨b, i, none⟩ = some (.int .u64 (lm A i))) (c1 : w.cell? ⟨b, i + 1, none⟩ = some (.int .u64 (lm A (i + 1)))) :
    Calls Try.prog 13 #[.pointer (some ⟨b, 0, none⟩), .int .i64 k, .int .i64 n] w fun e w' => e = .returned (.int .u64 (win A k n)) ∧ w' = w := by
  have HR : Hid (bits .and .u64 (bits .or .u64 (lm A i / 2 ^ s) (IntKind.u64.wrap (lm A (i + 1) * 2 ^ (64 - s)))) (IntKind.u64.wrap (IntKind.u64.wrap (2 ^ n.toNat) - 1)) = win A k n) := res_two A i s k n hs0 hs hn0 hn (by omega)
  have l1 := lm_nonneg A i
  have l2 := lm_lt A i
  have l3 := lm_nonneg A (i + 1)
  have l4 := lm_lt A (i + 1)
  rcases hi with rfl | rfl | rfl <;> simp only [Int.cast_ofNat_Int, Nat.zero_add, Nat.reduceAdd] at hd c1 l3 l4 HR
  all_goals
    go_enter Try.func13, Try.ntmps13
    go_wp2
    go_ret
    exact ⟨ret_int HR.out, rfl⟩

/-- '(*uint256).bitsAt' AT EVERY PLACE. -/
theorem bitsAt_any (A : Nat) (hA : A < 2 ^ 256) (k n : Int) (hk0 : 0 ≤ k) (hk : k ≤ 9223372036854775807) (hn0 : 0 ≤ n) (hn : n ≤ 64) (b : Nat) (w : World)
    (c0 : w.cell? ⟨b, 0, none⟩ = some (.int .u64 (lm A 0))) (c1 : w.cell? ⟨b, 1, none⟩ = some (.int .u64 (lm A 1))) (c2 : w.cell? ⟨b, 2, none⟩ = some (.int .u64 (lm A 2))) (c3 : w.cell? ⟨b, 3, none⟩ = some (.int .u64 (lm A 3))) :
    Calls Try.prog 13 #[.pointer (some ⟨b, 0, none⟩), .int .i64 k, .int .i64 n] w fun e w' => e = .returned (.int .u64 (win A k n)) ∧ w' = w := by
  by_cases hf : 256 ≤ k
  · exact bitsAt_far A hA k n hf hk _ w
  obtain ⟨i, hi⟩ := Int.eq_ofNat_of_zero_le (show 0 ≤ k / 64 by omega)
  obtain ⟨s, hs⟩ := Int.eq_ofNat_of_zero_le (show 0 ≤ k % 64 by omega)
  have hi4 : i < 4 := by omega
  have hs64 : s < 64 := by omega
  by_cases hs0 : s = 0
  · subst hs0
    have hi' : i = 0 ∨ i = 1 ∨ i = 2 ∨ i = 3 := by omega
    refine bitsAt_zero A hA i hi' k n hk0 hk hi hs hn0 hn b w ?_
    rcases hi' with rfl | rfl | rfl | rfl <;> assumption
  · by_cases hi3 : i = 3
    · subst hi3
      exact bitsAt_last A hA s k n hk0 hk hi hs (by omega) hs64 hn0 hn b w c3
    · have hi' : i = 0 ∨ i = 1 ∨ i = 2 := by omega
      refine bitsAt_two A i hi' s k n hk0 hk hi hs (by omega) hs64 hn0 hn b w ?_ ?_ <;> rcases hi' with rfl | rfl | rfl <;> assumption

/-! ### 'ZZBitsAt': the array is copied into a variable of the type uint256, and bitsAt is called at its address -/
set_option maxHeartbeats 400000 in
theorem zzBitsAt_any (A : Nat) (hA : A < 2 ^ 256) (k n : Int) (hk0 : 0 ≤ k) (hk : k ≤ 9223372036854775807) (hn0 : 0 ≤ n) (hn : n ≤ 64) (w : World) :
    Calls Try.prog 10 #[.agg #[.int .u64 (lm A 0), .int .u64 (lm A 1), .int .u64 (lm A 2), .int .u64 (lm A 3)], .int .i64 k, .int .i64 n] w fun e w' =>
      e = .returned (.int .u64 (win A k n)) ∧ ∃ c1 c2 : Array Value, w' = (w.alloc (.cells c1 23)).alloc (.cells c2 32) := by
  go_enter Try.func10, Try.ntmps10
  go_wp2_with (go_at_call 13; refine (bitsAt_any A hA k n hk0 hk hn0 hn _ _ ?c0 ?c1 ?c2 ?c3).mono ?_)
  case c0 => simp
  case c1 => simp
  case c2 => simp
  case c3 => simp
  rintro e w' ⟨rfl, rfl⟩
  go_wp2
  go_ret
  exact ⟨rfl, _, _, rfl⟩
end Go.Proofs.Qxb6617384a
