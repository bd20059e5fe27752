/-
  THE WALKS OF ZZLess AND lessByBorrow.
-/
import Derived.Test.Qxb6617384aLess
import Derived.Outline
namespace Go.Proofs.Qxb6617384a
open Go.RowKit Plain
set_option linter.unusedVariables false

/-! ### 'ZZLess': both arrays are copied into variables of the type uint256, and less is called at their addresses -/
set_option maxHeartbeats 400000 in
theorem zzLess_any (A B : Nat) (hA : A < 2 ^ 256) (hB : B < 2 ^ 256) (w : World) :
    Calls Try.prog 7 #[.agg #[.int .u64 (lm A 0), .int .u64 (lm A 1), .int .u64 (lm A 2), .int .u64 (lm A 3)], .agg #[.int .u64 (lm B 0), .int .u64 (lm B 1), .int .u64 (lm B 2), .int .u64 (lm B 3)]] w fun e w' =>
      e = .returned (.bool (ltB A B)) ∧ Below w.heap.size w w' := by
  go_enter Try.func7, Try.ntmps7
  go_wp2_with (go_at_call 12; refine (less_any A B hA hB _ _ _ ?a0 ?a1 ?a2 ?a3 ?b0 ?b1 ?b2 ?b3).mono ?_)
  case a0 => go_simp
  case a1 => go_simp
  case a2 => go_simp
  case a3 => go_simp
  case b0 => go_simp
  case b1 => go_simp
  case b2 => go_simp
  case b3 => go_simp
  rintro e w' ⟨rfl, n, rfl⟩
  go_wp2
  go_ret
  exact ⟨rfl, below_drewN (((((Below.refl _ _).alloc (Nat.le_refl _) _).alloc (by simp) _).alloc (by simp; omega) _).alloc (by simp; omega) _) n⟩

set_option maxHeartbeats 1000000 in
set_option maxRecDepth 100000 in
theorem borrow_any (A B : Nat) (hA : A < 2 ^ 256) (hB : B < 2 ^ 256) (w : World) :
    Calls Try.prog 8 #[.agg #[.int .u64 (lm A 0), .int .u64 (lm A 1), .int .u64 (lm A 2), .int .u64 (lm A 3)], .agg #[.int .u64 (lm B 0), .int .u64 (lm B 1), .int .u64 (lm B 2), .int .u64 (lm B 3)]] w fun e w' =>
      e = .returned (.bool (ltB A B)) ∧ Below w.heap.size w w' := by
  have HR : Hid (bw A B 4 = ltB A B) := bw_all A B hA hB
  clear hA hB
  go_enter Try.func8, Try.ntmps8
  go_wp2
  go_loopw [5, 6] (fun b i wr => ∃ k : Nat, k ≤ 4 ∧ i = .int .i64 k ∧ b = .bool (bw A B k) ∧ ∃ n, wr = ((w.alloc (.cells #[.int .u64 (lm A 0), .int .u64 (lm A 1), .int .u64 (lm A 2), .int .u64 (lm A 3)] 23)).alloc (.cells #[.int .u64 (lm B 0), .int .u64 (lm B 1), .int .u64 (lm B 2), .int .u64 (lm B 3)] 23)).drewN n) (fun _ i _ => 4 - (intOf i).toNat)
  case atStart => exact ⟨0, by omega, rfl, by rw [bw_none], 0, rfl⟩
  case round =>
    obtain ⟨k, hk, rfl, rfl, n, rfl⟩ := hrel
    have hk5 : k = 0 ∨ k = 1 ∨ k = 2 ∨ k = 3 ∨ k = 4 := by omega
    rcases hk5 with rfl | rfl | rfl | rfl | rfl
    · have HS : Hid _ := bw_step A B 0 (by decide)
      by_cases h1 : lm A 0 < lm B 0
      · go_wp2
        go_quiet (fail)
        go_wp2
        go_round
        case rel => exact ⟨1, by omega, rfl, by rw [HS.out.1 h1], _, rfl⟩
        case measure => simp [intOf]
      · by_cases h2 : lm B 0 < lm A 0
        · go_wp2
          go_quiet (fail)
          go_wp2
          go_quiet (fail)
          go_wp2
          go_round
          case rel => exact ⟨1, by omega, rfl, by rw [HS.out.2.1 h2], _, rfl⟩
          case measure => simp [intOf]
        · go_wp2
          go_quiet (fail)
          go_wp2
          go_quiet (fail)
          go_wp2
          go_round
          case rel => exact ⟨1, by omega, rfl, by rw [HS.out.2.2 (by omega)], _, rfl⟩
          case measure => simp [intOf]
    · have HS : Hid _ := bw_step A B 1 (by decide)
      by_cases h1 : lm A 1 < lm B 1
      · go_wp2
        go_quiet (fail)
        go_wp2
        go_round
        case rel => exact ⟨2, by omega, rfl, by rw [HS.out.1 h1], _, rfl⟩
        case measure => simp [intOf]
      · by_cases h2 : lm B 1 < lm A 1
        · go_wp2
          go_quiet (fail)
          go_wp2
          go_quiet (fail)
          go_wp2
          go_round
          case rel => exact ⟨2, by omega, rfl, by rw [HS.out.2.1 h2], _, rfl⟩
          case measure => simp [intOf]
        · go_wp2
          go_quiet (fail)
          go_wp2
          go_quiet (fail)
          go_wp2
          go_round
          case rel => exact ⟨2, by omega, rfl, by rw [HS.out.2.2 (by omega)], _, rfl⟩
          case measure => simp [intOf]
    · have HS : Hid _ := bw_step A B 2 (by decide)
      by_cases h1 : lm A 2 < lm B 2
      · go_wp2
        go_quiet (fail)
        go_wp2
        go_round
        case rel => exact ⟨3, by omega, rfl, by rw [HS.out.1 h1], _, rfl⟩
        case measure => simp [intOf]
      · by_cases h2 : lm B 2 < lm A 2
        · go_wp2
          go_quiet (fail)
          go_wp2
          go_quiet (fail)
          go_wp2
          go_round
          case rel => exact ⟨3, by omega, rfl, by rw [HS.out.2.1 h2], _, rfl⟩
          case measure => simp [intOf]
        · go_wp2
          go_quiet (fail)
          go_wp2
          go_quiet (fail)
          go_wp2
          go_round
          case rel => exact ⟨3, by omega, rfl, by rw [HS.out.2.2 (by omega)], _, rfl⟩
          case measure => simp [intOf]
    · have HS : Hid _ := bw_step A B 3 (by decide)
      by_cases h1 : lm A 3 < lm B 3
      · go_wp2
        go_quiet (fail)
        go_wp2
        go_round
        case rel => exact ⟨4, by omega, rfl, by rw [HS.out.1 h1], _, rfl⟩
        case measure => simp [intOf]
      · by_cases h2 : lm B 3 < lm A 3
        · go_wp2
          go_quiet (fail)
          go_wp2
          go_quiet (fail)
          go_wp2
          go_round
          case rel => exact ⟨4, by omega, rfl, by rw [HS.out.2.1 h2], _, rfl⟩
          case measure => simp [intOf]
        · go_wp2
          go_quiet (fail)
          go_wp2
          go_quiet (fail)
          go_wp2
          go_round
          case rel => exact ⟨4, by omega, rfl, by rw [HS.out.2.2 (by omega)], _, rfl⟩
          case measure => simp [intOf]
    · go_wp2
      go_ret
      exact ⟨ret_bool HR.out, below_drewN (((Below.refl _ _).alloc (Nat.le_refl _) _).alloc (by simp) _) n⟩
end Go.Proofs.Qxb6617384a
