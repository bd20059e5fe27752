/-
  THE WALKS OF less, ITS SHIM ZZLess AND lessByBorrow: each says whether A is below B.
-/
import Derived.Test.Qxb6617384aBits
import Derived.Test.Qxb6617384aEq
import Derived.Deep.QuietTactic
import Derived.BigQuiet
import Derived.WalkSmall
namespace Go.Proofs.Qxb6617384a
open Go.RowKit Plain
set_option linter.unusedVariables false

theorem ret_bool {a b : Bool} (h : a = b) : Ending.returned (.bool a) = .returned (.bool b) := by rw [h]

theorem three_draws (w : World) (a b c : Nat) : ∃ m, ((w.drewN a).drewN b).drewN c = w.drewN m := ⟨a + b + c, by simp [World.drewN, Nat.add_assoc]⟩

/-! ### The plain law: numbers below 2^256 by their words -/
/-- A is below B. -/
def ltB (A B : Nat) : Bool := decide (A < B)
def eqB (A B : Nat) : Bool := decide (A = B)
/-- Of the low i words: A's number is below B's. -/
def bw (A B i : Nat) : Bool := decide (A % 2 ^ (64 * i) < B % 2 ^ (64 * i))

theorem ltB_words (A B i : Nat) (hA : A < 2 ^ 256) (hB : B < 2 ^ 256) (hi : i < 4) (hup : ∀ j, i < j → j < 4 → lm A j = lm B j) (hne : lm A i ≠ lm B i) : decide (lm A i < lm B i) = ltB A B := by
  unfold ltB
  have u1 := hup 1; have u2 := hup 2; have u3 := hup 3
  unfold lm limb at u1 u2 u3 hne ⊢
  have hi4 : i = 0 ∨ i = 1 ∨ i = 2 ∨ i = 3 := by omega
  rcases hi4 with rfl | rfl | rfl | rfl <;> simp only [Nat.reduceMul, Nat.reducePow, Nat.reduceLT, true_imp_iff, false_imp_iff, Nat.lt_irrefl] at u1 u2 u3 hne hA hB ⊢ <;> congr 1 <;> rw [eq_iff_iff] <;> omega
theorem ltB_same (A B : Nat) (hA : A < 2 ^ 256) (hB : B < 2 ^ 256) (hup : ∀ j, j < 4 → lm A j = lm B j) : ltB A B = false := by
  unfold ltB
  have u0 := hup 0 (by decide); have u1 := hup 1 (by decide); have u2 := hup 2 (by decide); have u3 := hup 3 (by decide)
  unfold lm limb at u0 u1 u2 u3
  simp only [Nat.reduceMul, Nat.reducePow] at u0 u1 u2 u3 hA hB
  rw [decide_eq_false_iff_not]
  omega
theorem eqB_words (A B : Nat) (hA : A < 2 ^ 256) (hB : B < 2 ^ 256) : (lm A 0 == lm B 0 && (lm A 1 == lm B 1 && (lm A 2 == lm B 2 && lm A 3 == lm B 3))) = eqB A B := by
  unfold eqB
  rw [Bool.eq_iff_iff]
  simp only [Bool.and_eq_true, beq_iff_eq, decide_eq_true_eq]
  constructor
  · rintro ⟨u0, u1, u2, u3⟩
    unfold lm limb at u0 u1 u2 u3
    simp only [Nat.reduceMul, Nat.reducePow] at u0 u1 u2 u3 hA hB
    omega
  · rintro rfl
    exact ⟨rfl, rfl, rfl, rfl⟩
theorem bw_step (A B i : Nat) (hi : i < 4) : (lm A i < lm B i → bw A B (i + 1) = true) ∧ (lm B i < lm A i → bw A B (i + 1) = false) ∧ (lm A i = lm B i → bw A B (i + 1) = bw A B i) := by
  unfold bw lm limb
  have hi4 : i = 0 ∨ i = 1 ∨ i = 2 ∨ i = 3 := by omega
  rcases hi4 with rfl | rfl | rfl | rfl <;> simp only [Nat.reduceMul, Nat.reducePow, Nat.reduceAdd, decide_eq_true_eq, decide_eq_false_iff_not, decide_eq_decide] <;> omega
theorem bw_all (A B : Nat) (hA : A < 2 ^ 256) (hB : B < 2 ^ 256) : bw A B 4 = ltB A B := by
  unfold bw ltB
  rw [Nat.mod_eq_of_lt hA, Nat.mod_eq_of_lt hB]
theorem bw_none (A B : Nat) : bw A B 0 = false := by
  unfold bw; simp [Nat.mod_one]

/-! ### '(*uint256).less' -/
set_option maxHeartbeats 1000000 in
set_option maxRecDepth 100000 in
theorem less_any (A B : Nat) (hA : A < 2 ^ 256) (hB : B < 2 ^ 256) (x y : Nat) (w : World)
    (a0 : w.cell? ⟨x, 0, none⟩ = some (.int .u64 (lm A 0))) (a1 : w.cell? ⟨x, 1, none⟩ = some (.int .u64 (lm A 1))) (a2 : w.cell? ⟨x, 2, none⟩ = some (.int .u64 (lm A 2))) (a3 : w.cell? ⟨x, 3, none⟩ = some (.int .u64 (lm A 3)))
    (b0 : w.cell? ⟨y, 0, none⟩ = some (.int .u64 (lm B 0))) (b1 : w.cell? ⟨y, 1, none⟩ = some (.int .u64 (lm B 1))) (b2 : w.cell? ⟨y, 2, none⟩ = some (.int .u64 (lm B 2))) (b3 : w.cell? ⟨y, 3, none⟩ = some (.int .u64 (lm B 3))) :
    Calls Try.prog 12 #[.pointer (some ⟨x, 0, none⟩), .pointer (some ⟨y, 0, none⟩)] w fun e w' => e = .returned (.bool (ltB A B)) ∧ ∃ n, w' = w.drewN n := by
  have HA : Hid (A < 2 ^ 256) := hA
  have HB : Hid (B < 2 ^ 256) := hB
  clear hA hB
  go_enter Try.func12, Try.ntmps12
  go_wp2
  go_loopw [5] (fun i wr => ∃ k : Int, -1 ≤ k ∧ k ≤ 3 ∧ i = .int .i64 k ∧ Hid (∀ j : Nat, k < (j : Int) → j < 4 → lm A j = lm B j) ∧ ∃ n, wr = w.drewN n) (fun i _ => (intOf i + 1).toNat)
  case atStart => exact ⟨3, by omega, by omega, rfl, fun j h1 h2 => by omega, 0, rfl⟩
  case round =>
    obtain ⟨k, hk, hk', rfl, HU, n, rfl⟩ := hrel
    have hk5 : k = 3 ∨ k = 2 ∨ k = 1 ∨ k = 0 ∨ k = -1 := by omega
    rcases hk5 with rfl | rfl | rfl | rfl | rfl
    · by_cases hne : lm A 3 = lm B 3
      · have HE : Hid (lm A 3 = lm B 3) := hne
        rw [hne] at a3
        clear hne
        go_wp2
        go_quiet (fail)
        go_wp2
        go_round
        case rel => exact ⟨2, by omega, by omega, rfl, fun j h1 h2 => by
          by_cases e : j = 3
          · subst e; exact HE.out
          · exact HU.out j (by omega) h2, n + nq, rfl⟩
        case measure => simp [intOf]
      · have HL : Hid (decide (lm A 3 < lm B 3) = ltB A B) := ltB_words A B 3 HA.out HB.out (by decide) (fun j h1 h2 => HU.out j (by omega) h2) hne
        go_wp2
        go_quiet (fail)
        go_wp2
        go_quiet (fail)
        go_wp2
        go_ret
        exact ⟨ret_bool HL.out, three_draws w _ _ _⟩
    · by_cases hne : lm A 2 = lm B 2
      · have HE : Hid (lm A 2 = lm B 2) := hne
        rw [hne] at a2
        clear hne
        go_wp2
        go_quiet (fail)
        go_wp2
        go_round
        case rel => exact ⟨1, by omega, by omega, rfl, fun j h1 h2 => by
          by_cases e : j = 2
          · subst e; exact HE.out
          · exact HU.out j (by omega) h2, n + nq, rfl⟩
        case measure => simp [intOf]
      · have HL : Hid (decide (lm A 2 < lm B 2) = ltB A B) := ltB_words A B 2 HA.out HB.out (by decide) (fun j h1 h2 => HU.out j (by omega) h2) hne
        go_wp2
        go_quiet (fail)
        go_wp2
        go_quiet (fail)
        go_wp2
        go_ret
        exact ⟨ret_bool HL.out, three_draws w _ _ _⟩
    · by_cases hne : lm A 1 = lm B 1
      · have HE : Hid (lm A 1 = lm B 1) := hne
        rw [hne] at a1
        clear hne
        go_wp2
        go_quiet (fail)
        go_wp2
        go_round
        case rel => exact ⟨0, by omega, by omega, rfl, fun j h1 h2 => by
          by_cases e : j = 1
          · subst e; exact HE.out
          · exact HU.out j (by omega) h2, n + nq, rfl⟩
        case measure => simp [intOf]
      · have HL : Hid (decide (lm A 1 < lm B 1) = ltB A B) := ltB_words A B 1 HA.out HB.out (by decide) (fun j h1 h2 => HU.out j (by omega) h2) hne
        go_wp2
        go_quiet (fail)
        go_wp2
        go_quiet (fail)
        go_wp2
        go_ret
        exact ⟨ret_bool HL.out, three_draws w _ _ _⟩
    · by_cases hne : lm A 0 = lm B 0
      · have HE : Hid (lm A 0 = lm B 0) := hne
        rw [hne] at a0
        clear hne
        go_wp2
        go_quiet (fail)
        go_wp2
        go_round
        case rel => exact ⟨-1, by omega, by omega, rfl, fun j h1 h2 => by
          by_cases e : j = 0
          · subst e; exact HE.out
          · exact HU.out j (by omega) h2, n + nq, rfl⟩
        case measure => simp [intOf]
      · have HL : Hid (decide (lm A 0 < lm B 0) = ltB A B) := ltB_words A B 0 HA.out HB.out (by decide) (fun j h1 h2 => HU.out j (by omega) h2) hne
        go_wp2
        go_quiet (fail)
        go_wp2
        go_quiet (fail)
        go_wp2
        go_ret
        exact ⟨ret_bool HL.out, three_draws w _ _ _⟩
    · go_wp2
      go_ret
      exact ⟨ret_bool (ltB_same A B HA.out HB.out (fun j hj => HU.out j (by omega) hj)).symm, _, rfl⟩

end Go.Proofs.Qxb6617384a
