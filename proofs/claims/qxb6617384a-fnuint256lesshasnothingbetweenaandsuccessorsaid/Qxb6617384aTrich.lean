/-
  THE WALK OF FnUint256LessIsTrichotomousAndBorrows.
-/
import Derived.Test.Qxb6617384aBorrow
namespace Go.Proofs.Qxb6617384a
open Go.RowKit Plain
set_option linter.unusedVariables false

/-- The two arguments lie in blocks x and x + 1; nothing below x has turned. -/
structure Two (A B x : Nat) (w wr : World) : Prop where
  bel : Below x w wr
  hsz : x + 1 < wr.heap.size
  a0 : wr.cell? ⟨x, 0, none⟩ = some (.int .u64 (lm A 0))
  a1 : wr.cell? ⟨x, 1, none⟩ = some (.int .u64 (lm A 1))
  a2 : wr.cell? ⟨x, 2, none⟩ = some (.int .u64 (lm A 2))
  a3 : wr.cell? ⟨x, 3, none⟩ = some (.int .u64 (lm A 3))
  b0 : wr.cell? ⟨x + 1, 0, none⟩ = some (.int .u64 (lm B 0))
  b1 : wr.cell? ⟨x + 1, 1, none⟩ = some (.int .u64 (lm B 1))
  b2 : wr.cell? ⟨x + 1, 2, none⟩ = some (.int .u64 (lm B 2))
  b3 : wr.cell? ⟨x + 1, 3, none⟩ = some (.int .u64 (lm B 3))

theorem Two.start (A B : Nat) (w : World) : Two A B w.heap.size w ((w.alloc (.cells #[.int .u64 (lm A 0), .int .u64 (lm A 1), .int .u64 (lm A 2), .int .u64 (lm A 3)] 23)).alloc (.cells #[.int .u64 (lm B 0), .int .u64 (lm B 1), .int .u64 (lm B 2), .int .u64 (lm B 3)] 23)) := by
  refine ⟨((Below.refl _ _).alloc (Nat.le_refl _) _).alloc (by simp) _, by simp, ?_, ?_, ?_, ?_, ?_, ?_, ?_, ?_⟩ <;> simp

theorem Two.next {A B x : Nat} {w wr w1 : World} (T : Two A B x w wr) (h : Below wr.heap.size wr w1) : Two A B x w w1 := by
  have hs := T.hsz
  have h2 := h.size
  have k1 : ∀ j, w1.cell? ⟨x, j, none⟩ = wr.cell? ⟨x, j, none⟩ := fun j => h.cell (p := ⟨x, j, none⟩) (by show x < _; omega)
  have k2 : ∀ j, w1.cell? ⟨x + 1, j, none⟩ = wr.cell? ⟨x + 1, j, none⟩ := fun j => h.cell (p := ⟨x + 1, j, none⟩) hs
  exact ⟨T.bel.trans (h.mono (by omega)), by omega, (k1 0).trans T.a0, (k1 1).trans T.a1, (k1 2).trans T.a2, (k1 3).trans T.a3, (k2 0).trans T.b0, (k2 1).trans T.b1, (k2 2).trans T.b2, (k2 3).trans T.b3⟩

theorem run_eqB (A B : Nat) (hA : A < 2 ^ 256) (hB : B < 2 ^ 256) (w : World) :
    (Op.equalIn 10000 23 (.agg #[.int .u64 (lm A 0), .int .u64 (lm A 1), .int .u64 (lm A 2), .int .u64 (lm A 3)]) (.agg #[.int .u64 (lm B 0), .int .u64 (lm B 1), .int .u64 (lm B 2), .int .u64 (lm B 3)])).run Try.prog w = .ok (eqB A B) w := by
  rw [run_eq4, eqB_words A B hA hB]

theorem trich (A B : Nat) : (ltB A B = true ∧ ltB B A = false ∧ eqB A B = false) ∨ (ltB A B = false ∧ ltB B A = true ∧ eqB A B = false) ∨ (ltB A B = false ∧ ltB B A = false ∧ eqB A B = true) := by
  unfold ltB eqB
  simp only [decide_eq_true_eq, decide_eq_false_iff_not]
  omega

set_option maxHeartbeats 2000000 in
set_option maxRecDepth 100000 in
/-- FnUint256LessIsTrichotomousAndBorrows returns true, whatever it is handed. -/
theorem law_trich (A B : Nat) (hA : A < 2 ^ 256) (hB : B < 2 ^ 256) (w : World) :
    Calls Try.prog 3 #[.agg #[.int .u64 (lm A 0), .int .u64 (lm A 1), .int .u64 (lm A 2), .int .u64 (lm A 3)], .agg #[.int .u64 (lm B 0), .int .u64 (lm B 1), .int .u64 (lm B 2), .int .u64 (lm B 3)]] w fun e w' =>
      e = .returned (.bool true) ∧ Below w.heap.size w w' := by
  have HA : Hid (A < 2 ^ 256) := hA
  have HB : Hid (B < 2 ^ 256) := hB
  have hq : ∀ w : World, _ := fun w => run_eqB A B hA hB w
  have HT : Hid _ := Two.start A B w
  clear hA hB
  rcases trich A B with ⟨l1, l2, l3⟩ | ⟨l1, l2, l3⟩ | ⟨l1, l2, l3⟩
  all_goals
    rw [l3] at hq
    clear l3
    go_enter Try.func3, Try.ntmps3
    go_wp2_with fail
    refine (zzLess_any A B HA.out HB.out _).mono ?_
    rintro e w1 ⟨rfl, hb⟩
    have T1 := HT.out.next hb
    have HT1 : Hid _ := T1
    obtain ⟨bel, hsz, a0, a1, a2, a3, b0, b1, b2, b3⟩ := T1
    clear hb
    go_wp2_with fail
    refine (zzLess_any B A HB.out HA.out _).mono ?_
    rintro e w2 ⟨rfl, hb⟩
    have T2 := HT1.out.next hb
    have HT2 : Hid _ := T2
    clear hb HT1 bel hsz a0 a1 a2 a3 b0 b1 b2 b3
    obtain ⟨bel, hsz, a0, a1, a2, a3, b0, b1, b2, b3⟩ := T2
    go_wp2_with fail
    refine (borrow_any A B HA.out HB.out _).mono ?_
    rintro e w3 ⟨rfl, hb⟩
    have T3 := HT2.out.next hb
    have HT3 : Hid _ := T3
    clear hb HT2 bel hsz a0 a1 a2 a3 b0 b1 b2 b3
    obtain ⟨bel, hsz, a0, a1, a2, a3, b0, b1, b2, b3⟩ := T3
    go_wp2_with fail
    refine (borrow_any B A HB.out HA.out _).mono ?_
    rintro e w4 ⟨rfl, hb⟩
    have T4 := HT3.out.next hb
    clear hb HT3 bel hsz a0 a1 a2 a3 b0 b1 b2 b3
    obtain ⟨bel, hsz, a0, a1, a2, a3, b0, b1, b2, b3⟩ := T4
    go_wp2
    go_ret
    exact ⟨by simp, bel⟩
end Go.Proofs.Qxb6617384a
