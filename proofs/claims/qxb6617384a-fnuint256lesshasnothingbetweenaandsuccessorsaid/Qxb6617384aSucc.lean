/-
  THE WALKS OF succ256 AND OF FnUint256LessHasNothingBetweenAAndSuccessor.
-/
import Derived.Test.Qxb6617384aTrich
import Derived.Deep.RegionHeld3
namespace Go.Proofs.Qxb6617384a
open Go.RowKit Plain
set_option linter.unusedVariables false

/-! ### The plain law: A + 1 by its words -/
/-- A + 1 is below 2^256. -/
def okB (A : Nat) : Bool := decide (A + 1 < 2 ^ 256)
/-- The low k words of A are all ones. -/
def Ones (A k : Nat) : Prop := A % 2 ^ (64 * k) = 2 ^ (64 * k) - 1
theorem ones_zero (A : Nat) : Ones A 0 := by unfold Ones; simp [Nat.mod_one]
theorem ones_next (A k : Nat) (hk : k < 4) (h : Ones A k) (hl : lm A k = 18446744073709551615) : Ones A (k + 1) := by
  unfold Ones at h ⊢
  unfold lm limb at hl
  have hk4 : k = 0 ∨ k = 1 ∨ k = 2 ∨ k = 3 := by omega
  rcases hk4 with rfl | rfl | rfl | rfl <;> simp only [Nat.reduceMul, Nat.reducePow, Nat.reduceAdd, Nat.reduceSub] at h hl ⊢ <;> omega
/-- The words below k turn to 0, word k grows by one, those above stay. -/
theorem succ_words (A k : Nat) (hA : A < 2 ^ 256) (hk : k < 4) (h : Ones A k) (hl : lm A k ≠ 18446744073709551615) :
    okB A = true ∧ (∀ j, j < k → lm (A + 1) j = 0) ∧ lm (A + 1) k = lm A k + 1 ∧ (∀ j, k < j → j < 4 → lm (A + 1) j = lm A j) := by
  unfold Ones at h
  unfold okB
  simp only [decide_eq_true_eq]
  have hk4 : k = 0 ∨ k = 1 ∨ k = 2 ∨ k = 3 := by omega
  have split : ∀ P : Nat → Prop, P 0 → P 1 → P 2 → P 3 → ∀ j, j < 4 → P j := by
    intro P p0 p1 p2 p3 j hj
    have : j = 0 ∨ j = 1 ∨ j = 2 ∨ j = 3 := by omega
    rcases this with rfl | rfl | rfl | rfl <;> assumption
  refine ⟨?_, fun j hj => split (fun j => j < k → lm (A + 1) j = 0) ?_ ?_ ?_ ?_ j (by omega) hj, ?_, fun j h1 h2 => split (fun j => k < j → lm (A + 1) j = lm A j) ?_ ?_ ?_ ?_ j h2 h1⟩
  all_goals
    unfold lm limb at *
    rcases hk4 with rfl | rfl | rfl | rfl <;> simp only [Nat.reduceMul, Nat.reducePow, Nat.reduceSub] at h hl hA ⊢ <;> omega
theorem succ_top (A : Nat) (hA : A < 2 ^ 256) (h : Ones A 4) : okB A = false ∧ lm (A + 1) 0 = 0 ∧ lm (A + 1) 1 = 0 ∧ lm (A + 1) 2 = 0 ∧ lm (A + 1) 3 = 0 := by
  unfold Ones at h
  unfold okB lm limb
  simp only [Nat.reduceMul, Nat.reducePow, Nat.reduceSub, decide_eq_false_iff_not] at h hA ⊢
  omega

/-! ### 'succ256' -/
theorem wrap_last (x : Int) (h : x = 18446744073709551615) : IntKind.u64.wrap (x + 1) = 0 := by subst h; decide
theorem wrap_inc (x : Int) (h0 : 0 ≤ x) (h : x < 18446744073709551616) (hn : x ≠ 18446744073709551615) : IntKind.u64.wrap (x + 1) = x + 1 := by
  rw [IntKind.wrap_u64]; omega

set_option maxHeartbeats 2000000 in
set_option maxRecDepth 100000 in
theorem succ_any (A : Nat) (hA : A < 2 ^ 256) (w : World) :
    Calls Try.prog 9 #[.agg #[.int .u64 (lm A 0), .int .u64 (lm A 1), .int .u64 (lm A 2), .int .u64 (lm A 3)]] w fun e w' =>
      e = .returned (.tuple #[.agg #[.int .u64 (lm (A + 1) 0), .int .u64 (lm (A + 1) 1), .int .u64 (lm (A + 1) 2), .int .u64 (lm (A + 1) 3)], .bool (okB A)]) ∧ Below w.heap.size w w' := by
  have HA : Hid (A < 2 ^ 256) := hA
  clear hA
  go_enter Try.func9, Try.ntmps9
  go_wp2
  go_loopw [5] (fun i wr => ∃ k : Int, i = .int .i64 k ∧ Hid (Ones A k.toNat) ∧ ((k = 0 ∧ wr = ((w.alloc (.cells #[.int .u64 (lm A 0), .int .u64 (lm A 1), .int .u64 (lm A 2), .int .u64 (lm A 3)] 23)).alloc (.cells #[.int .u64 0, .int .u64 0, .int .u64 0, .int .u64 0] 23)).alloc (.cells #[.int .u64 (lm A 0), .int .u64 (lm A 1), .int .u64 (lm A 2), .int .u64 (lm A 3)] 23)) ∨ (k = 1 ∧ wr = ((w.alloc (.cells #[.int .u64 (lm A 0), .int .u64 (lm A 1), .int .u64 (lm A 2), .int .u64 (lm A 3)] 23)).alloc (.cells #[.int .u64 0, .int .u64 0, .int .u64 0, .int .u64 0] 23)).alloc (.cells #[.int .u64 0, .int .u64 (lm A 1), .int .u64 (lm A 2), .int .u64 (lm A 3)] 23)) ∨ (k = 2 ∧ wr = ((w.alloc (.cells #[.int .u64 (lm A 0), .int .u64 (lm A 1), .int .u64 (lm A 2), .int .u64 (lm A 3)] 23)).alloc (.cells #[.int .u64 0, .int .u64 0, .int .u64 0, .int .u64 0] 23)).alloc (.cells #[.int .u64 0, .int .u64 0, .int .u64 (lm A 2), .int .u64 (lm A 3)] 23)) ∨ (k = 3 ∧ wr = ((w.alloc (.cells #[.int .u64 (lm A 0), .int .u64 (lm A 1), .int .u64 (lm A 2), .int .u64 (lm A 3)] 23)).alloc (.cells #[.int .u64 0, .int .u64 0, .int .u64 0, .int .u64 0] 23)).alloc (.cells #[.int .u64 0, .int .u64 0, .int .u64 0, .int .u64 (lm A 3)] 23)) ∨ (k = 4 ∧ wr = ((w.alloc (.cells #[.int .u64 (lm A 0), .int .u64 (lm A 1), .int .u64 (lm A 2), .int .u64 (lm A 3)] 23)).alloc (.cells #[.int .u64 0, .int .u64 0, .int .u64 0, .int .u64 0] 23)).alloc (.cells #[.int .u64 0, .int .u64 0, .int .u64 0, .int .u64 0] 23)))) (fun i _ => (4 - intOf i).toNat)
  case atStart => exact ⟨0, rfl, ones_zero A, Or.inl ⟨rfl, rfl⟩⟩
  case round =>
    obtain ⟨k, rfl, HO, hc⟩ := hrel
    rcases hc with ⟨rfl, rfl⟩ | ⟨rfl, rfl⟩ | ⟨rfl, rfl⟩ | ⟨rfl, rfl⟩ | ⟨rfl, rfl⟩
    · by_cases hl : lm A 0 = 18446744073709551615
      · have HN : Hid (Ones A 1) := ones_next A 0 (by decide) HO.out hl
        have hw := wrap_last (lm A 0) hl
        clear hl
        go_wp2
        go_round
        case rel => exact ⟨1, rfl, HN, by simp⟩
        case measure => simp [intOf]
      · have HS : Hid _ := succ_words A 0 HA.out (by decide) HO.out hl
        have hw : IntKind.u64.wrap (lm A 0 + 1) = lm (A + 1) 0 := (wrap_inc _ (lm_nonneg _ _) (lm_lt _ _) hl).trans HS.out.2.2.1.symm
        have hz : (lm (A + 1) 0 != 0) = true := by
          have h1 := HS.out.2.2.1
          have h2 := lm_nonneg A 0
          simp only [bne_iff_ne, ne_eq]
          omega
        clear hl
        go_wp2
        refine bodyPost_ret (v := .tuple #[.agg #[.int .u64 (lm (A + 1) 0), .int .u64 (lm A 1), .int .u64 (lm A 2), .int .u64 (lm A 3)], .bool true]) (by simp [results, Try.results9, go_sem]) rfl ⟨?_, ?_⟩
        · rw [HS.out.1, HS.out.2.2.2 1 (by decide) (by decide), HS.out.2.2.2 2 (by decide) (by decide), HS.out.2.2.2 3 (by decide) (by decide)]
        · exact ((((Below.refl _ _).alloc (Nat.le_refl _) _).alloc (by simp) _).alloc (by simp; omega) _)
    · by_cases hl : lm A 1 = 18446744073709551615
      · have HN : Hid (Ones A 2) := ones_next A 1 (by decide) HO.out hl
        have hw := wrap_last (lm A 1) hl
        clear hl
        go_wp2
        go_round
        case rel => exact ⟨2, rfl, HN, by simp⟩
        case measure => simp [intOf]
      · have HS : Hid _ := succ_words A 1 HA.out (by decide) HO.out hl
        have hw : IntKind.u64.wrap (lm A 1 + 1) = lm (A + 1) 1 := (wrap_inc _ (lm_nonneg _ _) (lm_lt _ _) hl).trans HS.out.2.2.1.symm
        have hz : (lm (A + 1) 1 != 0) = true := by
          have h1 := HS.out.2.2.1
          have h2 := lm_nonneg A 1
          simp only [bne_iff_ne, ne_eq]
          omega
        clear hl
        go_wp2
        refine bodyPost_ret (v := .tuple #[.agg #[.int .u64 0, .int .u64 (lm (A + 1) 1), .int .u64 (lm A 2), .int .u64 (lm A 3)], .bool true]) (by simp [results, Try.results9, go_sem]) rfl ⟨?_, ?_⟩
        · rw [HS.out.1, HS.out.2.1 0 (by decide), HS.out.2.2.2 2 (by decide) (by decide), HS.out.2.2.2 3 (by decide) (by decide)]
        · exact ((((Below.refl _ _).alloc (Nat.le_refl _) _).alloc (by simp) _).alloc (by simp; omega) _)
    · by_cases hl : lm A 2 = 18446744073709551615
      · have HN : Hid (Ones A 3) := ones_next A 2 (by decide) HO.out hl
        have hw := wrap_last (lm A 2) hl
        clear hl
        go_wp2
        go_round
        case rel => exact ⟨3, rfl, HN, by simp⟩
        case measure => simp [intOf]
      · have HS : Hid _ := succ_words A 2 HA.out (by decide) HO.out hl
        have hw : IntKind.u64.wrap (lm A 2 + 1) = lm (A + 1) 2 := (wrap_inc _ (lm_nonneg _ _) (lm_lt _ _) hl).trans HS.out.2.2.1.symm
        have hz : (lm (A + 1) 2 != 0) = true := by
          have h1 := HS.out.2.2.1
          have h2 := lm_nonneg A 2
          simp only [bne_iff_ne, ne_eq]
          omega
        clear hl
        go_wp2
        refine bodyPost_ret (v := .tuple #[.agg #[.int .u64 0, .int .u64 0, .int .u64 (lm (A + 1) 2), .int .u64 (lm A 3)], .bool true]) (by simp [results, Try.results9, go_sem]) rfl ⟨?_, ?_⟩
        · rw [HS.out.1, HS.out.2.1 0 (by decide), HS.out.2.1 1 (by decide), HS.out.2.2.2 3 (by decide) (by decide)]
        · exact ((((Below.refl _ _).alloc (Nat.le_refl _) _).alloc (by simp) _).alloc (by simp; omega) _)
    · by_cases hl : lm A 3 = 18446744073709551615
      · have HN : Hid (Ones A 4) := ones_next A 3 (by decide) HO.out hl
        have hw := wrap_last (lm A 3) hl
        clear hl
        go_wp2
        go_round
        case rel => exact ⟨4, rfl, HN, by simp⟩
        case measure => simp [intOf]
      · have HS : Hid _ := succ_words A 3 HA.out (by decide) HO.out hl
        have hw : IntKind.u64.wrap (lm A 3 + 1) = lm (A + 1) 3 := (wrap_inc _ (lm_nonneg _ _) (lm_lt _ _) hl).trans HS.out.2.2.1.symm
        have hz : (lm (A + 1) 3 != 0) = true := by
          have h1 := HS.out.2.2.1
          have h2 := lm_nonneg A 3
          simp only [bne_iff_ne, ne_eq]
          omega
        clear hl
        go_wp2
        refine bodyPost_ret (v := .tuple #[.agg #[.int .u64 0, .int .u64 0, .int .u64 0, .int .u64 (lm (A + 1) 3)], .bool true]) (by simp [results, Try.results9, go_sem]) rfl ⟨?_, ?_⟩
        · rw [HS.out.1, HS.out.2.1 0 (by decide), HS.out.2.1 1 (by decide), HS.out.2.1 2 (by decide)]
        · exact ((((Below.refl _ _).alloc (Nat.le_refl _) _).alloc (by simp) _).alloc (by simp; omega) _)
    · have HS : Hid _ := succ_top A HA.out HO.out
      go_wp2
      refine bodyPost_ret (v := .tuple #[.agg #[.int .u64 0, .int .u64 0, .int .u64 0, .int .u64 0], .bool false]) (by simp [results, Try.results9, go_sem]) rfl ⟨?_, ?_⟩
      · rw [HS.out.1, HS.out.2.1, HS.out.2.2.1, HS.out.2.2.2.1, HS.out.2.2.2.2]
      · exact ((((Below.refl _ _).alloc (Nat.le_refl _) _).alloc (by simp) _).alloc (by simp; omega) _)

/-! ### The law -/
/-- a, b and s lie where they lie; nothing below x has turned. -/
abbrev S3 (A B x s : Nat) (w w' : World) : Prop := w'.cell? ⟨x, 0, none⟩ = some (.int .u64 (lm A 0)) ∧ w'.cell? ⟨x, 1, none⟩ = some (.int .u64 (lm A 1)) ∧ w'.cell? ⟨x, 2, none⟩ = some (.int .u64 (lm A 2)) ∧ w'.cell? ⟨x, 3, none⟩ = some (.int .u64 (lm A 3)) ∧ w'.cell? ⟨x + 1, 0, none⟩ = some (.int .u64 (lm B 0)) ∧ w'.cell? ⟨x + 1, 1, none⟩ = some (.int .u64 (lm B 1)) ∧ w'.cell? ⟨x + 1, 2, none⟩ = some (.int .u64 (lm B 2)) ∧ w'.cell? ⟨x + 1, 3, none⟩ = some (.int .u64 (lm B 3)) ∧ w'.cell? ⟨s, 0, none⟩ = some (.int .u64 (lm (A + 1) 0)) ∧ w'.cell? ⟨s, 1, none⟩ = some (.int .u64 (lm (A + 1) 1)) ∧ w'.cell? ⟨s, 2, none⟩ = some (.int .u64 (lm (A + 1) 2)) ∧ w'.cell? ⟨s, 3, none⟩ = some (.int .u64 (lm (A + 1) 3)) ∧ x + 1 < w'.heap.size ∧ s < w'.heap.size ∧ Below x w w'
theorem S3.next {A B x s : Nat} {w wr w1 : World} (T : S3 A B x s w wr) (h : Below wr.heap.size wr w1) : S3 A B x s w w1 := by
  obtain ⟨a0, a1, a2, a3, b0, b1, b2, b3, c0, c1, c2, c3, hs, hs', bel⟩ := T
  have h2 := h.size
  have k1 : ∀ j, w1.cell? ⟨x, j, none⟩ = wr.cell? ⟨x, j, none⟩ := fun j => h.cell (p := ⟨x, j, none⟩) (by show x < _; omega)
  have k2 : ∀ j, w1.cell? ⟨x + 1, j, none⟩ = wr.cell? ⟨x + 1, j, none⟩ := fun j => h.cell (p := ⟨x + 1, j, none⟩) hs
  have k3 : ∀ j, w1.cell? ⟨s, j, none⟩ = wr.cell? ⟨s, j, none⟩ := fun j => h.cell (p := ⟨s, j, none⟩) hs'
  exact ⟨(k1 0).trans a0, (k1 1).trans a1, (k1 2).trans a2, (k1 3).trans a3, (k2 0).trans b0, (k2 1).trans b1, (k2 2).trans b2, (k2 3).trans b3, (k3 0).trans c0, (k3 1).trans c1, (k3 2).trans c2, (k3 3).trans c3, by omega, by omega, bel.trans (h.mono (by omega))⟩
theorem S3.drew {A B x s : Nat} {w wr : World} (T : S3 A B x s w wr) : S3 A B x s w wr.drew := S3.next T ((Below.refl _ _).drew)
theorem S3.start {A B x : Nat} {w wr : World} (T : Two A B x w wr) : S3 A B x wr.heap.size w (wr.alloc (.cells #[.int .u64 (lm (A + 1) 0), .int .u64 (lm (A + 1) 1), .int .u64 (lm (A + 1) 2), .int .u64 (lm (A + 1) 3)] 23)) := by
  have T1 := T.next ((Below.refl wr.heap.size wr).alloc (Nat.le_refl _) (.cells #[.int .u64 (lm (A + 1) 0), .int .u64 (lm (A + 1) 1), .int .u64 (lm (A + 1) 2), .int .u64 (lm (A + 1) 3)] 23))
  exact ⟨T1.a0, T1.a1, T1.a2, T1.a3, T1.b0, T1.b1, T1.b2, T1.b3, by simp, by simp, by simp, by simp, T1.hsz, by simp, T1.bel⟩

theorem succ_lt (A : Nat) : ltB A (A + 1) = true ∧ ltB (A + 1) A = false := by
  unfold ltB
  simp only [decide_eq_true_eq, decide_eq_false_iff_not]
  omega
theorem succ_between (A B : Nat) : (ltB A B = true ∧ ltB B (A + 1) = false) ∨ (ltB A B = false ∧ ltB B (A + 1) = true) := by
  unfold ltB
  simp only [decide_eq_true_eq, decide_eq_false_iff_not]
  omega

set_option maxHeartbeats 2000000 in
set_option maxRecDepth 100000 in
/-- FnUint256LessHasNothingBetweenAAndSuccessor returns true, whatever it is handed. -/
theorem law_succ (A B : Nat) (hA : A < 2 ^ 256) (hB : B < 2 ^ 256) (w : World) :
    Calls Try.prog 4 #[.agg #[.int .u64 (lm A 0), .int .u64 (lm A 1), .int .u64 (lm A 2), .int .u64 (lm A 3)], .agg #[.int .u64 (lm B 0), .int .u64 (lm B 1), .int .u64 (lm B 2), .int .u64 (lm B 3)]] w fun e w' =>
      e = .returned (.bool true) ∧ Below w.heap.size w w' := by
  have HA : Hid (A < 2 ^ 256) := hA
  have HB : Hid (B < 2 ^ 256) := hB
  have HT : Hid _ := Two.start A B w
  by_cases hok : A + 1 < 2 ^ 256
  · have HC : Hid (A + 1 < 2 ^ 256) := hok
    have l0 : okB A = true := decide_eq_true hok
    have l1 := (succ_lt A).1
    have l2 := (succ_lt A).2
    clear hA hB hok
    rcases succ_between A B with ⟨l3, l4⟩ | ⟨l3, l4⟩
    all_goals
      go_enter Try.func4, Try.ntmps4
      go_wp2_with fail
      refine (succ_any A HA.out _).mono ?_
      rintro e w1 ⟨rfl, hb⟩
      have HT1 : Hid _ := HT.out.next hb
      have HS0 : Hid _ := S3.start HT1.out
      clear hb
      obtain ⟨a0, a1, a2, a3, b0, b1, b2, b3, c0, c1, c2, c3, hs, hs', bel⟩ := HS0.out
      go_wp2_with fail
      refine (zzLess_any A (A + 1) HA.out HC.out _).mono ?_
      rintro e w2 ⟨rfl, hb⟩
      have HS1 : Hid _ := S3.next HS0.out hb
      clear hb a0 a1 a2 a3 b0 b1 b2 b3 c0 c1 c2 c3 hs hs' bel
      obtain ⟨a0, a1, a2, a3, b0, b1, b2, b3, c0, c1, c2, c3, hs, hs', bel⟩ := HS1.out
      go_wp2_with fail
      refine (zzLess_any (A + 1) A HC.out HA.out _).mono ?_
      rintro e w3 ⟨rfl, hb⟩
      have HS2 : Hid _ := S3.next HS1.out hb
      have hS := HS2.out
      clear hb a0 a1 a2 a3 b0 b1 b2 b3 c0 c1 c2 c3 hs hs' bel HS0 HS1 HT HT1
      go_wp2
      go_region_held3 (fun w' => w'.cell? ⟨w.heap.size, 0, none⟩ = some (.int .u64 (lm A 0)) ∧ w'.cell? ⟨w.heap.size, 1, none⟩ = some (.int .u64 (lm A 1)) ∧ w'.cell? ⟨w.heap.size, 2, none⟩ = some (.int .u64 (lm A 2)) ∧ w'.cell? ⟨w.heap.size, 3, none⟩ = some (.int .u64 (lm A 3)) ∧ w'.cell? ⟨w.heap.size + 1, 0, none⟩ = some (.int .u64 (lm B 0)) ∧ w'.cell? ⟨w.heap.size + 1, 1, none⟩ = some (.int .u64 (lm B 1)) ∧ w'.cell? ⟨w.heap.size + 1, 2, none⟩ = some (.int .u64 (lm B 2)) ∧ w'.cell? ⟨w.heap.size + 1, 3, none⟩ = some (.int .u64 (lm B 3)) ∧ w'.cell? ⟨w1.heap.size, 0, none⟩ = some (.int .u64 (lm (A + 1) 0)) ∧ w'.cell? ⟨w1.heap.size, 1, none⟩ = some (.int .u64 (lm (A + 1) 1)) ∧ w'.cell? ⟨w1.heap.size, 2, none⟩ = some (.int .u64 (lm (A + 1) 2)) ∧ w'.cell? ⟨w1.heap.size, 3, none⟩ = some (.int .u64 (lm (A + 1) 3)) ∧ w.heap.size + 1 < w'.heap.size ∧ w1.heap.size < w'.heap.size ∧ Below w.heap.size w w') (first | exact S3.drew hS | exact S3.next (by assumption) (by assumption))
        (first
          | (go_at_call_of 7 (Value.agg #[.int .u64 (lm A 0), .int .u64 (lm A 1), .int .u64 (lm A 2), .int .u64 (lm A 3)]); refine (zzLess_any A B HA.out HB.out _).mono ?_; rintro e w' ⟨rfl, hb⟩)
          | (go_at_call 7; refine (zzLess_any B (A + 1) HB.out HC.out _).mono ?_; rintro e w' ⟨rfl, hb⟩))
      go_wp2
      go_ret
      exact ⟨by simp, (show S3 A B w.heap.size w1.heap.size w _ from by assumption).2.2.2.2.2.2.2.2.2.2.2.2.2.2⟩
  · have l0 : okB A = false := decide_eq_false hok
    clear hA hB hok
    go_enter Try.func4, Try.ntmps4
    go_wp2_with fail
    refine (succ_any A HA.out _).mono ?_
    rintro e w1 ⟨rfl, hb⟩
    have HT1 : Hid _ := HT.out.next hb
    have HS0 : Hid _ := S3.start HT1.out
    clear hb
    go_wp2
    go_ret
    exact ⟨rfl, HS0.out.2.2.2.2.2.2.2.2.2.2.2.2.2.2⟩
end Go.Proofs.Qxb6617384a
