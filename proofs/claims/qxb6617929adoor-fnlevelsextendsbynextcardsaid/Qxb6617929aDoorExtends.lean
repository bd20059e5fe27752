/-
  THE WALK OF FnLevelsExtendsByNext.
-/
import Derived.Test.Qxb6617929aDoorLevels
import Derived.Test.Qxb6617929aDoorTexts
namespace Go.Proofs.Qxb6617929aDoor
open Go.RowKit Plain
set_option linter.unusedVariables false

theorem zzlevels_at (s : ByteArray) (m : Int) (n : Nat) (hm : m = (n : Int)) (hs : s.size ≤ 4096) (hn : n ≤ 65537) (w : World) (ht : Tab w) :
    Calls Tryd.prog 6 #[.string s, .int .i64 m] w fun e w' =>
      e = .returned (.slice (some ⟨w.heap.size, 0, none⟩) n n) ∧ Lev s n w.heap.size w w' n := by
  subst hm
  exact zzlevels_any s n hs hn w ht

/-! ### The ways out ahead of the loops -/
set_option maxHeartbeats 1000000 in
theorem extends_out (s : ByteArray) (n : Int) (hs : s.size ≤ 9223372036854775807)
    (h : 1048576 < s.size ∨ (s.size ≤ 1048576 ∧ 4096 < s.size) ∨ (s.size ≤ 4096 ∧ (n < 0 ∨ (0 ≤ n ∧ 65536 < n) ∨ (0 ≤ n ∧ n ≤ 65536 ∧ 16777216 < (n + 1) * ((s.size : Int) + 12))))) (w : World) :
    Calls Tryd.prog 3 #[.string s, .int .i64 n] w fun e w' => e = .returned (.bool true) ∧ Below w.heap.size w w' := by
  rcases h with h1 | ⟨h0, h1⟩ | ⟨h1, h3 | ⟨h3, h4⟩ | ⟨h3, h4, h5⟩⟩
  · go_enter Tryd.func3, Tryd.ntmps3
    go_wp2_with (go_at_call 5; refine (zb1_no s n h1 _).mono ?_; rintro e w' ⟨rfl, rfl⟩)
    go_ret
    exact ⟨rfl, Below.refl _ _⟩
  · go_enter Tryd.func3, Tryd.ntmps3
    go_wp2_with (go_at_call 5; refine (zb1_any s n h0 _).mono ?_; rintro e w' ⟨rfl, rfl⟩)
    go_ret
    exact ⟨rfl, Below.refl _ _⟩
  · have h0 : s.size ≤ 1048576 := by omega
    go_enter Tryd.func3, Tryd.ntmps3
    go_wp2_with (go_at_call 5; refine (zb1_any s n h0 _).mono ?_; rintro e w' ⟨rfl, rfl⟩)
    go_ret
    exact ⟨rfl, Below.refl _ _⟩
  · have h0 : s.size ≤ 1048576 := by omega
    go_enter Tryd.func3, Tryd.ntmps3
    go_wp2_with (go_at_call 5; refine (zb1_any s n h0 _).mono ?_; rintro e w' ⟨rfl, rfl⟩)
    go_ret
    exact ⟨rfl, Below.refl _ _⟩
  · have h0 : s.size ≤ 1048576 := by omega
    have hub : (n + 1) * ((s.size : Int) + 12) ≤ 65537 * 4108 := Int.mul_le_mul (by omega) (by omega) (by omega) (by omega)
    go_enter Tryd.func3, Tryd.ntmps3
    go_wp2_with (go_at_call 5; refine (zb1_any s n h0 _).mono ?_; rintro e w' ⟨rfl, rfl⟩)
    go_ret
    exact ⟨rfl, Below.refl _ _⟩

set_option maxHeartbeats 2000000 in
set_option maxRecDepth 100000 in
theorem extends_in (s : ByteArray) (n : Nat) (hs : s.size ≤ 4096) (hn : n ≤ 65536) (hp : ((n : Int) + 1) * ((s.size : Int) + 12) ≤ 16777216) (hp0 : 0 ≤ ((n : Int) + 1) * ((s.size : Int) + 12)) (w : World) (ht : Tab w) :
    Calls Tryd.prog 3 #[.string s, .int .i64 n] w fun e w' => e = .returned (.bool true) ∧ Below w.heap.size w w' := by
  have h0 : s.size ≤ 1048576 := by omega
  obtain ⟨P, hP⟩ : ∃ P : Int, ((n : Int) + 1) * ((s.size : Int) + 12) = P := ⟨_, rfl⟩
  rw [hP] at hp hp0
  go_enter Tryd.func3, Tryd.ntmps3
  go_wp2_with (go_at_call 5; refine (zb1_any s n h0 _).mono ?_; rintro e w' ⟨rfl, hw⟩; have hw' := hw.symm; clear hw; subst hw')
  refine (zzlevels_any s n hs (by omega) _ ht).mono ?_
  rintro e w1 ⟨rfl, L⟩
  have HL1 : Hid (Lev s n w.heap.size w w1 n) := L
  clear L hp hp0 hP
  go_wp2_with fail
  refine (zzlevels_at s _ (n + 1) (by omega) hs (by omega) _ HL1.out.tab).mono ?_
  rintro e w2 ⟨rfl, L⟩
  have HL2 : Hid (Lev s (n + 1) w1.heap.size w1 w2 (n + 1)) := L
  clear L
  have HC1 : Hid (∀ j, j < n → w2.cell? ⟨w.heap.size, j, none⟩ = some (.string (lv s j))) := fun j hj => (HL2.out.bel.cell (p := ⟨w.heap.size, j, none⟩) HL1.out.hsz).trans (HL1.out.done j hj)
  have HC2 : Hid (∀ j, j < n + 1 → w2.cell? ⟨w1.heap.size, j, none⟩ = some (.string (lv s j))) := HL2.out.done
  have HB : Hid (Below w.heap.size w w2) := HL1.out.bel.trans (HL2.out.bel.mono (Nat.le_of_lt HL1.out.hsz))
  go_wp2
  go_loopw [7] (fun i wr => ∃ k : Nat, k ≤ n ∧ i = .int .i64 k ∧ Drawn w2 wr) (fun i _ => n - (intOf i).toNat)
  case atStart => exact ⟨0, by omega, rfl, Drawn.refl w2⟩
  case round =>
    obtain ⟨k, hk, rfl, HD⟩ := hrel
    by_cases hlt : k < n
    · have c1 := HD.cell.trans (HC1.out k hlt)
      have c2 := HD.cell.trans (HC2.out k (by omega))
      have i1 : (k : Int) < (n : Int) := by omega
      have i2 : (k : Int) < (n : Int) + 1 := by omega
      go_wp2
      go_quiet (fail)
      go_wp2
      go_round
      case rel => exact ⟨k + 1, by omega, by go_num, HD.more _⟩
      case measure => simp [intOf]; omega
    · go_wp2
      go_loopw [8] (fun i wr => ∃ k2 : Nat, k2 ≤ n + 1 ∧ i = .int .i64 k2 ∧ Drawn w2 wr) (fun i _ => n + 1 - (intOf i).toNat)
      case atStart => exact ⟨0, by omega, rfl, HD⟩
      case round =>
        obtain ⟨k2, hk2, rfl, HD2⟩ := hrel
        by_cases hlt2 : k2 < n + 1
        · have c2 := HD2.cell.trans (HC2.out k2 hlt2)
          have za := size_lv s k2
          have zd := size_dgS k2
          have hd5 := nDigits_le5 (k2 + 1) (by omega)
          have hd1 := Lib.nDigits_pos (k2 + 1)
          have la1 : s.size + 2 ≤ (lv s k2).size := by omega
          have la2 : (lv s k2).size ≤ 5000 := by omega
          have hl0 : s.size < (lv s k2).size := by omega
          have hdash : ((lv s k2)[s.size].toNat : Int) = 45 := by rw [lv_dash s k2 hl0]; rfl
          have xa := lv_extract1 s k2 _ rfl
          have ld : (dgS k2).size ≤ 9 := by omega
          clear za zd hd5 hd1
          go_wp2_with fail
          refine (prefix_any (lv s k2) s (by omega) (by omega) (lv_prefix s k2) _).mono ?_
          rintro e w3 ⟨rfl, hd⟩
          have HD3 := HD2.trans hd
          clear hd
          go_wp2_with fail
          refine (parse_any (dgS k2) (k2 + 1) rfl (by omega) ld _).mono ?_
          rintro e w4 ⟨rfl, hw⟩
          have hw' := hw.symm
          clear hw
          subst hw'
          go_wp2
          go_round
          case rel => exact ⟨k2 + 1, by omega, by go_num, HD3⟩
          case measure => simp [intOf]; omega
        · go_wp2
          go_ret
          exact ⟨rfl, HB.out.trans (HD2.below.mono HB.out.size)⟩

/-- FnLevelsExtendsByNext returns true, whatever it is handed. -/
theorem law_extends (s : ByteArray) (n : Int) (hs : s.size ≤ 9223372036854775807) (w : World) (ht : Tab w) :
    Calls Tryd.prog 3 #[.string s, .int .i64 n] w fun e w' => e = .returned (.bool true) ∧ Below w.heap.size w w' := by
  by_cases h1 : s.size ≤ 4096 ∧ 0 ≤ n ∧ n ≤ 65536
  · obtain ⟨h1, h3, h4⟩ := h1
    by_cases h5 : (n + 1) * ((s.size : Int) + 12) ≤ 16777216
    · obtain ⟨m, rfl⟩ := Int.eq_ofNat_of_zero_le h3
      exact extends_in s m h1 (by omega) h5 (Int.mul_nonneg (by omega) (by omega)) w ht
    · exact extends_out s n hs (.inr (.inr ⟨h1, .inr (.inr ⟨h3, h4, by omega⟩)⟩)) w
  · exact extends_out s n hs (by omega) w
end Go.Proofs.Qxb6617929aDoor
