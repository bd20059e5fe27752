/-
  THE WALK OF FnLevelsSuffixIndependentOfName.
-/
import Derived.Test.Qxb6617929aDoorLevels
import Derived.Test.Qxb6617929aDoorTexts
namespace Go.Proofs.Qxb6617929aDoor
open Go.RowKit Plain
set_option linter.unusedVariables false

theorem suf_mono (k : Nat) : (sufS k).size ≤ (sufS (k + 1)).size := by
  rw [size_sufS, size_sufS]
  have := nDigits_mono (k + 1) (k + 1 + 1) (by omega)
  omega

/-! ### The ways out ahead of the loop -/
set_option maxHeartbeats 1000000 in
theorem suffix_out (a b : ByteArray) (n : Int) (ha : a.size ≤ 9223372036854775807) (hb : b.size ≤ 9223372036854775807)
    (h : 4096 < a.size ∨ (a.size ≤ 4096 ∧ 4096 < b.size) ∨ (a.size ≤ 4096 ∧ b.size ≤ 4096 ∧ (n < 0 ∨ (0 ≤ n ∧ 65536 < n) ∨ (0 ≤ n ∧ n ≤ 65536 ∧ 16777216 < n * ((a.size : Int) + b.size + 24))))) (w : World) :
    Calls Tryd.prog 4 #[.string a, .string b, .int .i64 n] w fun e w' => e = .returned (.bool true) ∧ Below w.heap.size w w' := by
  by_cases hz : zb2 a.size b.size = true
  · rcases h with h1 | ⟨h1, h2⟩ | ⟨h1, h2, h3 | ⟨h3, h4⟩ | ⟨h3, h4, h5⟩⟩
    · go_enter Tryd.func4, Tryd.ntmps4
      go_wp2_with (go_at_call 9; refine (zb2_any a b n ha hb _).mono ?_; rintro e w' ⟨rfl, rfl⟩)
      go_ret
      exact ⟨rfl, Below.refl _ _⟩
    · go_enter Tryd.func4, Tryd.ntmps4
      go_wp2_with (go_at_call 9; refine (zb2_any a b n ha hb _).mono ?_; rintro e w' ⟨rfl, rfl⟩)
      go_ret
      exact ⟨rfl, Below.refl _ _⟩
    · go_enter Tryd.func4, Tryd.ntmps4
      go_wp2_with (go_at_call 9; refine (zb2_any a b n ha hb _).mono ?_; rintro e w' ⟨rfl, rfl⟩)
      go_ret
      exact ⟨rfl, Below.refl _ _⟩
    · go_enter Tryd.func4, Tryd.ntmps4
      go_wp2_with (go_at_call 9; refine (zb2_any a b n ha hb _).mono ?_; rintro e w' ⟨rfl, rfl⟩)
      go_ret
      exact ⟨rfl, Below.refl _ _⟩
    · have hub : n * ((a.size : Int) + b.size + 24) ≤ 65536 * 8216 := Int.mul_le_mul h4 (by omega) (by omega) (by omega)
      go_enter Tryd.func4, Tryd.ntmps4
      go_wp2_with (go_at_call 9; refine (zb2_any a b n ha hb _).mono ?_; rintro e w' ⟨rfl, rfl⟩)
      go_ret
      exact ⟨rfl, Below.refl _ _⟩
  · have hz' : zb2 a.size b.size = false := by simpa using hz
    clear hz h
    go_enter Tryd.func4, Tryd.ntmps4
    go_wp2_with (go_at_call 9; refine (zb2_any a b n ha hb _).mono ?_; rintro e w' ⟨rfl, rfl⟩)
    go_ret
    exact ⟨rfl, Below.refl _ _⟩

set_option maxHeartbeats 2000000 in
set_option maxRecDepth 100000 in
theorem suffix_in (a b : ByteArray) (n : Nat) (ha : a.size ≤ 4096) (hb : b.size ≤ 4096) (hn : n ≤ 65536) (hp : (n : Int) * ((a.size : Int) + b.size + 24) ≤ 16777216) (hp0 : 0 ≤ (n : Int) * ((a.size : Int) + b.size + 24)) (w : World) (ht : Tab w) :
    Calls Tryd.prog 4 #[.string a, .string b, .int .i64 n] w fun e w' => e = .returned (.bool true) ∧ Below w.heap.size w w' := by
  have hz := zb2_yes (l := a.size) (m := b.size) (by omega) (by omega) (by omega)
  go_enter Tryd.func4, Tryd.ntmps4
  go_wp2_with (go_at_call 9; refine (zb2_any a b n (by omega) (by omega) _).mono ?_; rintro e w' ⟨rfl, hw⟩; have hw' := hw.symm; clear hw; subst hw')
  refine (zzlevels_any a n ha (by omega) _ ht).mono ?_
  rintro e w1 ⟨rfl, L⟩
  have HL1 : Hid (Lev a n w.heap.size w w1 n) := L
  clear L hp hp0
  go_wp2_with fail
  refine (zzlevels_any b n hb (by omega) _ HL1.out.tab).mono ?_
  rintro e w2 ⟨rfl, L⟩
  have HL2 : Hid (Lev b n w1.heap.size w1 w2 n) := L
  clear L
  have HC1 : Hid (∀ j, j < n → w2.cell? ⟨w.heap.size, j, none⟩ = some (.string (lv a j))) := fun j hj => (HL2.out.bel.cell (p := ⟨w.heap.size, j, none⟩) HL1.out.hsz).trans (HL1.out.done j hj)
  have HC2 : Hid (∀ j, j < n → w2.cell? ⟨w1.heap.size, j, none⟩ = some (.string (lv b j))) := HL2.out.done
  have HB : Hid (Below w.heap.size w w2) := HL1.out.bel.trans (HL2.out.bel.mono (Nat.le_of_lt HL1.out.hsz))
  go_wp2
  go_loopw [9, 10] (fun q i wr => ∃ k p : Nat, k ≤ n ∧ i = .int .i64 k ∧ q = .int .i64 p ∧ Hid (p ≤ (sufS k).size) ∧ Drawn w2 wr) (fun _ i _ => n - (intOf i).toNat)
  case atStart => exact ⟨0, 0, by omega, rfl, rfl, Nat.zero_le _, Drawn.refl w2⟩
  case round =>
    obtain ⟨k, p, hk, rfl, rfl, HP, HD⟩ := hrel
    by_cases hlt : k < n
    · have c1 := HD.cell.trans (HC1.out k hlt)
      have c2 := HD.cell.trans (HC2.out k hlt)
      have za := size_lv a k
      have zb := size_lv b k
      have zs := size_sufS k
      have hd5 := nDigits_le5 (k + 1) (by omega)
      have hd1 := Lib.nDigits_pos (k + 1)
      have la1 : a.size < (lv a k).size := by omega
      have lb1 : b.size < (lv b k).size := by omega
      have la2 : (lv a k).size ≤ 5000 := by omega
      have lb2 : (lv b k).size ≤ 5000 := by omega
      have xa := lv_extract a k _ rfl
      have xb := lv_extract b k _ rfl
      have ls1 : 2 ≤ (sufS k).size := by omega
      have ls2 : (sufS k).size ≤ 10 := by omega
      have hpp := HP.out
      have hl0 : (sufS k).size - 1 < (sufS k).size := by omega
      have hlast : (((sufS k)[(sufS k).size - 1].toNat : Int) != 48 + ((k : Int) + 1) % 10) = false := by
        rw [sufS_last k _ hl0 (by omega), digit_toNat _ (by omega)]
        simp only [bne_eq_false_iff_eq]
        omega
      clear za zb zs hd5 hd1
      go_wp2_with fail
      refine (prefix_any (lv a k) a (by omega) (by omega) (lv_prefix a k) _).mono ?_
      rintro e w3 ⟨rfl, hd⟩
      go_wp2_with fail
      refine (prefix_any (lv b k) b (by omega) (by omega) (lv_prefix b k) _).mono ?_
      rintro e w4 ⟨rfl, hd'⟩
      have HD4 := (HD.trans hd).trans hd'
      clear hd hd'
      go_wp2
      go_round
      case rel => exact ⟨k + 1, (sufS k).size, by omega, by go_num, rfl, suf_mono k, HD4⟩
      case measure => simp [intOf]; omega
    · go_wp2
      go_ret
      exact ⟨rfl, HB.out.trans (HD.below.mono HB.out.size)⟩

/-- FnLevelsSuffixIndependentOfName returns true, whatever it is handed. -/
theorem law_suffix (a b : ByteArray) (n : Int) (ha : a.size ≤ 9223372036854775807) (hb : b.size ≤ 9223372036854775807) (w : World) (ht : Tab w) :
    Calls Tryd.prog 4 #[.string a, .string b, .int .i64 n] w fun e w' => e = .returned (.bool true) ∧ Below w.heap.size w w' := by
  by_cases h1 : a.size ≤ 4096 ∧ b.size ≤ 4096 ∧ 0 ≤ n ∧ n ≤ 65536
  · obtain ⟨h1, h2, h3, h4⟩ := h1
    by_cases h5 : n * ((a.size : Int) + b.size + 24) ≤ 16777216
    · obtain ⟨m, rfl⟩ := Int.eq_ofNat_of_zero_le h3
      exact suffix_in a b m h1 h2 (by omega) h5 (Int.mul_nonneg (by omega) (by omega)) w ht
    · exact suffix_out a b n ha hb (.inr (.inr ⟨h1, h2, .inr (.inr ⟨h3, h4, by omega⟩)⟩)) w
  · exact suffix_out a b n ha hb (by omega) w
end Go.Proofs.Qxb6617929aDoor
