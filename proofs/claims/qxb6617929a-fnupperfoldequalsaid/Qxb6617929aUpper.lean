/-
  THE PLAIN LAW OF upper, AND THE WALKS OF isLowerLetter, upper AND ZZupper, over the seat's dump.
-/
import Derived.Test.Qxb6617929aRows
import Derived.WalkKit
import Derived.WalkSpells
import Derived.RowKit3
namespace Go.Proofs.Qxb6617929a
open Go.RowKit
set_option linter.unusedVariables false

/-! ### The plain law -/
/-- c is one of 'a' to 'z'. -/
def lowN (c : Nat) : Bool := decide (97 ≤ c) && decide (c ≤ 122)
/-- The upper case of c. -/
def upN (c : Nat) : Nat := bif lowN c then c - 32 else c
/-- x and y are one byte, or the two cases of one letter. -/
def foldN (x y : Nat) : Bool := (x == y) || ((x ^^^ y == 32) && lowN (x ||| 32))
theorem pair_all : ((List.range 256).all fun c => ((upN c == upN (c ^^^ 32)) == lowN (c ||| 32)) && (bif lowN (c ||| 32) then upN c == c &&& (255 - 32) else upN c == c)) = true := by decide +kernel
theorem fold_all : ((List.range 256).all fun x => (List.range 256).all fun y => (upN x == upN y) == foldN x y) = true := by decide +kernel
theorem pair_law (c : Nat) (h : c < 256) : (upN c == upN (c ^^^ 32)) = lowN (c ||| 32) ∧ (lowN (c ||| 32) = true → upN c = c &&& 223) ∧ (lowN (c ||| 32) = false → upN c = c) := by
  have := (List.all_eq_true.1 pair_all) c (List.mem_range.2 h)
  rw [Bool.and_eq_true] at this
  obtain ⟨h1, h2⟩ := this
  refine ⟨by simpa using h1, fun h3 => ?_, fun h3 => ?_⟩
  · rw [h3] at h2; simpa using h2
  · rw [h3] at h2; simpa using h2
theorem fold_law (x y : Nat) (hx : x < 256) (hy : y < 256) : (upN x == upN y) = foldN x y := by
  have := (List.all_eq_true.1 ((List.all_eq_true.1 fold_all) x (List.mem_range.2 hx))) y (List.mem_range.2 hy)
  simpa using this

/-! ### As the walk carries it -/
def low (c : Int) : Bool := lowN c.toNat
def up (c : Int) : Int := (upN c.toNat : Nat)
theorem byte_of_wf {x : Int} (h : (Lit.int .u8 x).wf = true) : 0 ≤ x ∧ x ≤ 255 := by
  simp [Lit.wf, IntKind.min, IntKind.max, IntKind.signed, IntKind.bits] at h
  exact ⟨by omega, by omega⟩

theorem low_true {c : Int} (h1 : 97 ≤ c) (h2 : c ≤ 122) : low c = true := by
  unfold low lowN; simp; omega
theorem low_false {c : Int} (h : c < 97 ∨ 122 < c) : low c = false := by
  unfold low lowN; simp; omega
theorem up_low {c : Int} (h1 : 97 ≤ c) (h2 : c ≤ 122) : up c = c - 32 := by
  have := low_true h1 h2
  unfold up upN
  unfold low at this
  rw [this]; simp only [cond_true]; omega
theorem up_other {c : Int} (h0 : 0 ≤ c) (h : c < 97 ∨ 122 < c) : up c = c := by
  have := low_false h
  unfold up upN
  unfold low at this
  rw [this]; simp only [cond_false]; omega

theorem ret_int {k : IntKind} {a b : Int} (h : a = b) : Ending.returned (.int k a) = .returned (.int k b) := by rw [h]
theorem ret_bool {a b : Bool} (h : a = b) : Ending.returned (.bool a) = .returned (.bool b) := by rw [h]

/-- isLowerLetter. -/
theorem low_any (c : Int) (h0 : 0 ≤ c) (h1 : c ≤ 255) (w : World) : Calls Try.prog 6 #[.int .u8 c] w fun e w' => e = .returned (.bool (low c)) ∧ w' = w := by
  by_cases ha : 97 ≤ c
  · by_cases hb : c ≤ 122
    · have H : Hid (low c = true) := low_true ha hb
      go_enter Try.func6, Try.ntmps6
      go_wp2
      go_ret
      exact ⟨ret_bool (by rw [H.out]), rfl⟩
    · have H : Hid (low c = false) := low_false (by omega)
      go_enter Try.func6, Try.ntmps6
      go_wp2
      go_ret
      exact ⟨ret_bool (by rw [H.out]), rfl⟩
  · have H : Hid (low c = false) := low_false (by omega)
    go_enter Try.func6, Try.ntmps6
    go_wp2
    go_ret
    exact ⟨ret_bool (by rw [H.out]), rfl⟩

/-- upper. -/
theorem upper_any (c : Int) (h0 : 0 ≤ c) (h1 : c ≤ 255) (w : World) : Calls Try.prog 12 #[.int .u8 c] w fun e w' => e = .returned (.int .u8 (up c)) ∧ w' = w := by
  by_cases ha : 97 ≤ c
  · by_cases hb : c ≤ 122
    · have H : Hid (up c = c - 32) := up_low ha hb
      go_enter Try.func12, Try.ntmps12
      go_wp2
      go_ret
      exact ⟨ret_int (by rw [H.out]; omega), rfl⟩
    · have H : Hid (up c = c) := up_other h0 (by omega)
      go_enter Try.func12, Try.ntmps12
      go_wp2
      go_ret
      exact ⟨ret_int H.out.symm, rfl⟩
  · have H : Hid (up c = c) := up_other h0 (by omega)
    go_enter Try.func12, Try.ntmps12
    go_wp2
    go_ret
    exact ⟨ret_int H.out.symm, rfl⟩

/-- ZZupper. -/
theorem zzupper_any (c : Int) (h0 : 0 ≤ c) (h1 : c ≤ 255) (w : World) : Calls Try.prog 7 #[.int .u8 c] w fun e w' => e = .returned (.int .u8 (up c)) ∧ w' = w := by
  go_enter Try.func7, Try.ntmps7
  go_wp2_with (go_at_call 12; refine (upper_any c h0 h1 _).mono ?_; rintro e w' ⟨rfl, rfl⟩)
  go_ret
  exact ⟨rfl, rfl⟩
end Go.Proofs.Qxb6617929a
