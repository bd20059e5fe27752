/-
  'Rows.FnUpperCasePairSaid', PROVED: the seat's shell, its hole filled.
-/
import Derived.Test.Qxb6617929aRows
import Derived.Test.Qxb6617929aUpper
import Derived.WalkKit
import Derived.ProofKit
import Derived.OpenShut
import Derived.ShutString
namespace Go.Proofs.Qxb6617929a.fnUpperCasePair
open Go.ChangeShapes Go.WideShapes Go.ChangeAt Go.RowKit
open Go.ChangeMaps (open_string shut_string)
set_option linter.unusedVariables false      -- a walk need not use every 'w<i>' (that an integer argument fits its kind)

theorem own : ownKnob Try.prog.godebug = none := by kernel_rfl

/-! ### STEP 1: THE WALK: the Go text returns true. 'Grown w w'': the world has at most new blocks (Derived/RowKit3.lean). Part the cases AHEAD of 'go_enter' where a test parts the walk; take each callee by a contract of your own. -/
theorem walk (a0 : Int) (w0 : (Lit.int .u8 a0).wf = true) (w : World) :
    Calls Try.prog 3 #[.int .u8 a0] w fun e w' => e = .returned (.bool true) ∧ Grown w w' := by
  obtain ⟨b0, b1⟩ := byte_of_wf w0
  obtain ⟨c, rfl⟩ := Int.eq_ofNat_of_zero_le b0
  obtain ⟨p1, p2, p3⟩ := pair_law c (by omega)
  have eo : bits .or .u8 (c : Int) 32 = ((c ||| 32 : Nat) : Int) := by simpa using u8_or_nat c 32 (by omega) (by decide)
  have ex : bits .xor .u8 (c : Int) 32 = ((c ^^^ 32 : Nat) : Int) := by simpa using u8_xor_nat c 32 (by omega) (by decide)
  have en : bits .andNot .u8 (c : Int) 32 = ((c &&& 223 : Nat) : Int) := by simpa using u8_andNot_nat c 32 (by omega) (by decide)
  have lo : c ||| 32 < 2 ^ 8 := Nat.or_lt_two_pow (by omega) (by decide)
  have lx : c ^^^ 32 < 2 ^ 8 := Nat.xor_lt_two_pow (by omega) (by decide)
  have bo0 : 0 ≤ bits .or .u8 (c : Int) 32 := by rw [eo]; omega
  have bo1 : bits .or .u8 (c : Int) 32 ≤ 255 := by rw [eo]; omega
  have bx0 : 0 ≤ bits .xor .u8 (c : Int) 32 := by rw [ex]; omega
  have bx1 : bits .xor .u8 (c : Int) 32 ≤ 255 := by rw [ex]; omega
  have e1 : (up c == up (bits .xor .u8 (c : Int) 32)) = low (bits .or .u8 (c : Int) 32) := by
    rw [eo, ex]
    unfold up low
    simp only [Int.toNat_natCast]
    rw [← p1, Bool.eq_iff_iff]
    simp only [beq_iff_eq]
    omega
  by_cases hl : low (bits .or .u8 (c : Int) 32) = true
  · have e2 : (up c == bits .andNot .u8 (c : Int) 32) = true := by
      rw [en]
      unfold up
      simp only [Int.toNat_natCast]
      rw [p2 (by rw [eo] at hl; simpa [low] using hl)]
      simp
    rw [hl] at e1
    clear eo ex en p1 p2 p3 lo lx
    go_enter Try.func3, Try.ntmps3
    go_wp2_with fail
    refine (low_any _ bo0 bo1 _).mono ?_
    rintro e w' ⟨rfl, rfl⟩
    go_wp2_with fail
    refine (zzupper_any _ b0 b1 _).mono ?_
    rintro e w' ⟨rfl, rfl⟩
    go_wp2_with fail
    refine (zzupper_any _ bx0 bx1 _).mono ?_
    rintro e w' ⟨rfl, rfl⟩
    go_wp2
    go_ret
    exact ⟨by simp, Grown.refl _⟩
  · have hl' : low (bits .or .u8 (c : Int) 32) = false := by simpa using hl
    have e2 : (up c == c) = true := by
      unfold up
      simp only [Int.toNat_natCast]
      rw [p3 (by rw [eo] at hl'; simpa [low] using hl')]
      simp
    rw [hl'] at e1
    clear eo ex en p1 p2 p3 lo lx hl
    go_enter Try.func3, Try.ntmps3
    go_wp2_with fail
    refine (low_any _ bo0 bo1 _).mono ?_
    rintro e w' ⟨rfl, rfl⟩
    go_wp2_with fail
    refine (zzupper_any _ b0 b1 _).mono ?_
    rintro e w' ⟨rfl, rfl⟩
    go_wp2_with fail
    refine (zzupper_any _ bx0 bx1 _).mono ?_
    rintro e w' ⟨rfl, rfl⟩
    go_wp2
    go_ret
    exact ⟨by simp, Grown.refl _⟩

/-! ### THE ROW's STEP: WRITTEN OUT: LEAVE IT -/
set_option maxRecDepth 100000 in
theorem lifted (os : Os) (started : os.Started) (H : Type) (enc : TypeId × Value → H) :
    ReturnsInHanded {} Try.checked os 3 .any (Rows.fnUpperCasePairSpec.pre6 enc Try.prog Try.f3 Rows.fnUpperCasePairRow.domain false) (Rows.fnUpperCasePairSpec.post enc Try.prog Try.f3 false true false false) := by
  refine returnsInHanded_of_change (C := Try.checked) own started (by kernel_rfl) Try.func3
    (ChangeSpec.witness6 (enc := enc) (C := Try.checked) false ⟨#[], #[.int .u8 0], []⟩ 8 (by kernel_rfl) (by kernel_rfl) (by kernel_rfl) (by kernel_rfl)) ?_
  intro W base args ds gs before hval0 hW hcnd _
  have hval : ∀ (j : Nat) t v, Try.f3.params[j]? = some t → args[j]? = some v → Value.okWide Try.prog W .any base t v := hval0
  have hW' := hW
  obtain ⟨p, q, hA0, hV, rfl, hfz, hnd⟩ := hW
  have hA : DataW.TrodAll enc Try.prog W 0 (fun _ => true) true Try.f3.params.toList args.toList ds p := hA0
  rw [Try.params3] at hA hval
  obtain ⟨v0, vs0, d0, ds0, p0, q0, hargs, rfl, rfl, h0, r0⟩ := trodAll_cons hA
  obtain ⟨rfl, rfl, rfl⟩ := trodAll_nil r0
  obtain rfl : args = #[v0] := by cases args; simp_all
  obtain ⟨rfl, rfl⟩ := trodVars_none hV
  obtain ⟨a0, rfl, rfl, rfl, w0⟩ := open_int Try.underlying5 (hval 0 5 v0 rfl rfl) h0
  clear hA0 hval0
  simp only [List.append_nil] at hW'
  refine (walk a0 w0 W).mono fun e W' ⟨he, hg⟩ => ?_
  subst he
  exact ⟨_, rfl, post_of_same (pa := []) (pv := []) hW' (fun _ _ _ => (trodAll_cons_mk (shut_bool Try.underlying4 _) trodAll_mk0)) (fun sp _ => (trodAll_cons_mk (shut_int Try.underlying5 w0) trodAll_mk0)) (fun _ _ => rfl) rfl
    (hg.frame _) hg.2.1 (ok_one (by kernel_rfl) rfl (okWide_bool_mk Try.underlying4 _))⟩

theorem over : Rows.fnUpperCasePairRow.holds Try.pinned (OpenSpec.ofChange Rows.fnUpperCasePairSpec) :=
  OpenClaim.holds_of_wide 3 Try.f3 rfl rfl rfl rfl rfl rfl rfl ⟨rfl, rfl, rfl, rfl, rfl⟩ rfl rfl rfl rfl rfl (by kernel_rfl) Try.func3 (by kernel_rfl)
    (of_decide_eq_true (by kernel_rfl)) (by unfold Func.isWrapper; first | (rw [if_pos (by decide +kernel)]; kernel_rfl) | (rw [if_neg (by decide +kernel)]; exact ⟨rfl, rfl⟩))
    (fun os started H enc _ => lifted os started H enc)

/-- ████ THE STATEMENT ████ -/
theorem proved : Rows.FnUpperCasePairSaid :=
  over
#print axioms proved
end Go.Proofs.Qxb6617929a.fnUpperCasePair
