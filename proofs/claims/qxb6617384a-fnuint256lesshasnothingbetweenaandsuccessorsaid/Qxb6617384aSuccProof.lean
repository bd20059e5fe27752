/-
  THE ROW 'Rows.FnUint256LessHasNothingBetweenAAndSuccessorSaid', PROVED.
-/
import Derived.Test.Qxb6617384aSucc
import Derived.Test.Qxb6617384aOpen
namespace Go.Proofs.Qxb6617384a
open Go.ChangeShapes Go.WideShapes Go.ChangeAt Go.RowKit Plain

set_option maxHeartbeats 400000 in
set_option maxRecDepth 100000 in
theorem succ_lifted (os : Os) (started : os.Started) (H : Type) (enc : TypeId × Value → H) :
    ReturnsInHanded {} Try.checked os 4 .any (Rows.fnUint256LessHasNothingBetweenAAndSuccessorSpec.pre6 enc Try.prog Try.f4 Rows.fnUint256LessHasNothingBetweenAAndSuccessorRow.domain false) (Rows.fnUint256LessHasNothingBetweenAAndSuccessorSpec.post enc Try.prog Try.f4 false true false false) := by
  refine returnsInHanded_of_change (C := Try.checked) own started (by kernel_rfl) Try.func4
    (ChangeSpec.witness6 (enc := enc) (C := Try.checked) false ⟨#[], #[.agg #[.int .u64 0, .int .u64 0, .int .u64 0, .int .u64 0], .agg #[.int .u64 0, .int .u64 0, .int .u64 0, .int .u64 0]], []⟩ 8 (by kernel_rfl) (by kernel_rfl) (by kernel_rfl) (by kernel_rfl)) ?_
  intro W base args ds gs before hval0 hW hcnd _
  have hval : ∀ (j : Nat) t v, Try.f4.params[j]? = some t → args[j]? = some v → Value.okWide Try.prog W .any base t v := hval0
  have hW' := hW
  obtain ⟨p, q, hA0, hV, rfl, hfz, hnd⟩ := hW
  have hA : DataW.TrodAll enc Try.prog W 0 (fun _ => true) true Try.f4.params.toList args.toList ds p := hA0
  rw [Try.params4] at hA hval
  obtain ⟨v0, v1, d0, d1, p0, p1, rfl, rfl, rfl, h0, h1⟩ := trodAll_two hA
  obtain ⟨rfl, rfl⟩ := trodVars_none hV
  obtain ⟨A, hA256, rfl, rfl, rfl, sh⟩ := open_words (hval 0 23 v0 rfl rfl) h0
  obtain ⟨B, hB256, rfl, rfl, rfl, sh2⟩ := open_words (hval 1 23 v1 rfl rfl) h1
  clear hA0 hval0
  simp only [List.append_nil] at hW'
  refine (law_succ A B hA256 hB256 W).mono fun e W' ⟨he, bel⟩ => ?_
  subst he
  exact ⟨_, rfl, _, _, _, [], [], [], hW', trodAll_mk1 (shut_bool Try.underlying4 _), trodAll_mk2 (sh W' _) (sh2 W' _), rfl, bel.frame _, fun h => by cases h⟩

/-- ████ THE STATEMENT ████ -/
theorem succ_holds : Rows.FnUint256LessHasNothingBetweenAAndSuccessorSaid :=
  OpenClaim.holds_of_wide 4 Try.f4 rfl rfl rfl rfl rfl rfl rfl ⟨rfl, rfl, rfl, rfl, rfl⟩ rfl rfl rfl rfl rfl (by kernel_rfl) Try.func4 (by kernel_rfl)
    (of_decide_eq_true (by kernel_rfl)) (by unfold Func.isWrapper; first | (rw [if_pos (by decide +kernel)]; kernel_rfl) | (rw [if_neg (by decide +kernel)]; exact ⟨rfl, rfl⟩))
    (fun os started H enc _ => succ_lifted os started H enc)
#print axioms succ_holds
end Go.Proofs.Qxb6617384a
