/-
  AN ARGUMENT OF TYPE [4]uint64, OPENED: it is the four words of a number A below 2^256; and shut again, in whatever world.
-/
import Derived.Test.Qxb6617384aBits
import Derived.Test.Qxb6617384aEq
import Derived.ProofKit
import Derived.Laws.IdiomArrays
namespace Go.Proofs.Qxb6617384a
open Go.ChangeShapes Go.WideShapes Go.ChangeAt Go.RowKit Plain

theorem own : ownKnob Try.prog.godebug = none := by kernel_rfl
theorem Try.cells23 : Try.prog.cellsOf 23 = 4 := by kernel_rfl

theorem list4 {α : Type} (l : List α) (h : (⟨l⟩ : Array α).size = 4) : ∃ a b c d, l = [a, b, c, d] := by
  match l, h with
  | [a, b, c, d], _ => exact ⟨a, b, c, d, rfl⟩

theorem word_of_wf {x : Int} (h : (Lit.int .u64 x).wf = true) : 0 ≤ x ∧ x < 18446744073709551616 := by
  simp [Lit.wf, IntKind.min, IntKind.max, IntKind.signed, IntKind.bits] at h
  exact ⟨by omega, by omega⟩
theorem wf_of_word {x : Int} (h0 : 0 ≤ x) (h : x < 18446744073709551616) : (Lit.int .u64 x).wf = true := by
  simp [Lit.wf, IntKind.min, IntKind.max, IntKind.signed, IntKind.bits]
  exact ⟨by omega, by omega⟩

/-- Four words are the words of one number. -/
theorem words_of (x0 x1 x2 x3 : Int) (h0 : 0 ≤ x0 ∧ x0 < 18446744073709551616) (h1 : 0 ≤ x1 ∧ x1 < 18446744073709551616) (h2 : 0 ≤ x2 ∧ x2 < 18446744073709551616) (h3 : 0 ≤ x3 ∧ x3 < 18446744073709551616) :
    ∃ A : Nat, A < 2 ^ 256 ∧ x0 = lm A 0 ∧ x1 = lm A 1 ∧ x2 = lm A 2 ∧ x3 = lm A 3 := by
  obtain ⟨a0, rfl⟩ := Int.eq_ofNat_of_zero_le h0.1
  obtain ⟨a1, rfl⟩ := Int.eq_ofNat_of_zero_le h1.1
  obtain ⟨a2, rfl⟩ := Int.eq_ofNat_of_zero_le h2.1
  obtain ⟨a3, rfl⟩ := Int.eq_ofNat_of_zero_le h3.1
  have l := limb_val a0 a1 a2 a3 (by omega) (by omega) (by omega) (by omega)
  refine ⟨val a0 a1 a2 a3, val_lt a0 a1 a2 a3 (by omega) (by omega) (by omega) (by omega), ?_, ?_, ?_, ?_⟩ <;> unfold lm
  · rw [l.1]
  · rw [l.2.1]
  · rw [l.2.2.1]
  · rw [l.2.2.2]

theorem open_words {H : Type} {enc : TypeId × Value → H} {W : World} {base : Nat} {v : Value} {d : DataW H} {ps : List MemPlace}
    (hv : Value.okWide Try.prog W .any base 23 v) (h : DataW.Trod enc Try.prog W 0 (fun _ => true) true 23 v d ps) :
    ∃ A : Nat, A < 2 ^ 256 ∧ v = .agg #[.int .u64 (lm A 0), .int .u64 (lm A 1), .int .u64 (lm A 2), .int .u64 (lm A 3)] ∧ d = .agg [.lit (.int .u64 (lm A 0)), .lit (.int .u64 (lm A 1)), .lit (.int .u64 (lm A 2)), .lit (.int .u64 (lm A 3))] ∧ ps = [] ∧
      ∀ (W' : World) (sp : Nat → Bool), DataW.Trod enc Try.prog W' 0 sp true 23 (.agg #[.int .u64 (lm A 0), .int .u64 (lm A 1), .int .u64 (lm A 2), .int .u64 (lm A 3)]) (.agg [.lit (.int .u64 (lm A 0)), .lit (.int .u64 (lm A 1)), .lit (.int .u64 (lm A 2)), .lit (.int .u64 (lm A 3))]) [] := by
  obtain ⟨cs, rfl, hsz, _⟩ : ∃ cs, v = .agg cs ∧ cs.size = Try.prog.cellsOf 23 ∧ Row.okWide Try.prog W .any base 23 cs := by
    simpa [Value.okWide, Try.underlying23] using hv
  rw [Try.cells23] at hsz
  obtain ⟨l⟩ := cs
  obtain ⟨c0, c1, c2, c3, rfl⟩ := list4 l hsz
  obtain ⟨fuel, hf⟩ := h
  obtain ⟨y0, y1, y2, y3, m, hx, hy0, hy1, hy2, hy3⟩ := trod_array4 Try.underlying23 Try.cells22 hf
  obtain ⟨x0, e0, rfl, w0⟩ := DataW.trod_int Try.underlying22 hy0
  obtain ⟨x1, e1, rfl, w1⟩ := DataW.trod_int Try.underlying22 hy1
  obtain ⟨x2, e2, rfl, w2⟩ := DataW.trod_int Try.underlying22 hy2
  obtain ⟨x3, e3, rfl, w3⟩ := DataW.trod_int Try.underlying22 hy3
  simp at e0 e1 e2 e3
  subst e0 e1 e2 e3
  simp only [Prod.mk.injEq] at hx
  obtain ⟨rfl, rfl⟩ := hx
  obtain ⟨A, hA, rfl, rfl, rfl, rfl⟩ := words_of x0 x1 x2 x3 (word_of_wf w0) (word_of_wf w1) (word_of_wf w2) (word_of_wf w3)
  exact ⟨A, hA, rfl, rfl, rfl, fun W' sp => ⟨2, by simp [DataW.trod, Value.cells, Try.underlying23, Try.underlying22, Try.cells23, Try.cells22, w0, w1, w2, w3, show List.range 4 = [0, 1, 2, 3] from rfl]⟩⟩
end Go.Proofs.Qxb6617384a
