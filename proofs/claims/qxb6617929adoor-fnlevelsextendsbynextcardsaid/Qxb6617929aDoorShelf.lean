/-
  strconv.Itoa AT THIS DUMP: the library's contract (Any.strconv_Itoa, proved once over any program), laid in plain words by the guide's own tool; its table said of the world's block 0.
-/
import Derived.Shelf.LaysM
import Derived.Shelf.Strconv.Itoa3
import Derived.Test.Qxb6617929aDoorProg
import Derived.Below
namespace Go.Proofs
open Go.Shelf
def Tryd.laysM171_ren : Go.Shelf.Ren := ⟨fun | 171 => 11 | 243 => 12 | 246 => 13 | 283 => 14 | 284 => 15 | 285 => 16 | 286 => 17 | 129 => 19 | 317 => 18 | 318 => 20 | 319 => 21 | 320 => 22 | 337 => 23 | 338 => 24 | n => n, fun | 3 => 3 | 9 => 9 | 2 => 2 | 4 => 4 | 171 => 31 | 0 => 0 | 53 => 32 | 37 => 35 | 5 => 5 | 173 => 36 | 212 => 40 | 51 => 41 | 20 => 20 | 213 => 42 | 46 => 44 | 232 => 47 | 233 => 48 | n => n, fun | 17 => 0 | 18 => 1 | 19 => 2 | n => n⟩
theorem Tryd.laysM171 : Go.Proofs.LaysM.n171 Tryd.prog Tryd.laysM171_ren := {
  mixed := by kernel_rfl
  f129 := Tryd.func19.trans (congrArg some (by kernel_rfl))
  f171 := Tryd.func11.trans (congrArg some (by kernel_rfl))
  f243 := Tryd.func12.trans (congrArg some (by kernel_rfl))
  f246 := Tryd.func13.trans (congrArg some (by kernel_rfl))
  f283 := Tryd.func14.trans (congrArg some (by kernel_rfl))
  f284 := Tryd.func15.trans (congrArg some (by kernel_rfl))
  f285 := Tryd.func16.trans (congrArg some (by kernel_rfl))
  f286 := Tryd.func17.trans (congrArg some (by kernel_rfl))
  f317 := Tryd.func18.trans (congrArg some (by kernel_rfl))
  f318 := Tryd.func20.trans (congrArg some (by kernel_rfl))
  f319 := Tryd.func21.trans (congrArg some (by kernel_rfl))
  f320 := Tryd.func22.trans (congrArg some (by kernel_rfl))
  f337 := Tryd.func23.trans (congrArg some (by kernel_rfl))
  f338 := Tryd.func24.trans (congrArg some (by kernel_rfl))
  t0 := Tryd.underlying0
  a0 := Tryd.isAgg0
  z0 := Tryd.sizeOf0
  v0 := Tryd.zeroValue0
  t2 := Tryd.underlying2
  a2 := Tryd.isAgg2
  z2 := Tryd.sizeOf2
  v2 := Tryd.zeroValue2
  t3 := Tryd.underlying3
  a3 := Tryd.isAgg3
  z3 := Tryd.sizeOf3
  v3 := Tryd.zeroValue3
  t4 := Tryd.underlying4
  a4 := Tryd.isAgg4
  z4 := Tryd.sizeOf4
  v4 := Tryd.zeroValue4
  t5 := Tryd.underlying5
  a5 := Tryd.isAgg5
  z5 := Tryd.sizeOf5
  v5 := Tryd.zeroValue5
  t9 := Tryd.underlying9
  a9 := Tryd.isAgg9
  z9 := Tryd.sizeOf9
  v9 := Tryd.zeroValue9
  t20 := Tryd.underlying20
  a20 := Tryd.isAgg20
  z20 := Tryd.sizeOf20
  v20 := Tryd.zeroValue20
  t37 := Tryd.underlying35
  a37 := Tryd.isAgg35
  z37 := Tryd.sizeOf35
  v37 := Tryd.zeroValue35
  t46 := Tryd.underlying44
  a46 := Tryd.isAgg44
  z46 := Tryd.sizeOf44
  v46 := Tryd.zeroValue44
  t51 := Tryd.underlying41
  a51 := Tryd.isAgg41
  z51 := Tryd.sizeOf41
  v51 := Tryd.zeroValue41
  t53 := Tryd.underlying32
  a53 := Tryd.isAgg32
  z53 := Tryd.sizeOf32
  v53 := Tryd.zeroValue32
  t171 := Tryd.underlying31
  a171 := Tryd.isAgg31
  z171 := Tryd.sizeOf31
  v171 := Tryd.zeroValue31
  t173 := Tryd.underlying36
  a173 := Tryd.isAgg36
  z173 := Tryd.sizeOf36
  v173 := Tryd.zeroValue36
  t212 := Tryd.underlying40
  a212 := Tryd.isAgg40
  z212 := Tryd.sizeOf40
  v212 := Tryd.zeroValue40
  t213 := Tryd.underlying42
  a213 := Tryd.isAgg42
  z213 := Tryd.sizeOf42
  t232 := Tryd.underlying47
  a232 := Tryd.isAgg47
  z232 := Tryd.sizeOf47
  v232 := Tryd.zeroValue47
  t233 := Tryd.underlying48
  a233 := Tryd.isAgg48
  z233 := Tryd.sizeOf48
  v233 := Tryd.zeroValue48
  g17 := by kernel_rfl
  g18 := by kernel_rfl
  g19 := by kernel_rfl
  i0 := by kernel_rfl
  i2 := by kernel_rfl
  i3 := by kernel_rfl
  i4 := by kernel_rfl
  i5 := by kernel_rfl
  i9 := by kernel_rfl
  i20 := by kernel_rfl
  i37 := by kernel_rfl
  i46 := by kernel_rfl
  i51 := by kernel_rfl
  i53 := by kernel_rfl
  i171 := by kernel_rfl
  i173 := by kernel_rfl
  i212 := by kernel_rfl
  i232 := by kernel_rfl
  i233 := by kernel_rfl
  m17 := by kernel_rfl
  m18 := by kernel_rfl
  m19 := by kernel_rfl }
end Go.Proofs
namespace Go.Proofs.Qxb6617929aDoor
open Go.RowKit Go.Sort

/-- The table of powers of ten lies in block 0 (the package-level variable internal.strconv.uint64pow10). -/
def Tab (w : World) : Prop := (match w.heap[0]? with | some (Obj.cells cs _ _) => some cs | _ => none) = some (Lib.pow10Tab.map fun z => Value.int .u64 z).toArray
theorem Tab.pos {w : World} (h : Tab w) : 0 < w.heap.size := by
  unfold Tab at h
  rcases Nat.eq_zero_or_pos w.heap.size with h0 | h0
  · have : w.heap[0]? = none := Array.getElem?_eq_none (by omega)
    rw [this] at h
    cases h
  · exact h0
theorem Tab.below {w w' : World} {B : Nat} (h : Tab w) (hb : Below B w w') (hB : 0 < B) : Tab w' := by
  unfold Tab at h ⊢
  rw [hb.block 0 hB]
  exact h

theorem below_grow (w : World) (k : Nat) (os : Array Obj) : Below w.heap.size w (grow (w.drewN k) os) :=
  ⟨rfl, rfl, rfl, by show w.heap.size ≤ (w.heap ++ os).size; simp, fun i hi => by show (w.heap ++ os)[i]? = _; rw [Array.getElem?_append_left hi]⟩

/-- strconv.Itoa. -/
theorem itoa_any (n : Int) (h0 : -9223372036854775808 ≤ n) (h1 : n ≤ 9223372036854775807) (w : World) (ht : Tab w) :
    Calls Tryd.prog 11 #[.int .i64 n] w fun e w' => e = .returned (.string ⟨(Lib.itoa n).toArray⟩) ∧ Below w.heap.size w w' := by
  refine (Any.strconv_Itoa Tryd.laysM171 n h0 h1 w ?_).mono ?_
  · unfold Lib.TabIs World.var?
    rw [show Tryd.prog.globalNamed _ = some 0 from by kernel_rfl]
    exact ht
  · rintro e w' ⟨rfl, k, os, rfl⟩
    exact ⟨rfl, below_grow w k os⟩
#print axioms itoa_any
end Go.Proofs.Qxb6617929aDoor
