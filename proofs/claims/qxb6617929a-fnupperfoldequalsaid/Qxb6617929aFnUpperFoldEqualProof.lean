/-
  'Rows.FnUpperFoldEqualSaid', PROVED: the seat's shell, its hole filled.
-/
import Derived.Test.Qxb6617929aRows
import Derived.Test.Qxb6617929aUpper
import Derived.Deep.QuietTactic
import Derived.BigQuiet
import Derived.WalkKit
import Derived.ProofKit
import Derived.OpenShut
import Derived.ShutString
import Derived.ChangeOld
import Derived.Below
namespace Go.Proofs.Qxb6617929a.fnUpperFoldEqual
open Go.ChangeShapes Go.WideShapes Go.ChangeAt Go.RowKit
open Go.ChangeMaps (open_string shut_string)
set_option linter.unusedVariables false

theorem own : ownKnob Try.prog.godebug = none := by kernel_rfl
theorem laidOut : laidOutB Try.prog = true := by kernel_rfl

/-- WHAT THE WALK IS TOLD OF A SLICE OF INTEGERS THAT CAME IN: it is nil; or it leads to a row of 'cap' cells, the numbers 'zs' (the first 'len' are its elements, the rest its spare room), each fitting its kind. -/
def IsRow (k : IntKind) (w : World) (a : Option Addr) (len cap : Nat) (zs : List Int) : Prop :=
  (a = none ∧ len = 0 ∧ cap = 0 ∧ zs = []) ∨
  ∃ x, a = some x ∧ len ≤ cap ∧ cap ≤ maxLen ∧ zs.length = cap ∧ (∀ i, i < zs.length → w.cell? (x.add i) = some (.int k (zs.getD i 0))) ∧ ∀ n ∈ zs, (Lit.int k n).wf = true

/-! ### The plain law, as the walk carries it -/
/-- x and y are one byte, or the two cases of one letter. -/
def fo (x y : Int) : Bool := foldN x.toNat y.toNat
theorem up_fo (x y : Int) (x0 : 0 ≤ x) (x1 : x ≤ 255) (y0 : 0 ≤ y) (y1 : y ≤ 255) : up x = up y ↔ fo x y = true := by
  have h := fold_law x.toNat y.toNat (by omega) (by omega)
  unfold fo up
  rw [← h, beq_iff_eq]
  omega
theorem or_lo (x : Int) (x0 : 0 ≤ x) (x1 : x ≤ 255) : 0 ≤ bits .or .u8 x 32 := by
  rw [u8_or x 32 x0 (by omega) (by decide) (by decide)]; omega
theorem or_hi (x : Int) (x0 : 0 ≤ x) (x1 : x ≤ 255) : bits .or .u8 x 32 ≤ 255 := by
  rw [u8_or x 32 x0 (by omega) (by decide) (by decide)]
  have : x.toNat ||| (32 : Int).toNat < 2 ^ 8 := Nat.or_lt_two_pow (by omega) (by decide)
  omega
/-- The three tests of the second loop, and what they say of the pair. -/
theorem fo_cases (x y : Int) (x0 : 0 ≤ x) (x1 : x ≤ 255) (y0 : 0 ≤ y) (y1 : y ≤ 255) :
    ((x == y) = true → fo x y = true) ∧ ((bits .xor .u8 x y == 32) = true → low (bits .or .u8 x 32) = true → fo x y = true) ∧
    ((x == y) = false → low (bits .or .u8 x 32) = false → fo x y = false) ∧ ((x == y) = false → (bits .xor .u8 x y == 32) = false → fo x y = false) := by
  obtain ⟨x, rfl⟩ := Int.eq_ofNat_of_zero_le x0
  obtain ⟨y, rfl⟩ := Int.eq_ofNat_of_zero_le y0
  have ex := u8_xor_nat x y (by omega) (by omega)
  have eo : bits .or .u8 (x : Int) 32 = ((x ||| 32 : Nat) : Int) := by simpa using u8_or_nat x 32 (by omega) (by decide)
  rw [ex, eo]
  unfold fo low foldN
  simp only [Int.toNat_natCast]
  have e1 : ((x : Int) == (y : Int)) = (x == y) := by rw [Bool.eq_iff_iff]; simp only [beq_iff_eq]; omega
  have e2 : (((x ^^^ y : Nat) : Int) == 32) = (x ^^^ y == 32) := by rw [Bool.eq_iff_iff]; simp only [beq_iff_eq]; omega
  rw [e1, e2]
  refine ⟨fun a => by simp [a], fun a b => by simp [a, b], fun a b => by simp [a, b], fun a b => by simp [a, b]⟩
theorem snoc_true {p : Nat → Bool} {k : Nat} (h : ∀ j, j < k → p j = true) (hk : p k = true) : ∀ j, j < k + 1 → p j = true := by
  intro j hj
  by_cases e : j = k
  · subst e; exact hk
  · exact h j (by omega)
theorem snoc_prop {p : Nat → Prop} {k : Nat} (h : ∀ j, j < k → p j) (hk : p k) : ∀ j, j < k + 1 → p j := by
  intro j hj
  by_cases e : j = k
  · subst e; exact hk
  · exact h j (by omega)
/-- wr is w, some draws later. -/
def Drawn (w wr : World) : Prop := ∃ m, wr = w.drewN m
theorem Drawn.refl (w : World) : Drawn w w := ⟨0, rfl⟩
theorem Drawn.more {w wr : World} (h : Drawn w wr) (n : Nat) : Drawn w (wr.drewN n) := by
  obtain ⟨m, rfl⟩ := h; exact ⟨m + n, World.drewN_drewN _ _ _⟩
theorem Drawn.cell {w wr : World} (h : Drawn w wr) {a : Addr} : wr.cell? a = w.cell? a := by
  obtain ⟨m, rfl⟩ := h; rfl
theorem Drawn.below {w wr : World} (h : Drawn w wr) : Below w.heap.size w wr := by
  obtain ⟨m, rfl⟩ := h; exact ⟨rfl, rfl, rfl, Nat.le_refl _, fun _ _ => rfl⟩
theorem drewN_below (w : World) (n : Nat) : Below w.heap.size w (w.drewN n) := ⟨rfl, rfl, rfl, Nat.le_refl _, fun _ _ => rfl⟩

/-! ### zzBytes_FnUpperFoldEqual: the bound on the lengths -/
def zb (l m : Nat) : Bool := decide (l ≤ 1048576) && decide (m ≤ 1048576) && decide (l + m ≤ 1048576)
theorem zb_yes {l m : Nat} (h1 : l ≤ 1048576) (h2 : m ≤ 1048576) (h3 : l + m ≤ 1048576) : zb l m = true := by unfold zb; simp only [h1, h2, h3, decide_true, Bool.and_self]
theorem zb_no {l m : Nat} (h : ¬ (l ≤ 1048576 ∧ m ≤ 1048576 ∧ l + m ≤ 1048576)) : zb l m = false := by
  unfold zb
  rw [Bool.eq_false_iff]
  intro hc
  simp only [Bool.and_eq_true, decide_eq_true_eq] at hc
  omega
set_option maxHeartbeats 400000 in
theorem zb_any (a0 a1 : Option Addr) (l c m d : Nat) (hl : l ≤ maxLen) (hm : m ≤ maxLen) (w : World) :
    Calls Try.prog 8 #[.slice a0 l c, .slice a1 m d] w fun e w' => e = .returned (.bool (zb l m)) ∧ w' = w := by
  unfold maxLen at hl hm
  by_cases h1 : l ≤ 1048576
  · by_cases h2 : m ≤ 1048576
    · by_cases h3 : l + m ≤ 1048576
      · have H : Hid (zb l m = true) := zb_yes h1 h2 h3
        go_enter Try.func8, Try.ntmps8
        go_wp2
        go_ret
        exact ⟨ret_bool H.out.symm, rfl⟩
      · have H : Hid (zb l m = false) := zb_no (by omega)
        go_enter Try.func8, Try.ntmps8
        go_wp2
        go_ret
        exact ⟨ret_bool H.out.symm, rfl⟩
    · have H : Hid (zb l m = false) := zb_no (by omega)
      go_enter Try.func8, Try.ntmps8
      go_wp2
      go_ret
      exact ⟨ret_bool H.out.symm, rfl⟩
  · have H : Hid (zb l m = false) := zb_no (by omega)
    go_enter Try.func8, Try.ntmps8
    go_wp2
    go_ret
    exact ⟨ret_bool H.out.symm, rfl⟩

/-! ### The law: the ways out ahead of the loops -/
set_option maxHeartbeats 400000 in
theorem fold_long (a0 a1 : Option Addr) (l c m d : Nat) (hl : l ≤ maxLen) (hm : m ≤ maxLen) (h : 65536 < l ∨ 65536 < m) (w : World) :
    Calls Try.prog 4 #[.slice a0 l c, .slice a1 m d] w fun e w' => e = .returned (.bool true) ∧ Below w.heap.size w w' := by
  by_cases hz : zb l m = true
  · by_cases h1 : 65536 < l
    · go_enter Try.func4, Try.ntmps4
      go_wp2_with (go_at_call 8; refine (zb_any a0 a1 l c m d hl hm _).mono ?_; rintro e w' ⟨rfl, rfl⟩)
      go_ret
      exact ⟨rfl, Below.refl _ _⟩
    · have h2 : 65536 < m := by omega
      clear h
      go_enter Try.func4, Try.ntmps4
      go_wp2_with (go_at_call 8; refine (zb_any a0 a1 l c m d hl hm _).mono ?_; rintro e w' ⟨rfl, rfl⟩)
      go_ret
      exact ⟨rfl, Below.refl _ _⟩
  · have hz' : zb l m = false := by simpa using hz
    clear hz h
    go_enter Try.func4, Try.ntmps4
    go_wp2_with (go_at_call 8; refine (zb_any a0 a1 l c m d hl hm _).mono ?_; rintro e w' ⟨rfl, rfl⟩)
    go_ret
    exact ⟨rfl, Below.refl _ _⟩
theorem zb_short (l m : Nat) (h1 : l ≤ 65536) (h2 : m ≤ 65536) : zb l m = true := by unfold zb; simp; omega
set_option maxHeartbeats 400000 in
theorem fold_differ (a0 a1 : Option Addr) (l c m d : Nat) (h1 : l ≤ 65536) (h2 : m ≤ 65536) (h : l ≠ m) (w : World) :
    Calls Try.prog 4 #[.slice a0 l c, .slice a1 m d] w fun e w' => e = .returned (.bool true) ∧ Below w.heap.size w w' := by
  have hz := zb_short l m h1 h2
  have hne : ((l : Int) == (m : Int)) = false := by simp; omega
  go_enter Try.func4, Try.ntmps4
  go_wp2_with (go_at_call 8; refine (zb_any a0 a1 l c m d (by unfold maxLen; omega) (by unfold maxLen; omega) _).mono ?_; rintro e w' ⟨rfl, rfl⟩)
  go_ret
  exact ⟨by simp, Below.refl _ _⟩

/-! ### The law: both slices have n elements, 0 < n -/
set_option maxHeartbeats 2000000 in
set_option maxRecDepth 100000 in
theorem fold_same (b off c b' off' d n : Nat) (f g : Nat → Int) (h1 : n ≤ 65536) (w : World)
    (hcf : ∀ k, k < n → w.cell? ⟨b, off + k, none⟩ = some (.int .u8 (f k))) (hcg : ∀ k, k < n → w.cell? ⟨b', off' + k, none⟩ = some (.int .u8 (g k)))
    (hbf : ∀ k, k < n → 0 ≤ f k ∧ f k ≤ 255) (hbg : ∀ k, k < n → 0 ≤ g k ∧ g k ≤ 255) :
    Calls Try.prog 4 #[.slice (some ⟨b, off, none⟩) n c, .slice (some ⟨b', off', none⟩) n d] w fun e w' => e = .returned (.bool true) ∧ Below w.heap.size w w' := by
  have hz := zb_short n n h1 h1
  have HBf : Hid _ := hbf
  have HBg : Hid _ := hbg
  clear hbf hbg
  go_enter Try.func4, Try.ntmps4
  go_wp2_with (go_at_call 8; refine (zb_any _ _ n c n d (by unfold maxLen; omega) (by unfold maxLen; omega) _).mono ?_; rintro e w' ⟨rfl, hw⟩; have hw' := hw.symm; clear hw; subst hw')
  go_loopw [5, 6] (fun v i wr => ∃ k : Nat, k ≤ n ∧ i = .int .i64 k ∧ v = .bool true ∧ Hid (∀ j, j < k → up (f j) = up (g j)) ∧ Drawn w wr) (fun _ i _ => n - (intOf i).toNat)
  case atStart => exact ⟨0, by omega, rfl, by simp, fun j hj => by omega, Drawn.refl w⟩
  case round =>
    obtain ⟨k, hk, rfl, rfl, HU, HD0⟩ := hrel
    by_cases hlt : k < n
    · have cf := HD0.cell.trans (hcf k hlt)
      have cg := HD0.cell.trans (hcg k hlt)
      obtain ⟨b1, b2⟩ := HBf.out k hlt
      obtain ⟨b3, b4⟩ := HBg.out k hlt
      by_cases hne : up (f k) = up (g k)
      · have HE : Hid (up (f k) = up (g k)) := hne
        have ht : (up (f k) != up (g k)) = false := by simp [hne]
        clear hne
        go_wp2
        go_quiet ((go_at_call 7; exact Calls.quiet_of_same (zzupper_any _ (by assumption) (by assumption) _)))
        go_wp2
        go_round
        case rel => exact ⟨k + 1, by omega, by go_num, rfl, snoc_prop (p := fun j => up (f j) = up (g j)) HU.out HE.out, HD0.more _⟩
        case measure => simp [intOf]; omega
      · have HNE : Hid (¬ up (f k) = up (g k)) := hne
        have ht : (up (f k) != up (g k)) = true := by simp [hne]
        clear hne
        go_wp2
        go_quiet ((go_at_call 7; exact Calls.quiet_of_same (zzupper_any _ (by assumption) (by assumption) _)))
        clear cf cg
        have HD1 := HD0.more nq
        clear HD0
        have HD0 := HD1
        clear HD1
        go_wp2
        clear ht
        go_loopw [7, 8] (fun v i wr => ∃ k2 : Nat, k2 ≤ n ∧ i = .int .i64 k2 ∧ v = .bool true ∧ Hid (∀ j, j < k2 → fo (f j) (g j) = true) ∧ Drawn w wr) (fun _ i _ => n - (intOf i).toNat)
        case atStart => exact ⟨0, by omega, rfl, by simp, fun j hj => by omega, HD0⟩
        case round =>
          obtain ⟨k2, hk2, rfl, rfl, HU2, HD⟩ := hrel
          by_cases hlt2 : k2 < n
          · have cf := HD.cell.trans (hcf k2 hlt2)
            have cg := HD.cell.trans (hcg k2 hlt2)
            obtain ⟨f0, f1⟩ := HBf.out k2 hlt2
            obtain ⟨g0, g1⟩ := HBg.out k2 hlt2
            obtain ⟨q1, q2, q3, q4⟩ := fo_cases (f k2) (g k2) f0 f1 g0 g1
            have hor0 := or_lo (f k2) f0 f1
            have hor1 := or_hi (f k2) f0 f1
            by_cases t1 : (f k2 == g k2) = true
            · have HF : Hid (fo (f k2) (g k2) = true) := q1 t1
              clear q1 q2 q3 q4
              go_wp2
              go_round
              case rel => exact ⟨k2 + 1, by omega, by go_num, rfl, snoc_true HU2.out HF.out, HD⟩
              case measure => simp [intOf]; omega
            · have t1' : (f k2 == g k2) = false := by simpa using t1
              by_cases t2 : (bits .xor .u8 (f k2) (g k2) == 32) = true
              · by_cases t3 : low (bits .or .u8 (f k2) 32) = true
                · have HF : Hid (fo (f k2) (g k2) = true) := q2 t2 t3
                  clear q1 q2 q3 q4 t1
                  go_wp2_with (go_at_call 6; refine (low_any _ hor0 hor1 _).mono ?_; rintro e w' ⟨rfl, rfl⟩)
                  go_round
                  case rel => exact ⟨k2 + 1, by omega, by go_num, rfl, snoc_true HU2.out HF.out, HD⟩
                  case measure => simp [intOf]; omega
                · have t3' : low (bits .or .u8 (f k2) 32) = false := by simpa using t3
                  have HF : Hid (fo (f k2) (g k2) = false) := q3 t1' t3'
                  clear q1 q2 q3 q4 t1 t3
                  go_wp2_with (go_at_call 6; refine (low_any _ hor0 hor1 _).mono ?_; rintro e w' ⟨rfl, rfl⟩)
                  go_ret
                  exact ⟨by simp, HD.below⟩
              · have t2' : (bits .xor .u8 (f k2) (g k2) == 32) = false := by simpa using t2
                have HF : Hid (fo (f k2) (g k2) = false) := q4 t1' t2'
                clear q1 q2 q3 q4 t1 t2
                go_wp2
                go_ret
                exact ⟨by simp, HD.below⟩
          · exact absurd ((up_fo (f k) (g k) b1 b2 b3 b4).2 (HU2.out k (by omega))) HNE.out
    · go_wp2
      go_loopw [7, 8] (fun v i wr => ∃ k2 : Nat, k2 ≤ n ∧ i = .int .i64 k2 ∧ v = .bool true ∧ Hid (∀ j, j < k2 → fo (f j) (g j) = true) ∧ Drawn w wr) (fun _ i _ => n - (intOf i).toNat)
      case atStart => exact ⟨0, by omega, rfl, by simp, fun j hj => by omega, HD0⟩
      case round =>
        obtain ⟨k2, hk2, rfl, rfl, HU2, HD⟩ := hrel
        by_cases hlt2 : k2 < n
        · have cf := HD.cell.trans (hcf k2 hlt2)
          have cg := HD.cell.trans (hcg k2 hlt2)
          obtain ⟨f0, f1⟩ := HBf.out k2 hlt2
          obtain ⟨g0, g1⟩ := HBg.out k2 hlt2
          obtain ⟨q1, q2, q3, q4⟩ := fo_cases (f k2) (g k2) f0 f1 g0 g1
          have hor0 := or_lo (f k2) f0 f1
          have hor1 := or_hi (f k2) f0 f1
          by_cases t1 : (f k2 == g k2) = true
          · have HF : Hid (fo (f k2) (g k2) = true) := q1 t1
            clear q1 q2 q3 q4
            go_wp2
            go_round
            case rel => exact ⟨k2 + 1, by omega, by go_num, rfl, snoc_true HU2.out HF.out, HD⟩
            case measure => simp [intOf]; omega
          · have t1' : (f k2 == g k2) = false := by simpa using t1
            by_cases t2 : (bits .xor .u8 (f k2) (g k2) == 32) = true
            · by_cases t3 : low (bits .or .u8 (f k2) 32) = true
              · have HF : Hid (fo (f k2) (g k2) = true) := q2 t2 t3
                clear q1 q2 q3 q4 t1
                go_wp2_with (go_at_call 6; refine (low_any _ hor0 hor1 _).mono ?_; rintro e w' ⟨rfl, rfl⟩)
                go_round
                case rel => exact ⟨k2 + 1, by omega, by go_num, rfl, snoc_true HU2.out HF.out, HD⟩
                case measure => simp [intOf]; omega
              · have t3' : low (bits .or .u8 (f k2) 32) = false := by simpa using t3
                have HF : Hid (fo (f k2) (g k2) = false) := q3 t1' t3'
                clear q1 q2 q3 q4 t1 t3
                go_wp2_with (go_at_call 6; refine (low_any _ hor0 hor1 _).mono ?_; rintro e w' ⟨rfl, rfl⟩)
                go_ret
                exact absurd HF.out (by rw [(up_fo (f k2) (g k2) f0 f1 g0 g1).1 (HU.out k2 (by omega))]; decide)
            · have t2' : (bits .xor .u8 (f k2) (g k2) == 32) = false := by simpa using t2
              have HF : Hid (fo (f k2) (g k2) = false) := q4 t1' t2'
              clear q1 q2 q3 q4 t1 t2
              go_wp2
              go_ret
              exact absurd HF.out (by rw [(up_fo (f k2) (g k2) f0 f1 g0 g1).1 (HU.out k2 (by omega))]; decide)
        · go_wp2
          go_ret
          exact ⟨by simp, HD.below⟩

/-! ### STEP 1: THE WALK: the Go text returns true, AND WRITES NOTHING THAT WAS THERE -/
set_option maxHeartbeats 1000000 in
set_option maxRecDepth 100000 in
theorem fold_none (a0 a1 : Option Addr) (c d : Nat) (w : World) :
    Calls Try.prog 4 #[.slice a0 0 c, .slice a1 0 d] w fun e w' => e = .returned (.bool true) ∧ Below w.heap.size w w' := by
  have hz := zb_short 0 0 (by omega) (by omega)
  go_enter Try.func4, Try.ntmps4
  go_wp2_with (go_at_call 8; refine (zb_any a0 a1 0 c 0 d (by unfold maxLen; omega) (by unfold maxLen; omega) _).mono ?_; rintro e w' ⟨rfl, hw⟩; have hw' := hw.symm; clear hw; subst hw')
  go_loop [5, 6] (fun v i => v = .bool true ∧ i = .int .i64 0) (fun _ _ => 0)
  case atStart => exact ⟨by simp, rfl⟩
  case round =>
    obtain ⟨rfl, rfl⟩ := hrel
    go_wp2
    go_loop [7, 8] (fun v i => v = .bool true ∧ i = .int .i64 0) (fun _ _ => 0)
    case atStart => exact ⟨by simp, rfl⟩
    case round =>
      obtain ⟨rfl, rfl⟩ := hrel
      go_wp2
      go_ret
      exact ⟨by simp, Below.refl _ _⟩

theorem row_at {w : World} {a : Option Addr} {len cap : Nat} {zs : List Int} (h : IsRow .u8 w a len cap zs) (hp : 0 < len) :
    ∃ b off, a = some ⟨b, off, none⟩ ∧ (∀ k, k < len → w.cell? ⟨b, off + k, none⟩ = some (.int .u8 (zs.getD k 0))) ∧ (∀ k, k < len → 0 ≤ zs.getD k 0 ∧ zs.getD k 0 ≤ 255) := by
  rcases h with ⟨_, h, _⟩ | ⟨x, rfl, hl, _, hz, hc, hw⟩
  · omega
  · obtain ⟨b, off, rfl, hc'⟩ := ints_at hc (by omega)
    refine ⟨b, off, rfl, fun k hk => hc' k (by omega), fun k hk => ?_⟩
    have hk' : k < zs.length := by omega
    have e : zs.getD k 0 = zs[k] := by simp [List.getD, hk']
    rw [e]
    exact byte_of_wf (hw _ (List.getElem_mem hk'))
theorem row_len {w : World} {a : Option Addr} {len cap : Nat} {zs : List Int} (h : IsRow .u8 w a len cap zs) : len ≤ maxLen := by
  rcases h with ⟨_, rfl, _⟩ | ⟨x, rfl, hl, hm, _⟩
  · exact Nat.zero_le _
  · omega

theorem walk (a0 : Option Addr) (len0 cap0 : Nat) (z0 : List Int) (a1 : Option Addr) (len1 cap1 : Nat) (z1 : List Int) (w : World) (w0 : IsRow .u8 w a0 len0 cap0 z0) (w1 : IsRow .u8 w a1 len1 cap1 z1) :
    Calls Try.prog 4 #[.slice a0 len0 cap0, .slice a1 len1 cap1] w fun e w' => e = .returned (.bool true) ∧ Below w.heap.size w w' := by
  by_cases h1 : len0 ≤ 65536 ∧ len1 ≤ 65536
  · by_cases h2 : len0 = len1
    · subst h2
      by_cases h3 : len0 = 0
      · subst h3
        exact fold_none a0 a1 cap0 cap1 w
      · obtain ⟨b, off, rfl, hc, hb⟩ := row_at w0 (by omega)
        obtain ⟨b', off', rfl, hc', hb'⟩ := row_at w1 (by omega)
        exact fold_same b off cap0 b' off' cap1 len0 _ _ h1.1 w hc hc' hb hb'
    · exact fold_differ a0 a1 len0 cap0 len1 cap1 h1.1 h1.2 h2 w
  · exact fold_long a0 a1 len0 cap0 len1 cap1 (row_len w0) (row_len w1) (by omega) w

/-! ### THE ROW's STEP: WRITTEN OUT: LEAVE IT -/
set_option maxRecDepth 100000 in
theorem lifted (os : Os) (started : os.Started) (H : Type) (enc : TypeId × Value → H) :
    ReturnsInHanded {} Try.checked os 4 .any (Rows.fnUpperFoldEqualSpec.pre6 enc Try.prog Try.f4 Rows.fnUpperFoldEqualRow.domain false) (Rows.fnUpperFoldEqualSpec.post enc Try.prog Try.f4 false true false false) := by
  refine returnsInHanded_of_change (C := Try.checked) own started (by kernel_rfl) Try.func4
    (ChangeSpec.witness6 (enc := enc) (C := Try.checked) false ⟨#[], #[.slice none 0 0, .slice none 0 0], []⟩ 8 (by kernel_rfl) (by kernel_rfl) (by kernel_rfl) (by kernel_rfl)) ?_
  intro W base args ds gs before hval0 hW hcnd _
  have hval : ∀ (j : Nat) t v, Try.f4.params[j]? = some t → args[j]? = some v → Value.okWide Try.prog W .any base t v := hval0
  have hW' := hW
  obtain ⟨p, q, hA0, hV, rfl, hfz, hnd⟩ := hW
  have hA : DataW.TrodAll enc Try.prog W 0 (fun _ => true) true Try.f4.params.toList args.toList ds p := hA0
  rw [Try.params4] at hA hval
  obtain ⟨v0, vs0, d0, ds0, p0, q0, hargs, rfl, rfl, h0, r0⟩ := trodAll_cons hA
  obtain ⟨v1, vs1, d1, ds1, p1, q1, rfl, rfl, rfl, h1, r1⟩ := trodAll_cons r0
  obtain ⟨rfl, rfl, rfl⟩ := trodAll_nil r1
  obtain rfl : args = #[v0, v1] := by cases args; simp_all
  obtain ⟨rfl, rfl⟩ := trodVars_none hV
  obtain ⟨a0, len0, cap0, rfl⟩ := okWide_slice Try.underlying24 (hval 0 24 v0 rfl rfl)
  have k0 := h0
  have lt0 : ∀ x ∈ p0, x.block < W.heap.size := by obtain ⟨m, hm⟩ := k0; exact DataW.trod_lt m _ _ _ hm
  obtain ⟨z0, w0⟩ : ∃ zs, IsRow .u8 W a0 len0 cap0 zs := by
    obtain ⟨fuel, hf⟩ := h0
    rcases open_ints Try.underlying24 Try.underlying5 (by kernel_rfl) hf with ⟨hcs, _⟩ | ⟨x, l, c, zs, hcs, _, hl, hm, hz, _, hcell, hwz⟩
    · simp [Value.cells] at hcs
      obtain ⟨rfl, rfl, rfl⟩ := hcs
      exact ⟨[], .inl ⟨rfl, rfl, rfl, rfl⟩⟩
    · simp [Value.cells] at hcs
      obtain ⟨rfl, rfl, rfl⟩ := hcs
      exact ⟨zs, .inr ⟨_, rfl, hl, hm, by simpa using hz, hcell, hwz⟩⟩
  obtain ⟨a1, len1, cap1, rfl⟩ := okWide_slice Try.underlying24 (hval 1 24 v1 rfl rfl)
  have k1 := h1
  have lt1 : ∀ x ∈ p1, x.block < W.heap.size := by obtain ⟨m, hm⟩ := k1; exact DataW.trod_lt m _ _ _ hm
  obtain ⟨z1, w1⟩ : ∃ zs, IsRow .u8 W a1 len1 cap1 zs := by
    obtain ⟨fuel, hf⟩ := h1
    rcases open_ints Try.underlying24 Try.underlying5 (by kernel_rfl) hf with ⟨hcs, _⟩ | ⟨x, l, c, zs, hcs, _, hl, hm, hz, _, hcell, hwz⟩
    · simp [Value.cells] at hcs
      obtain ⟨rfl, rfl, rfl⟩ := hcs
      exact ⟨[], .inl ⟨rfl, rfl, rfl, rfl⟩⟩
    · simp [Value.cells] at hcs
      obtain ⟨rfl, rfl, rfl⟩ := hcs
      exact ⟨zs, .inr ⟨_, rfl, hl, hm, by simpa using hz, hcell, hwz⟩⟩
  clear hA0 hval0
  refine (walk a0 len0 cap0 z0 a1 len1 cap1 z1 W w0 w1).mono fun e W' ⟨he, bel⟩ => ?_
  subst he
  exact ⟨_, rfl, _, _, _, [], _, [], hW', trodAll_mk1 (shut_bool Try.underlying4 _), (trodAll_cons_mk (Below.trod laidOut (by kernel_rfl) (of_decide_eq_true (by kernel_rfl)) k0 bel lt0) (trodAll_cons_mk (Below.trod laidOut (by kernel_rfl) (of_decide_eq_true (by kernel_rfl)) k1 bel lt1) trodAll_mk0)), rfl, bel.frame _, fun h => by cases h⟩

theorem over : Rows.fnUpperFoldEqualRow.holds Try.pinned (OpenSpec.ofChange Rows.fnUpperFoldEqualSpec) :=
  OpenClaim.holds_of_wide 4 Try.f4 rfl rfl rfl rfl rfl rfl rfl ⟨rfl, rfl, rfl, rfl, rfl⟩ rfl rfl rfl rfl rfl (by kernel_rfl) Try.func4 (by kernel_rfl)
    (of_decide_eq_true (by kernel_rfl)) (by unfold Func.isWrapper; first | (rw [if_pos (by decide +kernel)]; kernel_rfl) | (rw [if_neg (by decide +kernel)]; exact ⟨rfl, rfl⟩))
    (fun os started H enc _ => lifted os started H enc)

/-- ████ THE STATEMENT ████ -/
theorem proved : Rows.FnUpperFoldEqualSaid := over
#print axioms proved
end Go.Proofs.Qxb6617929a.fnUpperFoldEqual
