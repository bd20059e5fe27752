/-
  THE WALK OF FnUint256BitsAtWindowsRebuildTheNumber: two loops, the inner one writes the array r.
-/
import Derived.Test.Qxb6617384aBits
import Derived.Test.Qxb6617384aEq
namespace Go.Proofs.Qxb6617384a
open Go.RowKit Plain
set_option linter.unusedVariables false

/-- Word i of the low q bits of A. -/
def lw (A q i : Nat) : Int := lm (A % 2 ^ q) i

/-- THE LOOPS' RELATION on the world: 'a' lies untouched in block B, 'r' in block B + 1 holds the words of the low q bits of A. -/
structure Inv (A B : Nat) (w wr : World) (q : Nat) : Prop where
  bel : Below B w wr
  hsz : B + 1 < wr.heap.size
  a0 : wr.cell? ⟨B, 0, none⟩ = some (.int .u64 (lm A 0))
  a1 : wr.cell? ⟨B, 1, none⟩ = some (.int .u64 (lm A 1))
  a2 : wr.cell? ⟨B, 2, none⟩ = some (.int .u64 (lm A 2))
  a3 : wr.cell? ⟨B, 3, none⟩ = some (.int .u64 (lm A 3))
  r0 : wr.cell? ⟨B + 1, 0, none⟩ = some (.int .u64 (lw A q 0))
  r1 : wr.cell? ⟨B + 1, 1, none⟩ = some (.int .u64 (lw A q 1))
  r2 : wr.cell? ⟨B + 1, 2, none⟩ = some (.int .u64 (lw A q 2))
  r3 : wr.cell? ⟨B + 1, 3, none⟩ = some (.int .u64 (lw A q 3))
  f0 : wr.frozen? ⟨B + 1, 0, none⟩ = false
  f1 : wr.frozen? ⟨B + 1, 1, none⟩ = false
  f2 : wr.frozen? ⟨B + 1, 2, none⟩ = false
  f3 : wr.frozen? ⟨B + 1, 3, none⟩ = false

theorem Inv.alloc {A B : Nat} {w wr : World} {q : Nat} (I : Inv A B w wr q) (o : Obj) : Inv A B w (wr.alloc o) q := by
  have hs := I.hsz
  have hb : Below wr.heap.size wr (wr.alloc o) := (Below.refl _ _).alloc (Nat.le_refl _) _
  have k1 : ∀ j, (wr.alloc o).cell? ⟨B, j, none⟩ = wr.cell? ⟨B, j, none⟩ := fun j => hb.cell (p := ⟨B, j, none⟩) (by show B < _; omega)
  have k2 : ∀ j, (wr.alloc o).cell? ⟨B + 1, j, none⟩ = wr.cell? ⟨B + 1, j, none⟩ := fun j => hb.cell (p := ⟨B + 1, j, none⟩) hs
  have k3 : ∀ j, (wr.alloc o).frozen? ⟨B + 1, j, none⟩ = wr.frozen? ⟨B + 1, j, none⟩ := fun j => hb.frozen (p := ⟨B + 1, j, none⟩) hs
  exact ⟨I.bel.alloc (by omega) o, by simp; omega, (k1 0).trans I.a0, (k1 1).trans I.a1, (k1 2).trans I.a2, (k1 3).trans I.a3, (k2 0).trans I.r0, (k2 1).trans I.r1, (k2 2).trans I.r2, (k2 3).trans I.r3,
    (k3 0).trans I.f0, (k3 1).trans I.f1, (k3 2).trans I.f2, (k3 3).trans I.f3⟩

theorem Inv.skip {A B : Nat} {w wr : World} {q : Nat} (I : Inv A B w wr q) (hb : bit A q ≠ 1) : Inv A B w wr (q + 1) := by
  have e : ∀ i, lw A (q + 1) i = lw A q i := fun i => by unfold lw; rw [low_succ_zero A q hb]
  exact ⟨I.bel, I.hsz, I.a0, I.a1, I.a2, I.a3, by rw [e]; exact I.r0, by rw [e]; exact I.r1, by rw [e]; exact I.r2, by rw [e]; exact I.r3, I.f0, I.f1, I.f2, I.f3⟩

theorem mod_word (X : Nat) (h : X < 18446744073709551616) : (X : Int) % 18446744073709551616 = X := by omega

/-- What 'r[q/64] |= uint64(1) << uint(q%64)' stores. -/
theorem or_bit (A q i : Nat) (hi : q / 64 = i) (hb : bit A q = 1) : bits .or .u64 (lw A q i) (IntKind.u64.wrap (2 ^ (q % 64))) = lw A (q + 1) i := by
  unfold lw lm
  have hlt : 2 ^ (q % 64) < 18446744073709551616 := by
    have h1 : 2 ^ (q % 64) ≤ 2 ^ 63 := Nat.pow_le_pow_right (by decide) (by omega)
    have h2 : (2 : Nat) ^ 63 = 9223372036854775808 := by decide
    omega
  have e : IntKind.u64.wrap (2 ^ (q % 64)) = ((2 ^ (q % 64) : Nat) : Int) := by
    have e1 : ((2 : Int) ^ (q % 64)) = ((2 ^ (q % 64) : Nat) : Int) := by simp
    rw [e1, IntKind.wrap_u64]; exact mod_word _ hlt
  rw [e, u64_or_nat _ _ (limb_lt _ _) hlt, limb_low_succ_at A q i hi hb]

theorem Inv.set {A B : Nat} {w wr : World} {q : Nat} (I : Inv A B w wr q) (i : Nat) (hi4 : i < 4) (hi : q / 64 = i) (hb : bit A q = 1) (v : Int) (hv : v = lw A (q + 1) i) :
    Inv A B w (wr.setCell ⟨B + 1, i, none⟩ (.int .u64 v)) (q + 1) := by
  subst hv
  have hs := I.hsz
  have e : ∀ j, q / 64 ≠ j → lw A (q + 1) j = lw A q j := fun j hj => by unfold lw lm; rw [limb_low_succ_other A q j hj]
  have kA : ∀ j, (wr.setCell ⟨B + 1, i, none⟩ (.int .u64 (lw A (q + 1) i))).cell? ⟨B, j, none⟩ = wr.cell? ⟨B, j, none⟩ := fun j =>
    World.cell?_of_block (w := wr) (Below.heap_setCell _ _ _ _ (by show B ≠ B + 1; omega))
  have kR : ∀ j, wr.cell? ⟨B + 1, j, none⟩ = some (.int .u64 (lw A q j)) → (wr.setCell ⟨B + 1, i, none⟩ (.int .u64 (lw A (q + 1) i))).cell? ⟨B + 1, j, none⟩ = some (.int .u64 (lw A (q + 1) j)) := by
    intro j hj
    by_cases hij : i = j
    · subst hij
      exact World.cell?_setCell_same _ _ _ hj
    · rw [e j (by omega)]
      rw [World.cell?_setCell_other _ _ _ _ (fun h => hij (by injection h))]
      exact hj
  have kF : ∀ j, (wr.setCell ⟨B + 1, i, none⟩ (.int .u64 (lw A (q + 1) i))).frozen? ⟨B + 1, j, none⟩ = wr.frozen? ⟨B + 1, j, none⟩ := fun j => World.frozen?_setCell _ _ _ _
  exact ⟨I.bel.setCell (by show B ≤ B + 1; omega) _, by simpa [World.setCell] using hs, (kA 0).trans I.a0, (kA 1).trans I.a1, (kA 2).trans I.a2, (kA 3).trans I.a3, kR 0 I.r0, kR 1 I.r1, kR 2 I.r2, kR 3 I.r3,
    (kF 0).trans I.f0, (kF 1).trans I.f1, (kF 2).trans I.f2, (kF 3).trans I.f3⟩

theorem Inv.start (A : Nat) (w : World) : Inv A w.heap.size w ((w.alloc (.cells #[.int .u64 (lm A 0), .int .u64 (lm A 1), .int .u64 (lm A 2), .int .u64 (lm A 3)] 23)).alloc (.cells #[.int .u64 0, .int .u64 0, .int .u64 0, .int .u64 0] 23)) 0 := by
  have e : ∀ i, lw A 0 i = 0 := fun i => by unfold lw lm limb; simp [Nat.mod_one]
  refine ⟨((Below.refl _ _).alloc (Nat.le_refl _) _).alloc (by simp) _, by simp, by simp, by simp, by simp, by simp, by simp [e], by simp [e], by simp [e], by simp [e], ?_, ?_, ?_, ?_⟩ <;> rw [frozen?_alloc_cells, frozen?_alloc_cells] <;> simp [World.frozen?]

theorem Inv.read {A B : Nat} {w wr : World} {q : Nat} (I : Inv A B w wr q) (hq : q < 256) :
    wr.cell? ⟨B + 1, q / 64, none⟩ = some (.int .u64 (lw A q (q / 64))) ∧ wr.frozen? ⟨B + 1, q / 64, none⟩ = false := by
  have h4 : q / 64 = 0 ∨ q / 64 = 1 ∨ q / 64 = 2 ∨ q / 64 = 3 := by omega
  rcases h4 with h | h | h | h <;> rw [h]
  · exact ⟨I.r0, I.f0⟩
  · exact ⟨I.r1, I.f1⟩
  · exact ⟨I.r2, I.f2⟩
  · exact ⟨I.r3, I.f3⟩

/-- The test '(c>>uint(t))&1 == 1', as the walk spells it. -/
theorem test_bit (A p u wd : Nat) (hu : u < wd) (hw : wd ≤ 64) : (bits .and .u64 (win A p wd / 2 ^ u) 1 == 1) = decide (bit A (p + u) = 1) := by
  unfold win
  rw [Int.toNat_natCast, Int.toNat_natCast, shr_nat]
  have := u64_and_nat (window A p wd / 2 ^ u) 1 (div_word _ _ (window_word A p wd hw)) (by decide)
  rw [show ((1 : Nat) : Int) = 1 from rfl] at this
  rw [this, nat_mask1, bit_window A p wd u hu]
  by_cases h : bit A (p + u) = 1
  · rw [h]; rfl
  · rw [decide_eq_false h]
    simp only [beq_eq_false_iff_ne, ne_eq]
    omega

set_option maxHeartbeats 400000 in
theorem windows_out (a0 a1 a2 a3 : Int) (wd : Int) (h : wd < 1 ∨ 64 < wd) (w : World) :
    Calls Try.prog 6 #[.agg #[.int .u64 a0, .int .u64 a1, .int .u64 a2, .int .u64 a3], .int .i64 wd] w fun e w' => e = .returned (.bool true) ∧ Below w.heap.size w w' := by
  rcases h with h | h
  · go_enter Try.func6, Try.ntmps6
    go_wp2
    go_ret
    exact ⟨rfl, (Below.refl _ _).alloc (Nat.le_refl _) _⟩
  · have h' : ¬ wd < 1 := by omega
    go_enter Try.func6, Try.ntmps6
    go_wp2
    go_ret
    exact ⟨rfl, (Below.refl _ _).alloc (Nat.le_refl _) _⟩

set_option maxHeartbeats 1000000 in
set_option maxRecDepth 100000 in
theorem windows_in (A : Nat) (hA : A < 2 ^ 256) (wd : Nat) (h1 : 1 ≤ wd) (h2 : wd ≤ 64) (w : World) :
    Calls Try.prog 6 #[.agg #[.int .u64 (lm A 0), .int .u64 (lm A 1), .int .u64 (lm A 2), .int .u64 (lm A 3)], .int .i64 wd] w fun e w' => e = .returned (.bool true) ∧ Below w.heap.size w w' := by
  have HA : Hid (A < 2 ^ 256) := hA
  clear hA
  go_enter Try.func6, Try.ntmps6
  go_wp2
  go_loopw [6] (fun p wr => ∃ q : Nat, q ≤ 319 ∧ p = .int .i64 q ∧ Inv A w.heap.size w wr q) (fun p _ => 320 - (intOf p).toNat)
  case atStart => exact ⟨0, by omega, rfl, Inv.start A w⟩
  case round =>
    obtain ⟨p, hp, rfl, I⟩ := hrel
    have HI : Hid (Inv A w.heap.size w wr p) := I
    obtain ⟨bel, hsz, a0, a1, a2, a3, r0, r1, r2, r3, f0, f1, f2, f3⟩ := I
    by_cases hlt : p < 256
    · have hn := win_nonneg A p wd
      have hw0 : win A p wd / 2 ^ wd = 0 := by
        unfold win
        rw [shr_nat, Nat.div_eq_of_lt (by simpa using window_lt A (p : Int).toNat (wd : Int).toNat)]; rfl
      clear r0 r1 r2 r3 f0 f1 f2 f3
      go_wp2_with (go_at_call 10; refine (zzBitsAt_any A HA.out p wd (by omega) (by omega) (by omega) (by omega) _).mono ?_; rintro e w' ⟨rfl, o1, o2, rfl⟩)
      all_goals
        clear hw0 hn a0 a1 a2 a3 hsz bel
        go_loopw [8] (fun t ws => ∃ u : Nat, u ≤ wd ∧ t = .int .i64 u ∧ Inv A w.heap.size w ws (p + u)) (fun t _ => wd - (intOf t).toNat)
        case atStart => exact ⟨0, by omega, rfl, (HI.out.alloc _).alloc _⟩
        case round =>
          obtain ⟨u, hu, rfl, I⟩ := hrel
          have HJ : Hid (Inv A w.heap.size w wr (p + u)) := I
          obtain ⟨bel, hsz, a0, a1, a2, a3, r0, r1, r2, r3, f0, f1, f2, f3⟩ := I
          by_cases hlu : u < wd
          · have hn := win_nonneg A p wd
            have ht := test_bit A p u wd hlu h2
            by_cases hb : bit A (p + u) = 1
            · have hq : p + u < 256 := Nat.lt_of_not_le fun hq => by rw [bit_far A (p + u) HA.out hq] at hb; cases hb
              rw [decide_eq_true hb] at ht
              obtain ⟨hc, hf⟩ := HJ.out.read hq
              have HB : Hid (bit A (p + u) = 1) := hb
              clear hb r0 r1 r2 r3 f0 f1 f2 f3 a0 a1 a2 a3 bel
              go_wp2
              go_round
              case rel =>
                exact ⟨u + 1, by omega, by go_num, HJ.out.set ((p + u) / 64) (by omega) rfl HB.out _ (or_bit A (p + u) ((p + u) / 64) rfl HB.out)⟩
              case measure => simp [intOf]; omega
            · rw [decide_eq_false hb] at ht
              have HB : Hid (bit A (p + u) ≠ 1) := hb
              clear hb r0 r1 r2 r3 f0 f1 f2 f3 a0 a1 a2 a3 bel
              go_wp2
              go_round
              case rel => exact ⟨u + 1, by omega, by go_num, HJ.out.skip HB.out⟩
              case measure => simp [intOf]; omega
          · go_wp2
            go_round
            case rel => exact ⟨p + wd, by omega, by go_num, by rw [show p + wd = p + u from by omega]; exact HJ.out⟩
            case measure => simp [intOf]; omega
    · have hfar : win A p wd = 0 := res_far A p wd HA.out (by omega)
      have hl : ∀ i, lw A p i = lm A i := fun i => by unfold lw; rw [low_all A p HA.out (by omega)]
      clear r0 r1 r2 r3 f0 f1 f2 f3
      have HL : Hid (∀ i, lw A p i = lm A i) := hl
      clear hl
      go_wp2_with fail
      refine (zzBitsAt_any A HA.out p wd (by omega) (by omega) (by omega) (by omega) _).mono ?_
      rintro e w1 ⟨rfl, o1, o2, hw⟩
      have J : Inv A w.heap.size w w1 p := by rw [hw]; exact (HI.out.alloc _).alloc _
      clear hw a0 a1 a2 a3 hsz bel
      obtain ⟨bel, hsz, a0, a1, a2, a3, r0, r1, r2, r3, f0, f1, f2, f3⟩ := J
      rw [HL.out] at r0 r1 r2 r3
      clear f0 f1 f2 f3
      have hq := run_eq4 (lm A 0) (lm A 1) (lm A 2) (lm A 3) (lm A 0) (lm A 1) (lm A 2) (lm A 3)
      go_wp2
      go_ret
      exact ⟨by simp, bel⟩

/-- FnUint256BitsAtWindowsRebuildTheNumber returns true, whatever it is handed. -/
theorem law_windows (A : Nat) (hA : A < 2 ^ 256) (wd : Int) (w : World) :
    Calls Try.prog 6 #[.agg #[.int .u64 (lm A 0), .int .u64 (lm A 1), .int .u64 (lm A 2), .int .u64 (lm A 3)], .int .i64 wd] w fun e w' => e = .returned (.bool true) ∧ Below w.heap.size w w' := by
  by_cases h : wd < 1 ∨ 64 < wd
  · exact windows_out _ _ _ _ wd h w
  · obtain ⟨n, rfl⟩ := Int.eq_ofNat_of_zero_le (show 0 ≤ wd by omega)
    exact windows_in A hA n (by omega) (by omega) w
end Go.Proofs.Qxb6617384a
