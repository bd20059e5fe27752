/-
  THE WALKS OF levels AND ZZlevels.
-/
import Derived.Test.Qxb6617929aDoorRows
import Derived.Test.Qxb6617929aDoorPlain
import Derived.Test.Qxb6617929aDoorShelf
import Derived.WalkKit
import Derived.WalkSpells
import Derived.Deep.OwnRows
import Derived.Lib.ItoaLen
namespace Go.Proofs.Qxb6617929aDoor
open Go.RowKit Plain
set_option linter.unusedVariables false

/-- THE LOOP's RELATION: the call's row lies in block B: its first k cells hold the first k levels. -/
structure Lev (s : ByteArray) (n B : Nat) (w wr : World) (k : Nat) : Prop where
  bel : Below B w wr
  hsz : B < wr.heap.size
  tab : Tab wr
  done : ∀ j, j < k → wr.cell? ⟨B, j, none⟩ = some (.string (lv s j))
  there : ∀ j, j < n → ∃ u, wr.cell? ⟨B, j, none⟩ = some u
  frz : ∀ j, wr.frozen? ⟨B, j, none⟩ = false

theorem Lev.start (s : ByteArray) (n : Nat) (w : World) (ht : Tab w) : Lev s n w.heap.size w (w.alloc (.cells (madeCells #[.string ByteArray.empty] n) 9)) 0 := by
  have hb : Below w.heap.size w (w.alloc (.cells (madeCells #[.string ByteArray.empty] n) 9)) := (Below.refl _ _).alloc (Nat.le_refl _) _
  refine ⟨hb, by simp, ht.below hb ht.pos, fun j hj => by omega, fun j hj => ?_, fun j => ?_⟩
  · rw [World.cell?_alloc_new]
    exact ⟨_, Array.getElem?_eq_getElem (by rw [size_madeCells]; exact hj)⟩
  · rw [frozen?_alloc_cells]
    simp [World.frozen?]
theorem Lev.next {s : ByteArray} {n B : Nat} {w wr w1 : World} {k : Nat} (L : Lev s n B w wr k) (hb : Below wr.heap.size wr w1) : Lev s n B w w1 k := by
  have hs := L.hsz
  have h2 := hb.size
  have kc : ∀ j, w1.cell? ⟨B, j, none⟩ = wr.cell? ⟨B, j, none⟩ := fun j => hb.cell (p := ⟨B, j, none⟩) hs
  have kf : ∀ j, w1.frozen? ⟨B, j, none⟩ = wr.frozen? ⟨B, j, none⟩ := fun j => hb.frozen (p := ⟨B, j, none⟩) hs
  exact ⟨L.bel.trans (hb.mono (by omega)), by omega, L.tab.below hb L.tab.pos, fun j hj => (kc j).trans (L.done j hj), fun j hj => by rw [kc j]; exact L.there j hj, fun j => (kf j).trans (L.frz j)⟩
theorem Lev.store {s : ByteArray} {n B : Nat} {w wr : World} {k : Nat} (L : Lev s n B w wr k) (hB : 0 < B) (hk : k < n) (v : ByteArray) (hv : v = lv s k) : Lev s n B w (wr.setCell ⟨B, k, none⟩ (.string v)) (k + 1) := by
  subst hv
  have hs := L.hsz
  have hb : Below B wr (wr.setCell ⟨B, k, none⟩ (.string (lv s k))) := (Below.refl B wr).setCell (p := ⟨B, k, none⟩) (Nat.le_refl B) _
  obtain ⟨u0, hu0⟩ := L.there k hk
  have ks : (wr.setCell ⟨B, k, none⟩ (.string (lv s k))).cell? ⟨B, k, none⟩ = some (.string (lv s k)) := World.cell?_setCell_same _ _ _ hu0
  have ko : ∀ j, j ≠ k → (wr.setCell ⟨B, k, none⟩ (.string (lv s k))).cell? ⟨B, j, none⟩ = wr.cell? ⟨B, j, none⟩ := fun j hj =>
    World.cell?_setCell_other _ _ _ _ (fun e => hj (by injection e with _ e2 _; exact e2.symm))
  refine ⟨L.bel.trans hb, by simpa using hs, L.tab.below hb hB, fun j hj => ?_, fun j hj => ?_, fun j => (World.frozen?_setCell _ _ _ _).trans (L.frz j)⟩
  · by_cases e : j = k
    · subst e; exact ks
    · rw [ko j e]; exact L.done j (by omega)
  · by_cases e : j = k
    · subst e; exact ⟨_, ks⟩
    · rw [ko j e]; exact L.there j hj

theorem info9 : (Tryd.prog.info? 9).map (fun i => (i.zero, i.size, i.bytes)) = some (some (.string ByteArray.empty), 1, 16) := by kernel_rfl

set_option maxHeartbeats 1000000 in
set_option maxRecDepth 100000 in
theorem levels_any (s : ByteArray) (n : Nat) (hs : s.size ≤ 4096) (hn : n ≤ 65537) (w : World) (ht : Tab w) :
    Calls Tryd.prog 10 #[.string s, .int .i64 n] w fun e w' =>
      e = .returned (.slice (some ⟨w.heap.size, 0, none⟩) n n) ∧ Lev s n w.heap.size w w' n := by
  have hmk := run_make_row' (P := Tryd.prog) 23 9 (.string ByteArray.empty) 16 Tryd.underlying23 info9 rfl .i64 .i64 n (by omega) (by omega)
  go_enter Tryd.func10, Tryd.ntmps10
  go_wp2
  go_loopw [11] (fun i wr => ∃ k : Nat, k ≤ n ∧ i = .int .i64 k ∧ Lev s n w.heap.size w wr k) (fun i _ => n - (intOf i).toNat)
  case atStart => exact ⟨0, by omega, rfl, Lev.start s n w ht⟩
  case round =>
    obtain ⟨k, hk, rfl, L⟩ := hrel
    have HL : Hid (Lev s n w.heap.size w wr k) := L
    clear L hmk
    by_cases hlt : k < n
    · have hil := Lib.itoa_length_le ((k : Int) + 1) (by omega) (by omega)
      go_wp2_with fail
      refine (itoa_any ((k : Int) + 1) (by omega) (by omega) _ HL.out.tab).mono ?_
      rintro e w1 ⟨rfl, hb⟩
      have HL1 : Hid (Lev s n w.heap.size w w1 k) := HL.out.next hb
      clear hb
      obtain ⟨u0, hc⟩ := HL1.out.there k hlt
      have hf := HL1.out.frz k
      go_wp2
      go_round
      case rel => exact ⟨k + 1, by omega, by go_num, HL1.out.store ht.pos hlt _ (lv_eq s k _ rfl)⟩
      case measure => simp [intOf]; omega
    · obtain rfl : k = n := by omega
      go_wp2
      go_ret
      exact ⟨rfl, HL.out⟩

theorem zzlevels_any (s : ByteArray) (n : Nat) (hs : s.size ≤ 4096) (hn : n ≤ 65537) (w : World) (ht : Tab w) :
    Calls Tryd.prog 6 #[.string s, .int .i64 n] w fun e w' =>
      e = .returned (.slice (some ⟨w.heap.size, 0, none⟩) n n) ∧ Lev s n w.heap.size w w' n := by
  go_enter Tryd.func6, Tryd.ntmps6
  go_wp2_with fail
  refine (levels_any s n hs hn _ ht).mono ?_
  rintro e w1 ⟨rfl, L⟩
  have HL : Hid _ := L
  clear L
  go_wp2
  go_ret
  exact ⟨rfl, HL.out⟩
end Go.Proofs.Qxb6617929aDoor
