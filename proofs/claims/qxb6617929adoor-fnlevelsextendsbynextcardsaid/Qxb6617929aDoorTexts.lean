/-
  THE WALKS OF hasPrefixText, parseCanonical AND THE TWO BOUNDS zzBytes.
-/
import Derived.Test.Qxb6617929aDoorRows
import Derived.Test.Qxb6617929aDoorPlain
import Derived.WalkKit
import Derived.WalkSpells
import Derived.Deep.QuietTactic
import Derived.BigQuiet
namespace Go.Proofs.Qxb6617929aDoor
open Go.RowKit Plain
set_option linter.unusedVariables false

theorem ret_bool {a b : Bool} (h : a = b) : Ending.returned (.bool a) = .returned (.bool b) := by rw [h]

/-- wr is w, some draws later. -/
def Drawn (w wr : World) : Prop := ∃ m, wr = w.drewN m
theorem Drawn.refl (w : World) : Drawn w w := ⟨0, rfl⟩
theorem Drawn.more {w wr : World} (h : Drawn w wr) (n : Nat) : Drawn w (wr.drewN n) := by
  obtain ⟨m, rfl⟩ := h; exact ⟨m + n, World.drewN_drewN _ _ _⟩
theorem Drawn.cell {w wr : World} (h : Drawn w wr) {a : Addr} : wr.cell? a = w.cell? a := by
  obtain ⟨m, rfl⟩ := h; rfl
theorem Drawn.trans {w wr w2 : World} (h : Drawn w wr) (h2 : Drawn wr w2) : Drawn w w2 := by
  obtain ⟨m, rfl⟩ := h2; exact h.more m
theorem Drawn.below {w wr : World} (h : Drawn w wr) : Below w.heap.size w wr := by
  obtain ⟨m, rfl⟩ := h; exact ⟨rfl, rfl, rfl, Nat.le_refl _, fun _ _ => rfl⟩

/-- hasPrefixText, where p is a prefix of s. -/
theorem prefix_any (s p : ByteArray) (hs : s.size ≤ 9223372036854775807) (hps : p.size ≤ s.size) (heq : ∀ j (h1 : j < s.size) (h2 : j < p.size), s[j] = p[j]) (w : World) :
    Calls Tryd.prog 7 #[.string s, .string p] w fun e w' => e = .returned (.bool true) ∧ Drawn w w' := by
  have HE : Hid _ := heq
  clear heq
  go_enter Tryd.func7, Tryd.ntmps7
  go_wp2
  go_loopw [5] (fun i wr => ∃ k : Nat, k ≤ p.size ∧ i = .int .i64 k ∧ Drawn w wr) (fun i _ => p.size - (intOf i).toNat)
  case atStart => exact ⟨0, by omega, rfl, Drawn.refl w⟩
  case round =>
    obtain ⟨k, hk, rfl, HD⟩ := hrel
    by_cases hlt : k < p.size
    · have hls : k < s.size := by omega
      have he := HE.out k hls hlt
      go_wp2
      go_quiet (fail)
      go_wp2
      go_round
      case rel => exact ⟨k + 1, by omega, by go_num, HD.more _⟩
      case measure => simp [intOf]; omega
    · go_wp2
      go_ret
      exact ⟨rfl, HD⟩

/-! ### parseCanonical, at a numeral -/
theorem take_snoc (s : ByteArray) (k : Nat) (h : k < s.size) : s.data.toList.take (k + 1) = s.data.toList.take k ++ [s[k]] := by
  rw [List.take_succ_eq_append_getElem (by simpa using h)]; rfl
theorem val_int {k : IntKind} {a b : Int} (h : a = b) : Value.int k a = .int k b := by rw [h]
theorem ret_two {a b : Int} {c : Bool} (h : a = b) : Ending.returned (.tuple #[.int .i64 a, .bool c]) = .returned (.tuple #[.int .i64 b, .bool c]) := by rw [h]

set_option maxHeartbeats 400000 in
theorem parse_any (t : ByteArray) (u : Nat) (ht : t.data.toList = Lib.decDigits u) (hu : 0 < u) (h9 : t.size ≤ 9) (w : World) :
    Calls Tryd.prog 8 #[.string t] w fun e w' => e = .returned (.tuple #[.int .i64 u, .bool true]) ∧ w' = w := by
  have hall : ∀ d ∈ t.data.toList, 48 ≤ d.toNat ∧ d.toNat ≤ 57 := by rw [ht]; exact decDigits_digit u
  have hlen : t.data.toList.length = t.size := by simp
  obtain ⟨d0, r0, hd0, hz⟩ := decDigits_head u hu
  have hpos : 0 < t.size := by rw [← hlen, ht, hd0]; simp
  have hfirst : ((t[0].toNat : Int) == 48) = false := by
    have := byte_at t 0 hpos
    rw [ht, hd0] at this
    have e : t[0] = d0 := (Option.some.inj this).symm
    rw [e]
    simp only [beq_eq_false_iff_ne, ne_eq]
    omega
  have HB : Hid (∀ k, (h : k < t.size) → 48 ≤ t[k].toNat ∧ t[k].toNat ≤ 57) := fun k h => hall _ (List.mem_of_getElem? (byte_at t k h))
  have HV : Hid (∀ k, k ≤ t.size → valD (t.data.toList.take k) < 1000000000) := fun k hk => by
    have h1 := valD_take_lt _ hall k (by omega)
    have h2 : 10 ^ k ≤ 10 ^ 9 := Nat.pow_le_pow_right (by decide) (by omega)
    omega
  have HF : Hid (valD t.data.toList = u) := by show valD t.data.toList = u; rw [ht]; exact val_decDigits u
  have hne : ((t.size : Int) == 0) = false := by simp only [beq_eq_false_iff_ne, ne_eq]; omega
  clear hall hd0 ht hlen
  go_enter Tryd.func8, Tryd.ntmps8
  go_wp2
  go_loop [4, 5] (fun v i => ∃ k : Nat, k ≤ t.size ∧ i = .int .i64 k ∧ v = .int .i64 ((valD (t.data.toList.take k) : Nat) : Int)) (fun _ i => t.size - (intOf i).toNat)
  case atStart => exact ⟨0, by omega, rfl, rfl⟩
  case round =>
    obtain ⟨k, hk, rfl, rfl⟩ := hrel
    have hv := HV.out k hk
    by_cases hlt : k < t.size
    · have hb := HB.out k hlt
      have hb1 : 48 ≤ (t[k].toNat : Int) := by omega
      have hb2 : (t[k].toNat : Int) ≤ 57 := by omega
      have HS : Hid (valD (t.data.toList.take (k + 1)) = valD (t.data.toList.take k) * 10 + (t[k].toNat - 48)) := by
        show valD (t.data.toList.take (k + 1)) = _
        rw [take_snoc t k hlt, valD_snoc]
      clear hb
      go_wp2
      go_round
      case rel => exact ⟨k + 1, by omega, by go_num, val_int (by rw [HS.out]; omega)⟩
      case measure => simp [intOf]; omega
    · go_wp2
      go_ret2
      exact ⟨ret_two (by rw [List.take_of_length_le (by simp; omega), HF.out]), rfl⟩

/-- zzBytes_FnLevelsExtendsByNext. -/
theorem zb1_any (s : ByteArray) (n : Int) (hs : s.size ≤ 1048576) (w : World) :
    Calls Tryd.prog 5 #[.string s, .int .i64 n] w fun e w' => e = .returned (.bool true) ∧ w' = w := by
  go_enter Tryd.func5, Tryd.ntmps5
  go_wp2
  go_ret
  exact ⟨rfl, rfl⟩
theorem zb1_no (s : ByteArray) (n : Int) (hs : 1048576 < s.size) (w : World) :
    Calls Tryd.prog 5 #[.string s, .int .i64 n] w fun e w' => e = .returned (.bool false) ∧ w' = w := by
  go_enter Tryd.func5, Tryd.ntmps5
  go_wp2
  go_ret
  exact ⟨rfl, rfl⟩
/-- zzBytes_FnLevelsSuffixIndependentOfName. -/
def zb2 (a b : Nat) : Bool := decide (a ≤ 1048576) && decide (b ≤ 1048576) && decide (a + b ≤ 1048576)
theorem zb2_yes {l m : Nat} (h1 : l ≤ 1048576) (h2 : m ≤ 1048576) (h3 : l + m ≤ 1048576) : zb2 l m = true := by unfold zb2; simp only [h1, h2, h3, decide_true, Bool.and_self]
theorem zb2_no {l m : Nat} (h : ¬ (l ≤ 1048576 ∧ m ≤ 1048576 ∧ l + m ≤ 1048576)) : zb2 l m = false := by
  unfold zb2
  rw [Bool.eq_false_iff]
  intro hc
  simp only [Bool.and_eq_true, decide_eq_true_eq] at hc
  omega
set_option maxHeartbeats 400000 in
theorem zb2_any (a b : ByteArray) (n : Int) (ha : a.size ≤ 9223372036854775807) (hb : b.size ≤ 9223372036854775807) (w : World) :
    Calls Tryd.prog 9 #[.string a, .string b, .int .i64 n] w fun e w' => e = .returned (.bool (zb2 a.size b.size)) ∧ w' = w := by
  by_cases h1 : a.size ≤ 1048576
  · by_cases h2 : b.size ≤ 1048576
    · by_cases h3 : a.size + b.size ≤ 1048576
      · have H : Hid (zb2 a.size b.size = true) := zb2_yes h1 h2 h3
        go_enter Tryd.func9, Tryd.ntmps9
        go_wp2
        go_ret
        exact ⟨ret_bool H.out.symm, rfl⟩
      · have H : Hid (zb2 a.size b.size = false) := zb2_no (by omega)
        go_enter Tryd.func9, Tryd.ntmps9
        go_wp2
        go_ret
        exact ⟨ret_bool H.out.symm, rfl⟩
    · have H : Hid (zb2 a.size b.size = false) := zb2_no (by omega)
      go_enter Tryd.func9, Tryd.ntmps9
      go_wp2
      go_ret
      exact ⟨ret_bool H.out.symm, rfl⟩
  · have H : Hid (zb2 a.size b.size = false) := zb2_no (by omega)
    go_enter Tryd.func9, Tryd.ntmps9
    go_wp2
    go_ret
    exact ⟨ret_bool H.out.symm, rfl⟩
end Go.Proofs.Qxb6617929aDoor
