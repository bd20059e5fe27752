/-
  THE PLAIN LAW OF THE LEVELS: what 'name + "-" + Itoa(i+1)' is, byte by byte. No Go in sight.
-/
import Derived.Lib.ItoaNum
import Derived.Lib.ItoaMem
import Derived.Lib.Strings
namespace Go.Proofs.Qxb6617929aDoor.Plain
open Go.Lib

/-! ### decimal numerals -/
/-- The number that a row of digits spells. -/
def valD (l : List UInt8) : Nat := l.foldl (fun a d => a * 10 + (d.toNat - 48)) 0
theorem valD_snoc (l : List UInt8) (d : UInt8) : valD (l ++ [d]) = valD l * 10 + (d.toNat - 48) := by unfold valD; simp
theorem digit_toNat (k : Nat) (h : k < 10) : (UInt8.ofNat (48 + k)).toNat = 48 + k := by
  rw [UInt8.toNat_ofNat']; omega
theorem val_decDigits (u : Nat) : valD (decDigits u) = u := by
  induction u using Nat.strongRecOn with
  | _ u ih =>
    by_cases h : u < 10
    · rw [decDigits, dif_pos h]
      show 0 * 10 + ((UInt8.ofNat (48 + u)).toNat - 48) = u
      rw [digit_toNat u h]
      omega
    · rw [decDigits, dif_neg h, valD_snoc, ih (u / 10) (by omega), digit_toNat _ (by omega)]
      omega
theorem decDigits_digit (u : Nat) : ∀ d ∈ decDigits u, 48 ≤ d.toNat ∧ d.toNat ≤ 57 := by
  induction u using Nat.strongRecOn with
  | _ u ih =>
    by_cases h : u < 10
    · rw [decDigits, dif_pos h]
      intro d hd
      rw [List.mem_singleton.1 hd, digit_toNat u h]; omega
    · rw [decDigits, dif_neg h]
      intro d hd
      rw [List.mem_append] at hd
      rcases hd with hd | hd
      · exact ih (u / 10) (by omega) d hd
      · rw [List.mem_singleton.1 hd, digit_toNat _ (by omega)]; omega
theorem decDigits_head (u : Nat) (hu : 0 < u) : ∃ d r, decDigits u = d :: r ∧ d.toNat ≠ 48 := by
  induction u using Nat.strongRecOn with
  | _ u ih =>
    by_cases h : u < 10
    · rw [decDigits, dif_pos h]
      exact ⟨_, [], rfl, by rw [digit_toNat u h]; omega⟩
    · rw [decDigits, dif_neg h]
      obtain ⟨d, r, e, hd⟩ := ih (u / 10) (by omega) (by omega)
      exact ⟨d, r ++ [UInt8.ofNat (48 + u % 10)], by rw [e]; rfl, hd⟩
theorem decDigits_last (u : Nat) : ∃ r, decDigits u = r ++ [UInt8.ofNat (48 + u % 10)] := by
  by_cases h : u < 10
  · rw [decDigits, dif_pos h]
    exact ⟨[], by rw [Nat.mod_eq_of_lt h]; rfl⟩
  · rw [decDigits, dif_neg h]
    exact ⟨_, rfl⟩
theorem nDigits_mono (u : Nat) : ∀ v, u ≤ v → nDigits u ≤ nDigits v := by
  induction u using Nat.strongRecOn with
  | _ u ih =>
    intro v h
    by_cases hu : u < 10
    · rw [nDigits_small hu]; exact nDigits_pos v
    · rw [nDigits_big hu, nDigits_big (by omega : ¬ v < 10)]
      have := ih (u / 10) (by omega) (v / 10) (by omega)
      omega
theorem nDigits_le5 (u : Nat) (h : u < 100000) : nDigits u ≤ 5 := by
  have := nDigits_mono u 99999 (by omega)
  have e : nDigits 99999 = 5 := nDigits_unique 4 99999 (by decide) (by decide)
  omega
theorem valD_take_lt (l : List UInt8) (hl : ∀ d ∈ l, 48 ≤ d.toNat ∧ d.toNat ≤ 57) : ∀ k, k ≤ l.length → valD (l.take k) < 10 ^ k := by
  intro k
  induction k with
  | zero => intro _; unfold valD; simp
  | succ k ih =>
    intro hk
    have h1 := ih (by omega)
    have hk' : k < l.length := by omega
    rw [List.take_succ_eq_append_getElem hk', valD_snoc, Nat.pow_succ]
    have := hl _ (List.getElem_mem hk')
    omega

/-! ### the levels' texts -/
/-- The digits of i + 1. -/
def dgS (i : Nat) : ByteArray := ⟨(decDigits (i + 1)).toArray⟩
/-- A '-' and the digits of i + 1. -/
def sufS (i : Nat) : ByteArray := ⟨(45 :: decDigits (i + 1)).toArray⟩
/-- name + "-" + Itoa(i + 1). -/
def lv (s : ByteArray) (i : Nat) : ByteArray := s ++ sufS i

theorem lv_eq (s : ByteArray) (i : Nat) (n : Int) (hn : n = (i : Int) + 1) : s ++ ⟨#[45]⟩ ++ ⟨(itoa n).toArray⟩ = lv s i := by
  subst hn
  have e : itoa ((i : Int) + 1) = decDigits (i + 1) := itoa_nonneg (i + 1)
  rw [e]
  unfold lv sufS
  apply ByteArray.ext
  simp [ByteArray.data_append]
theorem size_sufS (i : Nat) : (sufS i).size = nDigits (i + 1) + 1 := by
  unfold sufS
  show (45 :: decDigits (i + 1)).toArray.size = _
  simp [decDigits_length]
theorem size_dgS (i : Nat) : (dgS i).size = nDigits (i + 1) := by
  unfold dgS
  show (decDigits (i + 1)).toArray.size = _
  simp [decDigits_length]
theorem size_lv (s : ByteArray) (i : Nat) : (lv s i).size = s.size + (nDigits (i + 1) + 1) := by
  unfold lv
  rw [ByteArray.size_append, size_sufS]
theorem lv_data (s : ByteArray) (i : Nat) : (lv s i).data.toList = s.data.toList ++ 45 :: decDigits (i + 1) := by
  unfold lv sufS
  simp [ByteArray.data_append]
theorem byte_at (s : ByteArray) (j : Nat) (h : j < s.size) : s.data.toList[j]? = some s[j] := by
  rw [List.getElem?_eq_getElem (by simpa using h)]; rfl
theorem lv_prefix (s : ByteArray) (i j : Nat) (h1 : j < (lv s i).size) (h2 : j < s.size) : (lv s i)[j] = s[j] := by
  have h := byte_at (lv s i) j h1
  rw [lv_data, List.getElem?_append_left (by simpa using h2), byte_at s j h2] at h
  exact (Option.some.inj h).symm
theorem lv_dash (s : ByteArray) (i : Nat) (h : s.size < (lv s i).size) : (lv s i)[s.size] = 45 := by
  have h' := byte_at (lv s i) s.size h
  have e : s.data.toList.length = s.size := by simp
  rw [lv_data, List.getElem?_append_right (by omega), e, Nat.sub_self] at h'
  exact (Option.some.inj h').symm
theorem lv_extract (s : ByteArray) (i n : Nat) (hn : n = (lv s i).size) : (lv s i).extract s.size n = sufS i := by
  subst hn
  have e : s.data.toList.length = s.size := by simp
  have e2 : (lv s i).data.toList.length = (lv s i).size := by simp
  apply ByteArray.ext
  apply Array.toList_inj.1
  rw [extract_data, lv_data, ← e, List.drop_left, List.take_of_length_le]
  · rfl
  · rw [← e2, lv_data, List.length_append]; omega
theorem lv_extract1 (s : ByteArray) (i n : Nat) (hn : n = (lv s i).size) : (lv s i).extract (s.size + 1) n = dgS i := by
  subst hn
  have e : s.data.toList.length = s.size := by simp
  have e2 : (lv s i).data.toList.length = (lv s i).size := by simp
  apply ByteArray.ext
  apply Array.toList_inj.1
  rw [extract_data, lv_data, ← e, ← List.drop_drop, List.drop_left, List.take_of_length_le]
  · rfl
  · rw [← e2, lv_data, List.length_append, List.length_drop]; simp; omega
theorem sufS_first (i : Nat) (h : 0 < (sufS i).size) : (sufS i)[0] = 45 := rfl
theorem sufS_last (i q : Nat) (h : q < (sufS i).size) (hq : q + 1 = (sufS i).size) : (sufS i)[q] = UInt8.ofNat (48 + (i + 1) % 10) := by
  have h' := byte_at (sufS i) q h
  obtain ⟨r, hr⟩ := decDigits_last (i + 1)
  have e : (sufS i).data.toList = 45 :: (r ++ [UInt8.ofNat (48 + (i + 1) % 10)]) := by
    unfold sufS; simp [hr]
  have e2 : (sufS i).size = r.length + 2 := by
    have : (sufS i).data.toList.length = (sufS i).size := by simp
    rw [← this, e]; simp
  obtain rfl : q = r.length + 1 := by omega
  rw [e, List.getElem?_cons_succ, List.getElem?_append_right (Nat.le_refl _), Nat.sub_self] at h'
  exact (Option.some.inj h').symm
end Go.Proofs.Qxb6617929aDoor.Plain
