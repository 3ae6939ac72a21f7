/-
  Plain words for writeEscaped: bytes of a string by their place, digits, their value. No Go text here.
-/
import Derived.WalkKit
set_option linter.unusedVariables false
set_option linter.unusedSimpArgs false
namespace Go.Proofs.Qxb6601022a.Esc
open Go.RowKit

theorem hide {p : Prop} (h : p) : Hid p := h
theorem ret_bool {a b : Bool} (h : a = b) : Ending.returned (.bool a) = .returned (.bool b) := by rw [h]

/-- Byte i of s, as a number. -/
def by_ (s : ByteArray) (i : Nat) : Nat := (s.data.toList.getD i 0).toNat
theorem by_lt (s : ByteArray) (i : Nat) : by_ s i < 256 := by unfold by_; exact UInt8.toNat_lt _
theorem by_at (s : ByteArray) (i : Nat) (h : i < s.size) : (s[i].toNat : Int) = ((by_ s i : Nat) : Int) := by
  have hd : i < s.data.size := h
  have : s[i] = s.data.toList.getD i 0 := by
    simp only [List.getD, Array.getElem?_toList, Array.getElem?_eq_getElem hd, Option.getD_some]
    rfl
  rw [this]; rfl
theorem by_extract (s : ByteArray) (a i : Nat) (h : a + i < s.size) : by_ (s.extract a s.size) i = by_ s (a + i) := by
  unfold by_
  have hd : a + i < s.data.size := h
  have e1 : (s.extract a s.size).data.toList = s.data.toList.drop a := by
    rw [ByteArray.data_extract, Array.toList_extract]
    simp only [List.extract]
    rw [List.take_of_length_le]
    simp
  rw [e1]
  simp [List.getD, List.getElem?_drop]
theorem size_extract (s : ByteArray) (a : Nat) (h : a ≤ s.size) : (s.extract a s.size).size = s.size - a := by
  rw [ByteArray.size_extract]; omega

/-- What digitValue answers. -/
def dv (c : Nat) : Int := if 48 ≤ c ∧ c ≤ 57 then (c : Int) - 48 else if 97 ≤ c ∧ c ≤ 102 then (c : Int) - 87 else if 65 ≤ c ∧ c ≤ 70 then (c : Int) - 55 else -1
theorem dv_bd (c : Nat) : -1 ≤ dv c ∧ dv c ≤ 15 := by unfold dv; split; omega; split; omega; split <;> omega
/-- The value of the first n digits, as a uint32. -/
def val (base : Nat) (g : Nat → Nat) : Nat → Nat
  | 0 => 0
  | n + 1 => (val base g n * base + (dv (g n)).toNat) % 4294967296
theorem val_lt (base : Nat) (g : Nat → Nat) (n : Nat) : val base g n < 4294967296 := by
  cases n with
  | zero => show 0 < 4294967296; decide
  | succ n => exact Nat.mod_lt _ (by decide)
/-- digits stops behind n of them. -/
structure Stop (base most len : Nat) (g : Nat → Nat) (n : Nat) : Prop where
  hmost : n ≤ most
  hlen : n ≤ len
  yes : ∀ i, i < n → 0 ≤ dv (g i) ∧ dv (g i) < base
  no : n = most ∨ n = len ∨ ¬ (0 ≤ dv (g n) ∧ dv (g n) < base)
theorem Stop.eq {base most len : Nat} {g : Nat → Nat} {n m : Nat} (h : Stop base most len g n) (hm : m ≤ most) (hl : m ≤ len) (hy : ∀ i, i < m → 0 ≤ dv (g i) ∧ dv (g i) < base)
    (hn : m = most ∨ m = len ∨ ¬ (0 ≤ dv (g m) ∧ dv (g m) < base)) : n = m := by
  obtain ⟨h1, h2, h3, h4⟩ := h
  rcases Nat.lt_trichotomy n m with hlt | rfl | hgt
  · rcases h4 with h | h | h
    · omega
    · omega
    · exact absurd (hy n hlt) h
  · rfl
  · rcases hn with h | h | h
    · omega
    · omega
    · exact absurd (h3 m hgt) h

/-- What hexDigit answers at v, of which only v % 16 counts. -/
def hexc (d : Nat) (up : Bool) : Nat := if d < 10 then 48 + d else if up then 55 + d else 87 + d
theorem hexc_bd (d : Nat) (up : Bool) (h : d < 16) : 48 ≤ hexc d up ∧ hexc d up ≤ 102 := by
  unfold hexc; cases up <;> simp <;> split <;> omega
theorem dv_hexc (d : Nat) (up : Bool) (h : d < 16) : dv (hexc d up) = (d : Int) := by
  unfold hexc
  by_cases h1 : d < 10
  · rw [if_pos h1]; unfold dv; rw [if_pos (by omega)]; omega
  · rw [if_neg h1]
    cases up
    · unfold dv; simp only [Bool.false_eq_true, if_false]; rw [if_neg (by omega), if_pos (by omega)]; omega
    · unfold dv; simp only [if_true]; rw [if_neg (by omega), if_neg (by omega), if_pos (by omega)]; omega

end Go.Proofs.Qxb6601022a.Esc
