/-
  The plain mathematics of isDecimal: bytes are digits, dots or others; counts of each kind. No Go in sight.
-/
import Derived.WalkKit
namespace Go.Proofs.Qxb6600461a.Dec
open Go.RowKit

def kindOf (c : Int) : Nat := if 48 ≤ c ∧ c ≤ 57 then 0 else if c = 46 then 1 else 2
def cnt (j : Nat) (l : List UInt8) : Int := (l.filter fun c => kindOf (c.toNat : Int) == j).length
def b01 (b : Bool) : Int := if b then 1 else 0
/-- What isDecimal answers. -/
def decB (l : List UInt8) (p : Bool) : Bool := decide (0 < cnt 0 l ∧ cnt 2 l = 0 ∧ cnt 1 l ≤ b01 p)

theorem cnt_bd (j : Nat) (l : List UInt8) : 0 ≤ cnt j l ∧ cnt j l ≤ l.length := by
  unfold cnt; exact ⟨by omega, by have := List.length_filter_le (fun c : UInt8 => kindOf (c.toNat : Int) == j) l; omega⟩
theorem cnt_snoc (j : Nat) (l : List UInt8) (c : UInt8) : cnt j (l ++ [c]) = cnt j l + if kindOf (c.toNat : Int) = j then 1 else 0 := by
  unfold cnt
  rw [List.filter_append]
  by_cases h : kindOf (c.toNat : Int) = j <;> simp [h]
theorem cnt_take_le (j : Nat) (l : List UInt8) (m : Nat) : cnt j (l.take m) ≤ cnt j l := by
  have : cnt j l = cnt j (l.take m) + cnt j (l.drop m) := by
    unfold cnt
    rw [← Int.natCast_add, ← List.length_append, ← List.filter_append, List.take_append_drop]
  have := (cnt_bd j (l.drop m)).1
  omega
theorem take_snoc (l : List UInt8) (k : Nat) (h : k < l.length) : l.take (k + 1) = l.take k ++ [l.getD k 0] := by
  rw [List.take_succ_eq_append_getElem h]; simp [List.getD, h]
theorem cnt_succ (j : Nat) (l : List UInt8) (k : Nat) (c : Int) (hk : k < l.length) (hc : c = ((l.getD k 0).toNat : Int)) :
    cnt j (l.take (k + 1)) = cnt j (l.take k) + if kindOf c = j then 1 else 0 := by
  rw [take_snoc l k hk, cnt_snoc, hc]
theorem kind_dig {c : Int} (h1 : 48 ≤ c) (h2 : c ≤ 57) : kindOf c = 0 := by unfold kindOf; rw [if_pos ⟨h1, h2⟩]
theorem kind_dot {c : Int} (h : c = 46) : kindOf c = 1 := by subst h; rfl
theorem kind_oth {c : Int} (h1 : ¬ (48 ≤ c ∧ c ≤ 57)) (h2 : c ≠ 46) : kindOf c = 2 := by unfold kindOf; rw [if_neg h1, if_neg h2]

/-- The state of isDecimal's loop behind k bytes. -/
def St (l : List UInt8) (p : Bool) (k : Nat) (d : Int) (b : Bool) : Prop :=
  d = cnt 0 (l.take k) ∧ cnt 2 (l.take k) = 0 ∧ b01 b + cnt 1 (l.take k) = b01 p
theorem St_start (l : List UInt8) (p : Bool) : St l p 0 0 p := ⟨rfl, rfl, by simp [cnt]⟩
theorem St_bd {l : List UInt8} {p : Bool} {k : Nat} {d : Int} {b : Bool} (h : St l p k d b) : 0 ≤ d ∧ d ≤ k := by
  have := cnt_bd 0 (l.take k)
  have h2 : (l.take k).length ≤ k := List.length_take_le _ _
  have := h.1
  omega
theorem St_dig {l : List UInt8} {p : Bool} {k : Nat} {d : Int} {b : Bool} {c : Int} (h : St l p k d b) (hk : k < l.length) (hc : c = ((l.getD k 0).toNat : Int)) (h1 : 48 ≤ c) (h2 : c ≤ 57) : St l p (k + 1) (d + 1) b := by
  obtain ⟨a1, a2, a3⟩ := h
  have e := fun j => cnt_succ j l k c hk hc
  rw [kind_dig h1 h2] at e
  refine ⟨?_, ?_, ?_⟩
  · rw [e]; simp; omega
  · rw [e]; simp; omega
  · rw [e]; simp; omega
theorem St_dot {l : List UInt8} {p : Bool} {k : Nat} {d : Int} {c : Int} (h : St l p k d true) (hk : k < l.length) (hc : c = ((l.getD k 0).toNat : Int)) (h1 : c = 46) : St l p (k + 1) d false := by
  obtain ⟨a1, a2, a3⟩ := h
  have e := fun j => cnt_succ j l k c hk hc
  rw [kind_dot h1] at e
  refine ⟨?_, ?_, ?_⟩
  · rw [e]; simp; omega
  · rw [e]; simp; omega
  · rw [e]; simp [b01] at a3 ⊢; omega
theorem St_bad {l : List UInt8} {p : Bool} {k : Nat} {d : Int} {b : Bool} {c : Int} (h : St l p k d b) (hk : k < l.length) (hc : c = ((l.getD k 0).toNat : Int)) (h1 : ¬ (48 ≤ c ∧ c ≤ 57)) (h2 : c ≠ 46 ∨ b = false) : decB l p = false := by
  obtain ⟨a1, a2, a3⟩ := h
  have e := fun j => cnt_succ j l k c hk hc
  by_cases h46 : c = 46
  · rw [kind_dot h46] at e
    have hb : b = false := by rcases h2 with h2 | h2; exact absurd h46 h2; exact h2
    subst hb
    have e1 := e 1
    have := cnt_take_le 1 l (k + 1)
    simp [b01] at a3 e1
    have : ¬ cnt 1 l ≤ b01 p := by unfold b01; omega
    simp [decB, this]
  · rw [kind_oth h1 h46] at e
    have e2 := e 2
    have := cnt_take_le 2 l (k + 1)
    simp at e2
    have : ¬ cnt 2 l = 0 := by omega
    simp [decB, this]
theorem St_end {l : List UInt8} {p : Bool} {k : Nat} {d : Int} {b : Bool} (h : St l p k d b) (hk : l.length ≤ k) : decB l p = decide (0 < d) := by
  obtain ⟨a1, a2, a3⟩ := h
  rw [List.take_of_length_le hk] at a1 a2 a3
  have : cnt 1 l ≤ b01 p := by rw [← a3]; unfold b01; split <;> omega
  simp [decB, ← a1, a2, this]

/-- The law's own three counts behind k bytes. -/
def Ct (l : List UInt8) (k : Nat) (a b c : Int) : Prop := a = cnt 0 (l.take k) ∧ b = cnt 1 (l.take k) ∧ c = cnt 2 (l.take k)
theorem Ct_start (l : List UInt8) : Ct l 0 0 0 0 := ⟨rfl, rfl, rfl⟩
theorem Ct_bd {l : List UInt8} {k : Nat} {a b c : Int} (h : Ct l k a b c) : 0 ≤ a ∧ a ≤ k ∧ 0 ≤ b ∧ b ≤ k ∧ 0 ≤ c ∧ c ≤ k := by
  obtain ⟨rfl, rfl, rfl⟩ := h
  have h2 : (l.take k).length ≤ k := List.length_take_le _ _
  have := cnt_bd 0 (l.take k)
  have := cnt_bd 1 (l.take k)
  have := cnt_bd 2 (l.take k)
  omega
theorem Ct_dig {l : List UInt8} {k : Nat} {a b c x : Int} (h : Ct l k a b c) (hk : k < l.length) (hx : x = ((l.getD k 0).toNat : Int)) (h1 : 48 ≤ x) (h2 : x ≤ 57) : Ct l (k + 1) (a + 1) b c := by
  obtain ⟨rfl, rfl, rfl⟩ := h
  have e := fun j => cnt_succ j l k x hk hx
  rw [kind_dig h1 h2] at e
  refine ⟨?_, ?_, ?_⟩ <;> rw [e] <;> simp
theorem Ct_dot {l : List UInt8} {k : Nat} {a b c x : Int} (h : Ct l k a b c) (hk : k < l.length) (hx : x = ((l.getD k 0).toNat : Int)) (h1 : x = 46) : Ct l (k + 1) a (b + 1) c := by
  obtain ⟨rfl, rfl, rfl⟩ := h
  have e := fun j => cnt_succ j l k x hk hx
  rw [kind_dot h1] at e
  refine ⟨?_, ?_, ?_⟩ <;> rw [e] <;> simp
theorem Ct_oth {l : List UInt8} {k : Nat} {a b c x : Int} (h : Ct l k a b c) (hk : k < l.length) (hx : x = ((l.getD k 0).toNat : Int)) (h1 : ¬ (48 ≤ x ∧ x ≤ 57)) (h2 : x ≠ 46) : Ct l (k + 1) a b (c + 1) := by
  obtain ⟨rfl, rfl, rfl⟩ := h
  have e := fun j => cnt_succ j l k x hk hx
  rw [kind_oth h1 h2] at e
  refine ⟨?_, ?_, ?_⟩ <;> rw [e] <;> simp
theorem Ct_end {l : List UInt8} {k : Nat} {a b c : Int} (h : Ct l k a b c) (hk : l.length ≤ k) (p : Bool) : decB l p = decide (0 < a ∧ c = 0 ∧ b ≤ b01 p) := by
  obtain ⟨rfl, rfl, rfl⟩ := h
  rw [List.take_of_length_le hk]; rfl
theorem end_yes {l : List UInt8} {k : Nat} {a b c : Int} (h : Ct l k a b c) (hk : l.length ≤ k) (p : Bool) (ha : 0 < a) (hc : c = 0) : (decB l p == decide (b ≤ b01 p)) = true := by
  rw [Ct_end h hk p]; simp [ha, hc]
theorem end_no {l : List UInt8} {k : Nat} {a b c : Int} (h : Ct l k a b c) (hk : l.length ≤ k) (p : Bool) (hn : ¬ (0 < a ∧ c = 0)) : (!decB l p) = true := by
  rw [Ct_end h hk p]
  have : ¬ (0 < a ∧ c = 0 ∧ b ≤ b01 p) := fun ⟨x, y, _⟩ => hn ⟨x, y⟩
  simp [this]
theorem byteAt (s : ByteArray) (k : Nat) (h : k < s.size) : (s[k].toNat : Int) = ((s.data.toList.getD k 0).toNat : Int) := by
  have hd : k < s.data.size := h
  have : s[k] = s.data.toList.getD k 0 := by
    simp only [List.getD, Array.getElem?_toList, Array.getElem?_eq_getElem hd, Option.getD_some]
    rfl
  rw [this]

end Go.Proofs.Qxb6600461a.Dec
