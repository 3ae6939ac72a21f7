/-
  The plain mathematics of the key table's index: open addressing, linear probing. No Go in sight.
-/
import Derived.WalkKit
set_option linter.unusedVariables false
set_option linter.unusedSimpArgs false
namespace Go.Proofs.Qxb6600461a.Kt
open Go.RowKit

theorem hide {p : Prop} (h : p) : Hid p := h

def upd (f : Nat → Nat) (p v : Nat) (i : Nat) : Nat := if i = p then v else f i
theorem upd_same (f : Nat → Nat) (p v : Nat) : upd f p v p = v := by simp [upd]
theorem upd_other (f : Nat → Nat) (p v i : Nat) (h : i ≠ p) : upd f p v i = f i := by simp [upd, h]

/-- How many of the first k slots are used. -/
def used (A : Nat → Nat) : Nat → Nat
  | 0 => 0
  | k + 1 => used A k + if A k = 0 then 0 else 1
theorem used_le (A : Nat → Nat) (k : Nat) : used A k ≤ k := by
  induction k with
  | zero => exact Nat.le_refl _
  | succ k ih => simp only [used]; split <;> omega
theorem used_congr (A B : Nat → Nat) (k : Nat) (h : ∀ i, i < k → A i = B i) : used A k = used B k := by
  induction k with
  | zero => rfl
  | succ k ih => simp only [used]; rw [ih (fun i hi => h i (by omega)), h k (by omega)]
theorem used_upd (A : Nat → Nat) (p v k : Nat) (hp : p < k) (h0 : A p = 0) (hv : v ≠ 0) : used (upd A p v) k = used A k + 1 := by
  induction k with
  | zero => omega
  | succ k ih =>
    simp only [used]
    by_cases e : p = k
    · subst e
      rw [used_congr (upd A p v) A p (fun i hi => upd_other _ _ _ _ (by omega)), upd_same, if_neg hv, if_pos h0]
    · rw [ih (by omega), upd_other _ _ _ _ (fun h => e h.symm)]; omega
theorem used_free (A : Nat → Nat) (k : Nat) (h : used A k < k) : ∃ q, q < k ∧ A q = 0 := by
  induction k with
  | zero => omega
  | succ k ih =>
    by_cases e : A k = 0
    · exact ⟨k, by omega, e⟩
    · simp only [used, if_neg e] at h
      obtain ⟨q, hq, h0⟩ := ih (by omega)
      exact ⟨q, by omega, h0⟩
theorem used_mono (A : Nat → Nat) (j k : Nat) (h : j ≤ k) : used A j ≤ used A k := by
  induction k with
  | zero => obtain rfl : j = 0 := by omega
            exact Nat.le_refl _
  | succ k ih =>
    by_cases e : j = k + 1
    · subst e; exact Nat.le_refl _
    · simp only [used]; have := ih (by omega); omega

theorem first_of {P : Nat → Prop} (n : Nat) (h : ∃ d, d < n ∧ P d) : ∃ d, d < n ∧ P d ∧ ∀ t, t < d → ¬ P t := by
  obtain ⟨d, hd, hp⟩ := h
  induction d using Nat.strongRecOn with
  | _ d ih =>
    by_cases hm : ∃ t, t < d ∧ P t
    · obtain ⟨t, ht, hpt⟩ := hm
      exact ih t ht (by omega) hpt
    · exact ⟨d, hd, hp, fun t ht hpt => hm ⟨t, ht, hpt⟩⟩

/-- The distance from home: (h + t) % M lies t behind h % M. -/
theorem dist_eq (h t M : Nat) (ht : t < M) : ((h + t) % M + M - h % M) % M = t := by
  have hM : 0 < M := by omega
  have e : (h + t) % M = (h % M + t) % M := by rw [Nat.add_mod, Nat.mod_eq_of_lt ht]
  rw [e]
  have hr : h % M < M := Nat.mod_lt _ hM
  generalize h % M = r at hr ⊢
  by_cases hc : r + t < M
  · rw [Nat.mod_eq_of_lt hc, show r + t + M - r = t + M from by omega, Nat.add_mod_right, Nat.mod_eq_of_lt ht]
  · have e2 : (r + t) % M = r + t - M := by rw [Nat.mod_eq_sub_mod (by omega), Nat.mod_eq_of_lt (by omega)]
    rw [e2, show r + t - M + M - r = t from by omega, Nat.mod_eq_of_lt ht]
theorem back_eq (h q M : Nat) (hq : q < M) : (h + (q + M - h % M) % M) % M = q := by
  have hM : 0 < M := by omega
  have hr : h % M < M := Nat.mod_lt _ hM
  rw [Nat.add_mod, Nat.mod_mod]
  generalize h % M = r at hr ⊢
  by_cases hc : r ≤ q
  · rw [show q + M - r = (q - r) + M from by omega, Nat.add_mod_right, Nat.mod_eq_of_lt (by omega : q - r < M), show r + (q - r) = q from by omega, Nat.mod_eq_of_lt hq]
  · rw [Nat.mod_eq_of_lt (by omega : q + M - r < M), show r + (q + M - r) = q + M from by omega, Nat.add_mod_right, Nat.mod_eq_of_lt hq]
theorem next_eq (h t M : Nat) : ((h + t) % M + 1) % M = (h + (t + 1)) % M := by
  rw [show h + (t + 1) = (h + t) + 1 from by omega, Nat.add_mod (h + t) 1 M, Nat.add_mod ((h + t) % M) 1 M, Nat.mod_mod]

/-- Linear probing from home h comes to an empty slot if there is one. -/
theorem probe_ends (h M : Nat) (A : Nat → Nat) (hf : ∃ q, q < M ∧ A q = 0) : ∃ d, d < M ∧ A ((h + d) % M) = 0 ∧ ∀ t, t < d → A ((h + t) % M) ≠ 0 := by
  obtain ⟨q, hq, h0⟩ := hf
  exact first_of (P := fun d => A ((h + d) % M) = 0) M ⟨(q + M - h % M) % M, Nat.mod_lt _ (by omega), by rw [back_eq h q M hq]; exact h0⟩

/-- Slot p is reached by probing from home h without passing an empty slot. -/
def Reach (M h : Nat) (A : Nat → Nat) (p : Nat) : Prop := ∃ d, d < M ∧ p = (h + d) % M ∧ ∀ t, t < d → A ((h + t) % M) ≠ 0
theorem Reach.upd {M h : Nat} {A : Nat → Nat} {p : Nat} (r : Reach M h A p) (q v : Nat) (hv : v ≠ 0) : Reach M h (upd A q v) p := by
  obtain ⟨d, hd, e, hn⟩ := r
  refine ⟨d, hd, e, fun t ht => ?_⟩
  by_cases hq : (h + t) % M = q
  · rw [hq, upd_same]; exact hv
  · rw [upd_other _ _ _ _ hq]; exact hn t ht

/-- The index holds n keys, whose hashes are hs. -/
structure TI (M n : Nat) (H A hs : Nat → Nat) : Prop where
  rng : ∀ p, p < M → A p ≠ 0 → A p ≤ n ∧ H p = hs (A p - 1) % 4294967296
  uniq : ∀ p q, p < M → q < M → A p ≠ 0 → A p = A q → p = q
  cnt : used A M = n
  reach : ∀ p, p < M → A p ≠ 0 → Reach M (H p) A p

theorem TI.add {M n : Nat} {H A hs : Nat → Nat} (I : TI M n H A hs) {d : Nat} (hd : d < M) (h0 : A ((hs n % 4294967296 + d) % M) = 0) (hn : ∀ t, t < d → A ((hs n % 4294967296 + t) % M) ≠ 0) :
    TI M (n + 1) (upd H ((hs n % 4294967296 + d) % M) (hs n % 4294967296)) (upd A ((hs n % 4294967296 + d) % M) (n + 1)) hs := by
  have hp : (hs n % 4294967296 + d) % M < M := Nat.mod_lt _ (by omega)
  generalize hpp : (hs n % 4294967296 + d) % M = p at h0 hp ⊢
  refine ⟨fun q hq hne => ?_, fun q r hq hr hne he => ?_, ?_, fun q hq hne => ?_⟩
  · by_cases e : q = p
    · subst e; simp [upd_same]
    · rw [upd_other _ _ _ _ e] at hne ⊢
      rw [upd_other _ _ _ _ e]
      have := I.rng q hq hne
      exact ⟨by omega, this.2⟩
  · by_cases e : q = p
    · by_cases f : r = p
      · rw [e, f]
      · exfalso
        rw [e, upd_same, upd_other _ _ _ _ f] at he
        have := (I.rng r hr (by omega)).1
        omega
    · rw [upd_other _ _ _ _ e] at hne he
      by_cases f : r = p
      · exfalso
        rw [f, upd_same] at he
        have := (I.rng q hq hne).1
        omega
      · rw [upd_other _ _ _ _ f] at he
        exact I.uniq q r hq hr hne he
  · rw [used_upd A p (n + 1) M hp h0 (by omega), I.cnt]
  · by_cases e : q = p
    · subst e
      rw [upd_same]
      refine Reach.upd ⟨d, hd, hpp.symm, hn⟩ _ _ (by omega)
    · rw [upd_other _ _ _ _ e] at hne ⊢
      exact (I.reach q hq hne).upd _ _ (by omega)

/-- While an index is laid anew: the first j slots of (H, A) lie in (H', A'). -/
structure RI (M j : Nat) (H A : Nat → Nat) (M' : Nat) (H' A' : Nat → Nat) : Prop where
  back : ∀ p, p < M' → A' p ≠ 0 → ∃ q, q < j ∧ A q = A' p ∧ H q = H' p
  uniq : ∀ p q, p < M' → q < M' → A' p ≠ 0 → A' p = A' q → p = q
  cnt : used A' M' = used A j
  reach : ∀ p, p < M' → A' p ≠ 0 → Reach M' (H' p) A' p

theorem used_zero (k : Nat) : used (fun _ => 0) k = 0 := by
  induction k with
  | zero => rfl
  | succ k ih => simp [used, ih]
theorem RI.start (M : Nat) (H A : Nat → Nat) (M' : Nat) : RI M 0 H A M' (fun _ => 0) (fun _ => 0) :=
  ⟨fun p _ h => absurd rfl h, fun p q _ _ h => absurd rfl h, used_zero _, fun p _ h => absurd rfl h⟩
theorem RI.skip {M j : Nat} {H A : Nat → Nat} {M' : Nat} {H' A' : Nat → Nat} (I : RI M j H A M' H' A') (h0 : A j = 0) : RI M (j + 1) H A M' H' A' := by
  refine ⟨fun p hp hne => ?_, I.uniq, ?_, I.reach⟩
  · obtain ⟨q, hq, e⟩ := I.back p hp hne
    exact ⟨q, by omega, e⟩
  · simp only [used]; rw [if_pos h0, I.cnt]; rfl
theorem RI.put {M j : Nat} {H A : Nat → Nat} {M' : Nat} {H' A' : Nat → Nat} (I : RI M j H A M' H' A') (hj : j < M) (hu : ∀ p q, p < M → q < M → A p ≠ 0 → A p = A q → p = q) (h1 : A j ≠ 0) {d : Nat} (hd : d < M') (h0 : A' ((H j + d) % M') = 0) (hn : ∀ t, t < d → A' ((H j + t) % M') ≠ 0) :
    RI M (j + 1) H A M' (upd H' ((H j + d) % M') (H j)) (upd A' ((H j + d) % M') (A j)) := by
  have hp : (H j + d) % M' < M' := Nat.mod_lt _ (by omega)
  generalize hpp : (H j + d) % M' = p at h0 hp ⊢
  refine ⟨fun q hq hne => ?_, fun q r hq hr hne he => ?_, ?_, fun q hq hne => ?_⟩
  · by_cases e : q = p
    · subst e; rw [upd_same, upd_same]; exact ⟨j, by omega, rfl, rfl⟩
    · rw [upd_other _ _ _ _ e] at hne ⊢
      rw [upd_other _ _ _ _ e]
      obtain ⟨r, hr, e⟩ := I.back q hq hne
      exact ⟨r, by omega, e⟩
  · by_cases e : q = p
    · by_cases f : r = p
      · rw [e, f]
      · exfalso
        rw [e, upd_same, upd_other _ _ _ _ f] at he
        obtain ⟨s, hs, e1, _⟩ := I.back r hr (by omega)
        have := hu j s hj (by omega) h1 (by omega)
        omega
    · rw [upd_other _ _ _ _ e] at hne he
      by_cases f : r = p
      · exfalso
        rw [f, upd_same] at he
        obtain ⟨s, hs, e1, _⟩ := I.back q hq hne
        have := hu j s hj (by omega) h1 (by omega)
        omega
      · rw [upd_other _ _ _ _ f] at he
        exact I.uniq q r hq hr hne he
  · rw [used_upd A' p (A j) M' hp h0 h1, I.cnt]; simp only [used]; rw [if_neg h1]
  · by_cases e : q = p
    · subst e
      rw [upd_same]
      exact Reach.upd ⟨d, hd, hpp.symm, hn⟩ _ _ h1
    · rw [upd_other _ _ _ _ e] at hne ⊢
      exact (I.reach q hq hne).upd _ _ h1
theorem RI.done {M n : Nat} {H A hs : Nat → Nat} {M' : Nat} {H' A' : Nat → Nat} (I : RI M M H A M' H' A') (T : TI M n H A hs) : TI M' n H' A' hs := by
  refine ⟨fun p hp hne => ?_, I.uniq, by rw [I.cnt, T.cnt], I.reach⟩
  obtain ⟨q, hq, e1, e2⟩ := I.back p hp hne
  have := T.rng q hq (by omega)
  rw [← e1, ← e2]
  exact this
theorem TI.start (M : Nat) (hs : Nat → Nat) : TI M 0 (fun _ => 0) (fun _ => 0) hs :=
  ⟨fun p _ h => absurd rfl h, fun p q _ _ h => absurd rfl h, used_zero _, fun p _ h => absurd rfl h⟩

end Go.Proofs.Qxb6600461a.Kt
