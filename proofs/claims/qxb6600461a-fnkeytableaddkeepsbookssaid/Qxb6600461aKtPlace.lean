/-
  The walk of (*keyTable).place: s goes into the first empty slot from its home on.
-/
import Derived.Test.Qxb6600461aRows
import Derived.Test.Qxb6600461aKtPlain
import Derived.WalkKit
import Derived.ProofKit
import Derived.WalkSpells
import Derived.Laws.BitsAllLaws
set_option linter.unusedVariables false
set_option linter.unusedSimpArgs false
namespace Go.Proofs.Qxb6600461a.Kt
open Go.RowKit

theorem cell_lt {w : World} {a : Addr} {v : Value} (h : w.cell? a = some v) : a.block < w.heap.size := by
  rcases Nat.lt_or_ge a.block w.heap.size with h' | h'
  · exact h'
  · simp [World.cell?, Array.getElem?_eq_none h'] at h

/-- Block S holds the M slots (H i, A i). -/
def Slots (w : World) (S M : Nat) (H A : Nat → Nat) : Prop :=
  ∃ cs : Array Value, w.heap[S]? = some (.cells cs 62 (0, 0)) ∧ ∀ i, i < M → cs[i * 2]? = some (.int .u32 ((H i : Nat) : Int)) ∧ cs[i * 2 + 1]? = some (.int .u32 ((A i : Nat) : Int))

theorem Slots.hash {w : World} {S M : Nat} {H A : Nat → Nat} (h : Slots w S M H A) (i : Nat) (hi : i < M) : w.cell? ⟨S, i * 2, none⟩ = some (.int .u32 ((H i : Nat) : Int)) := by
  obtain ⟨cs, hc, h⟩ := h
  rw [cell_of_row w S _ cs 62 (0, 0) hc, (h i hi).1]
theorem Slots.at_ {w : World} {S M : Nat} {H A : Nat → Nat} (h : Slots w S M H A) (i : Nat) (hi : i < M) : w.cell? ⟨S, i * 2 + 1, none⟩ = some (.int .u32 ((A i : Nat) : Int)) := by
  obtain ⟨cs, hc, h⟩ := h
  rw [cell_of_row w S _ cs 62 (0, 0) hc, (h i hi).2]
theorem Slots.free {w : World} {S M : Nat} {H A : Nat → Nat} (h : Slots w S M H A) (o : Nat) : w.frozen? ⟨S, o, none⟩ = false := by
  obtain ⟨cs, hc, h⟩ := h
  exact frozen_of_row w S o cs 62 hc
theorem Slots.lt {w : World} {S M : Nat} {H A : Nat → Nat} (h : Slots w S M H A) : S < w.heap.size := by
  obtain ⟨cs, hc, h⟩ := h
  rcases Nat.lt_or_ge S w.heap.size with h' | h'
  · exact h'
  · rw [Array.getElem?_eq_none h'] at hc; cases hc
theorem Slots.block {w w' : World} {S M : Nat} {H A : Nat → Nat} (h : Slots w S M H A) (e : w'.heap[S]? = w.heap[S]?) : Slots w' S M H A := by
  obtain ⟨cs, hc, h⟩ := h
  exact ⟨cs, by rw [e, hc], h⟩

theorem grown_set {w w' : World} {S : Nat} (h : w.grownBy w' (some S)) (o : Nat) (v : Value) : w.grownBy (w'.setCell ⟨S, o, none⟩ v) (some S) :=
  ⟨h.os, h.tape, h.output, by simpa [World.setCell] using h.size, fun k hk hne => (heap_setCell_other w' ⟨S, o, none⟩ k v (fun e => hne (by simp [e]))).trans (h.block k hk hne)⟩
theorem grown_put {w : World} {S M : Nat} {H A : Nat → Nat} (hS : Slots w S M H A) (o : Obj) (i j : Nat) (x y : Value) :
    w.grownBy (((w.alloc o).setCell ⟨S, i, none⟩ x).setCell ⟨S, j, none⟩ y).drew (some S) := by
  have h := grown_set (grown_set (World.grownBy_alloc w o (some S)) i x) j y
  exact ⟨h.os, h.tape, h.output, h.size, h.block⟩
theorem Slots.put {w : World} {S M : Nat} {H A : Nat → Nat} (hS : Slots w S M H A) (o : Obj) (i : Nat) (hi : i < M) (h a : Nat) :
    Slots (((w.alloc o).setCell ⟨S, i * 2, none⟩ (.int .u32 (h : Int))).setCell ⟨S, i * 2 + 1, none⟩ (.int .u32 (a : Int))).drew S M (upd H i h) (upd A i a) := by
  have hlt := hS.lt
  obtain ⟨cs, hc, hv⟩ := hS
  have h0 : (w.alloc o).heap[S]? = some (.cells cs 62 (0, 0)) := (Below.heap_alloc w o S hlt).trans hc
  have h1 := heap_setCell_same (w.alloc o) S (i * 2) cs 62 (.int .u32 (h : Int)) h0
  have h2 := heap_setCell_same _ S (i * 2 + 1) _ 62 (.int .u32 (a : Int)) h1
  refine ⟨_, h2, fun j hj => ?_⟩
  have s0 : i * 2 < cs.size := (Array.getElem?_eq_some_iff.1 (hv i hi).1).1
  have s1 : i * 2 + 1 < cs.size := (Array.getElem?_eq_some_iff.1 (hv i hi).2).1
  by_cases e : j = i
  · subst e
    rw [upd_same, upd_same]
    constructor
    · rw [Array.getElem?_setIfInBounds_ne (by omega), Array.getElem?_setIfInBounds_self_of_lt s0]
    · rw [Array.getElem?_setIfInBounds_self_of_lt (by simpa using s1)]
  · rw [upd_other _ _ _ _ e, upd_other _ _ _ _ e]
    constructor
    · rw [Array.getElem?_setIfInBounds_ne (by omega), Array.getElem?_setIfInBounds_ne (by omega)]; exact (hv j hj).1
    · rw [Array.getElem?_setIfInBounds_ne (by omega), Array.getElem?_setIfInBounds_ne (by omega)]; exact (hv j hj).2

theorem and_mask (x : Int) (M e : Nat) (hM : M = 2 ^ e) (h0 : 0 ≤ x) (h1 : x < 4294967296) (hM2 : M ≤ 4096) : bits .and .u32 x ((M : Int) - 1) = ((x.toNat % M : Nat) : Int) := by
  have hp : 0 < M := by rw [hM]; exact Nat.two_pow_pos e
  rw [u32_and x _ h0 h1 (by omega) (by omega), show ((M : Int) - 1).toNat = 2 ^ e - 1 from by omega, Nat.and_two_pow_sub_one_eq_mod, hM]

set_option maxHeartbeats 1000000 in
theorem place_any (T S M e : Nat) (H A : Nat → Nat) (h a : Nat) (w : World) (hM : M = 2 ^ e) (hM2 : M ≤ 4096) (hh : h < 4294967296) (ha : a < 4294967296)
    (hT : w.cell? ⟨T, 0, none⟩ = some (.slice (some ⟨S, 0, none⟩) M M)) (hS : Slots w S M H A) (hf : ∃ q, q < M ∧ A q = 0) :
    Calls Try.prog 30 #[.pointer (some ⟨T, 0, none⟩), .agg #[.int .u32 (h : Int), .int .u32 (a : Int)]] w fun e w' => e = .returned (.tuple #[]) ∧
      (∃ d, d < M ∧ A ((h + d) % M) = 0 ∧ (∀ t, t < d → A ((h + t) % M) ≠ 0) ∧ Slots w' S M (upd H ((h + d) % M) h) (upd A ((h + d) % M) a)) ∧ w.grownBy w' (some S) := by
  obtain ⟨d, hd, hd0, hdn⟩ := probe_ends h M A hf
  have hp : 0 < M := by omega
  have hmask : ∀ x : Int, 0 ≤ x → x < 4294967296 → bits .and .u32 x ((M : Int) - 1) = ((x.toNat % M : Nat) : Int) := fun x h0 h1 => and_mask x M e hM h0 h1 hM2
  have hTlt : T < w.heap.size := cell_lt hT
  have hT1 : ∀ o, (w.alloc o).cell? ⟨T, 0, none⟩ = some (.slice (some ⟨S, 0, none⟩) M M) := fun o => (World.cell?_alloc_lt w o ⟨T, 0, none⟩ hTlt).trans hT
  have HA := hide (fun (o : Obj) (i : Nat) (hi : i < M) => (World.cell?_alloc_lt w o ⟨S, i * 2 + 1, none⟩ hS.lt).trans (hS.at_ i hi))
  have HM := hide hmask
  have HDN := hide hdn
  have HD0 := hide hd0
  have HS := hide hS
  have HE := hide hM
  clear hmask hdn hd0 hS hM hT hf
  go_enter Try.func30, Try.ntmps30
  go_wp2
  rw [HM.out _ (by omega) (by omega)]
  go_loop [5] (fun i => ∃ (t ii : Nat), t ≤ d ∧ i = .int .u32 (ii : Int) ∧ ii < M ∧ Hid (ii = (h + t) % M)) (fun i => d - (((intOf i).toNat + M - h % M) % M))
  case atStart => exact ⟨0, h % M, by omega, rfl, Nat.mod_lt _ hp, rfl⟩
  case round =>
    obtain ⟨t, ii, ht, rfl, hii, HI⟩ := hrel
    have hc := fun o => HA.out o ii hii
    by_cases htd : t < d
    · have hnz : (((A ii : Nat) : Int) != 0) = true := by
        have := HDN.out t htd
        rw [← HI.out] at this
        simpa using this
      go_wp2
      go_round
      case rel => exact ⟨t + 1, (ii + 1) % M, by omega, by rw [HM.out _ (by omega) (by omega)]; rfl, Nat.mod_lt _ hp, by rw [HI.out]; exact next_eq h t M⟩
      case measure =>
        rw [HM.out _ (by omega) (by omega)]
        have e1 : ((ii : Int) + 1).toNat % M = (h + (t + 1)) % M := by rw [HI.out]; exact next_eq h t M
        simp only [intOf, Int.toNat_natCast]
        rw [e1, HI.out, dist_eq h (t + 1) M (by omega), dist_eq h t M (by omega)]
        omega
    · obtain rfl : t = d := by omega
      have hz : A ii = 0 := by rw [HI.out]; exact HD0.out
      rw [hz] at hc
      have hc2 := fun o => (World.cell?_alloc_lt w o ⟨S, ii * 2, none⟩ HS.out.lt).trans (HS.out.hash ii hii)
      have hf1 := fun o => (World.frozen?_alloc_past (w := w) o S (ii * 2) HS.out.lt).trans (HS.out.free _)
      have hf2 := fun o => (World.frozen?_alloc_past (w := w) o S (ii * 2 + 1) HS.out.lt).trans (HS.out.free _)
      go_wp2
      go_region
      go_end0
      refine ⟨rfl, ⟨t, hd, HD0.out, HDN.out, ?_⟩, ?_⟩
      · rw [← HI.out]
        exact HS.out.put _ ii hii h a
      · exact grown_put HS.out _ _ _ _ _

end Go.Proofs.Qxb6600461a.Kt
