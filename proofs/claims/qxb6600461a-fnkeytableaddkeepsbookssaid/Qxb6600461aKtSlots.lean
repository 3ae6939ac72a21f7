/-
  Rows of one-cell values in memory, and the walk of ZZKeyTableSlots.
-/
import Derived.Test.Qxb6600461aKtAdd
set_option linter.unusedVariables false
set_option linter.unusedSimpArgs false
namespace Go.Proofs.Qxb6600461a.Kt
open Go.RowKit

/-- Block b holds the values f 0, .., f (N-1); no cell of it is frozen. -/
structure Row (w : World) (b N : Nat) (f : Nat → Value) : Prop where
  cell : ∀ i, i < N → w.cell? ⟨b, i, none⟩ = some (f i)
  free : ∀ o, w.frozen? ⟨b, o, none⟩ = false
theorem Row.block {w w' : World} {b N : Nat} {f : Nat → Value} (h : Row w b N f) (e : w'.heap[b]? = w.heap[b]?) : Row w' b N f :=
  ⟨fun i hi => (World.cell?_of_block (a := ⟨b, i, none⟩) e).trans (h.cell i hi), fun o => (World.frozen?_of_block (a := ⟨b, o, none⟩) e).trans (h.free o)⟩
theorem Row.below {w w' : World} {b N B : Nat} {f : Nat → Value} (h : Row w b N f) (hb : Below B w w') (hB : b < B) : Row w' b N f := h.block (hb.block b hB)
theorem Row.congr {w : World} {b N : Nat} {f g : Nat → Value} (h : Row w b N f) (e : ∀ i, i < N → f i = g i) : Row w b N g := ⟨fun i hi => by rw [h.cell i hi, e i hi], h.free⟩
theorem Row.set {w : World} {b N : Nat} {f : Nat → Value} (h : Row w b N f) (k : Nat) (hk : k < N) (v : Value) :
    Row (w.setCell ⟨b, k, none⟩ v) b N (fun i => if i = k then v else f i) := by
  refine ⟨fun i hi => ?_, fun o => (World.frozen?_setCell _ _ _ _).trans (h.free o)⟩
  by_cases e : i = k
  · subst e
    rw [World.cell?_setCell_same _ _ _ (h.cell i hi), if_pos rfl]
  · rw [World.cell?_setCell_other _ _ _ _ (by intro hh; simp at hh <;> omega), if_neg e, h.cell i hi]
theorem Row.setOther {w : World} {b N : Nat} {f : Nat → Value} (h : Row w b N f) (a : Addr) (v : Value) (hb : b ≠ a.block) : Row (w.setCell a v) b N f := h.block (heap_setCell_other w a b v hb)
theorem Row.made {w : World} {base b N : Nat} {e : TypeId} {z : Value} (h : w.ownsRow base e 1 (.slice (some ⟨b, 0, none⟩) N N) N (madeCells #[z] (N * 1)).toList) : Row w b N (fun _ => z) := by
  refine ⟨fun i hi => ?_, fun o => h.frozenAt o⟩
  rw [h.cellAt i (by omega), Nat.mul_one, toList_madeCells_one]
  simp [hi]
/-- f on the first k, z behind. -/
def fill (z : Value) (f : Nat → Value) (k : Nat) (i : Nat) : Value := if i < k then f i else z
theorem fill_step (z : Value) (f : Nat → Value) (j : Nat) {N : Nat} : ∀ i, i < N → (if i = j then f j else fill z f j i) = fill z f (j + 1) i := by
  intro i _
  unfold fill
  by_cases e : i = j
  · subst e; simp
  · rw [if_neg e]
    by_cases h : i < j
    · rw [if_pos h, if_pos (by omega)]
    · rw [if_neg h, if_neg (by omega)]
theorem fill_zero (z : Value) (f : Nat → Value) {N : Nat} : ∀ i, i < N → z = fill z f 0 i := by intro i _; simp [fill]
theorem fill_all (z : Value) (f : Nat → Value) {N : Nat} : ∀ i, i < N → fill z f N i = f i := by intro i hi; simp [fill, hi]

theorem info46 : (Try.prog.info? 46).map (fun i => (i.zero, i.size, i.bytes)) = some (some (.int .u32 0), 1, 4) := by kernel_rfl
def u32v (f : Nat → Nat) (i : Nat) : Value := .int .u32 ((f i : Nat) : Int)

set_option maxHeartbeats 1000000 in
theorem slots_any (T S M : Nat) (H A : Nat → Nat) (w : World) (hM2 : M ≤ 4096) (hT : w.cell? ⟨T, 0, none⟩ = some (.slice (some ⟨S, 0, none⟩) M M)) (hS : Slots w S M H A) :
    Calls Try.prog 22 #[.pointer (some ⟨T, 0, none⟩)] w fun r w' => ∃ b1 b2, r = .returned (.tuple #[.slice (some ⟨b1, 0, none⟩) M M, .slice (some ⟨b2, 0, none⟩) M M]) ∧ Row w' b1 M (u32v H) ∧ Row w' b2 M (u32v A) ∧ b1 < w'.heap.size ∧ b2 < w'.heap.size ∧ Below w.heap.size w w' := by
  obtain ⟨i4, hi4, z40, z41, z42⟩ := info_parts info46
  have hTlt : T < w.heap.size := cell_lt hT
  have hSlt := hS.lt
  have HS := hide hS
  clear hS
  go_enter Try.func22, Try.ntmps22
  go_wp2_with (first
    | (at_make; have _t := hT; refine wpList_make_full _ rfl _ _ 43 rfl w.heap.size 46 i4 _ 1 Try.underlying43 hi4 z40 z41 .i64 .i64 _ _ M rfl rfl rfl rfl (by rw [z42]; omega) (by unfold maxLen; omega) (Nat.le_refl _) ?_; intro w1 hown1 hg1; have hT1 := hg1.cell hT (by simp); clear hT)
    | (at_make; refine wpList_make_full _ rfl _ _ 43 rfl w1.heap.size 46 i4 _ 1 Try.underlying43 hi4 z40 z41 .i64 .i64 _ _ M rfl rfl rfl rfl (by rw [z42]; omega) (by unfold maxLen; omega) (Nat.le_refl _) ?_; intro w2 hown2 hg2; have hT2 := hg2.cell hT1 (by simp)))
  have hR1 := Row.made hown1
  have hR2 := Row.made hown2
  have hb1 : w.heap.size < w1.heap.size := (hown1.lt _ rfl).2
  have hb2 : w1.heap.size < w2.heap.size := (hown2.lt _ rfl).2
  have hB1 : Below w.heap.size w w1 := (Below.refl _ _).grown hg1 (Nat.le_refl _) (fun j hj => by cases hj)
  have hB2 : Below w1.heap.size w1 w2 := (Below.refl _ _).grown hg2 (Nat.le_refl _) (fun j hj => by cases hj)
  have hS2 : Slots w2 S M H A := (HS.out.block (hB1.block S hSlt)).block (hB2.block S (by omega))
  have hR1' := hR1.below hB2 hb1
  have hB3 : Below w.heap.size w w2 := hB1.trans (hB2.mono (Nat.le_of_lt hb1))
  clear hown1 hown2 hg1 hg2 hR1 hB1 hB2 hT1
  have HR1 := hide hR1'
  have HR2 := hide hR2
  have HB3 := hide hB3
  have HS2 := hide hS2
  clear hR1' hR2 hB3 hS2 HS
  go_loopw [24] (fun i wr => ∃ k : Nat, k ≤ M ∧ i = .int .i64 k ∧ Hid (Row wr w.heap.size M (fill (.int .u32 0) (u32v H) k)) ∧ Hid (Row wr w1.heap.size M (fill (.int .u32 0) (u32v A) k)) ∧ Below w.heap.size w2 wr) (fun i _ => M - (intOf i).toNat)
  case atStart => exact ⟨0, Nat.zero_le _, rfl, HR1.out.congr (fill_zero _ _), HR2.out.congr (fill_zero _ _), Below.refl _ _⟩
  case round =>
    obtain ⟨k, hk, rfl, HQ1, HQ2, hB⟩ := hrel
    by_cases hlt : k < M
    · have hTr := (hB.cell (p := ⟨T, 0, none⟩) hTlt).trans hT2
      have hS := HS2.out.block (hB.block S hSlt)
      have hc0 := hS.hash k hlt
      have hc1 := hS.at_ k hlt
      have hd0 := HQ1.out.cell k hlt
      have hd1 := HQ2.out.cell k hlt
      have hf0 := HQ1.out.free k
      have hf1 := HQ2.out.free k
      clear hS hT2
      have HB := hide hB
      clear hB
      go_wp2
      go_roundw
      case rel =>
        refine ⟨k + 1, by omega, by go_num, ?_, ?_, (HB.out.setCell (Nat.le_refl _) _).setCell (Nat.le_of_lt hb1) _⟩
        · exact ((HQ1.out.set k hlt (.int .u32 ((H k : Nat) : Int))).setOther _ _ (by simp; omega)).congr (fill_step _ (u32v H) k)
        · exact ((HQ2.out.setOther _ _ (by simp; omega)).set k hlt (.int .u32 ((A k : Nat) : Int))).congr (fill_step _ (u32v A) k)
      case measure => simp [intOf]; omega
    · obtain rfl : k = M := by omega
      go_wp2
      go_ret2
      exact ⟨_, _, rfl, HQ1.out.congr (fill_all _ _), HQ2.out.congr (fill_all _ _), by have := hB.size; omega, by have := hB.size; omega, HB3.out.trans hB⟩

end Go.Proofs.Qxb6600461a.Kt
