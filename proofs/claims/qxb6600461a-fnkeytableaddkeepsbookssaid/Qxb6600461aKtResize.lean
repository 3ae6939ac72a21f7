/-
  The table in memory, and the walk of (*keyTable).resize: the index is laid anew with twice as many slots.
-/
import Derived.Test.Qxb6600461aKtPlace
set_option linter.unusedVariables false
set_option linter.unusedSimpArgs false
namespace Go.Proofs.Qxb6600461a.Kt
open Go.RowKit

/-- Every block of w whose element type is one of es stands in w' as it stood. -/
def KeepT (es : List TypeId) (w w' : World) : Prop := ∀ (k : Nat) (c : Array Value) (e : TypeId) (f : Nat × Nat), w.heap[k]? = some (Obj.cells c e f) → e ∈ es → w'.heap[k]? = w.heap[k]?
theorem KeepT.refl (es : List TypeId) (w : World) : KeepT es w w := fun _ _ _ _ _ _ => rfl
theorem KeepT.trans {es : List TypeId} {a b c : World} (h : KeepT es a b) (k : KeepT es b c) : KeepT es a c := fun i x e f hi he => by
  have h1 := h i x e f hi he
  exact (k i x e f (h1.trans hi) he).trans h1
theorem KeepT.row {es : List TypeId} {w w' : World} (h : KeepT es w w') {base : Nat} {e : TypeId} {size : Nat} {v : Value} {n : Nat} {xs : List Value} (ho : w.ownsRow base e size v n xs) (he : e ∈ es) : w'.ownsRow base e size v n xs := by
  obtain ⟨h1, h2⟩ := ho
  refine ⟨h1, ?_⟩
  rcases h2 with h2 | ⟨g, cap, cur, hv, hg, hh, r⟩
  · exact .inl h2
  · exact .inr ⟨g, cap, cur, hv, hg, by rw [h g cur e (0, 0) hh he]; exact hh, r⟩
theorem lt_of_some {w : World} {k : Nat} {o : Obj} (h : w.heap[k]? = some o) : k < w.heap.size := by
  rcases Nat.lt_or_ge k w.heap.size with h' | h'
  · exact h'
  · rw [Array.getElem?_eq_none h'] at h; cases h
/-- Only new blocks and writes to a block of another element type. -/
theorem KeepT.of_grown {es : List TypeId} {w w' : World} {S : Nat} {cs : Array Value} {e0 : TypeId} {f0 : Nat × Nat} (hg : w.grownBy w' (some S)) (hS : w.heap[S]? = some (.cells cs e0 f0)) (he : e0 ∉ es) : KeepT es w w' := fun k c e f hk hke =>
  hg.block k (lt_of_some hk) (fun h => by
    have : k = S := by simpa using h
    subst this
    rw [hS] at hk
    simp at hk
    exact he (hk.2.1 ▸ hke))
theorem KeepT.of_none {es : List TypeId} {w w' : World} (hg : w.grownBy w' none) : KeepT es w w' := fun k c e f hk hke => hg.block k (lt_of_some hk) (by simp)

/-- The cells of a keyTable. -/
def tabCells (S M : Nat) (kv bv rv : Value) (own : Bool) : Array Value := #[.slice (some ⟨S, 0, none⟩) M M, kv, bv, rv, .bool own, .int .i64 0, .int .i64 0]

structure Tab (w : World) (B T S M : Nat) (H A : Nat → Nat) (kv bv rv : Value) (own : Bool) : Prop where
  tb : w.heap[T]? = some (.cells (tabCells S M kv bv rv own) 60 (0, 0))
  bt : B ≤ T
  bs : B ≤ S
  sl : Slots w S M H A

theorem Tab.cell {w : World} {B T S M : Nat} {H A : Nat → Nat} {kv bv rv : Value} {own : Bool} (h : Tab w B T S M H A kv bv rv own) (j : Nat) : w.cell? ⟨T, j, none⟩ = (tabCells S M kv bv rv own)[j]? := cell_of_row w T j _ 60 (0, 0) h.tb
theorem Tab.free {w : World} {B T S M : Nat} {H A : Nat → Nat} {kv bv rv : Value} {own : Bool} (h : Tab w B T S M H A kv bv rv own) (j : Nat) : w.frozen? ⟨T, j, none⟩ = false := frozen_of_row w T j _ 60 h.tb
theorem Tab.ne {w : World} {B T S M : Nat} {H A : Nat → Nat} {kv bv rv : Value} {own : Bool} (h : Tab w B T S M H A kv bv rv own) : S ≠ T := by
  rintro rfl
  obtain ⟨cs, hc, _⟩ := h.sl
  have := h.tb
  rw [hc] at this
  simp at this

theorem info62 : (Try.prog.info? 62).map (fun i => (i.zero, i.size, i.bytes)) = some (some (.agg #[.int .u32 0, .int .u32 0]), 2, 8) := by kernel_rfl

theorem Slots.made {w : World} {base S M : Nat} (h : w.ownsRow base 62 2 (.slice (some ⟨S, 0, none⟩) M M) M (madeCells #[.int .u32 0, .int .u32 0] (M * 2)).toList) : Slots w S M (fun _ => 0) (fun _ => 0) := by
  rcases h.2 with ⟨h', _⟩ | ⟨g', cap', cur, h', _, hg, _, _, hs, ht⟩
  · simp at h'
  · simp only [Value.slice.injEq, Option.some.injEq, Addr.mk.injEq, and_true, true_and] at h'
    obtain ⟨rfl, rfl⟩ := h'
    refine ⟨cur, hg, fun i hi => ?_⟩
    have hc : ∀ j, j < M * 2 → cur[j]? = some (.int .u32 0) := by
      intro j hj
      have h1 : cur.toList[j]? = (cur.toList.take (M * 2))[j]? := by rw [List.getElem?_take, if_pos hj]
      rw [← Array.getElem?_toList, h1, ht]
      have : (madeCells #[Value.int .u32 0, Value.int .u32 0] (M * 2)).toList[j]? = some (#[Value.int .u32 0, Value.int .u32 0][j % 2]!) := by simp [madeCells, hj]
      rw [this]
      have h2 : j % 2 = 0 ∨ j % 2 = 1 := by omega
      rcases h2 with h2 | h2 <;> rw [h2] <;> rfl
    exact ⟨hc _ (by omega), hc _ (by omega)⟩

set_option maxHeartbeats 1000000 in
theorem resize_any (B T S M e n : Nat) (H A hs : Nat → Nat) (kv bv rv : Value) (own : Bool) (w : World) (hM : M = 2 ^ e) (hM2 : 2 * M ≤ 4096) (ht : Tab w B T S M H A kv bv rv own) (hI : TI M n H A hs) (hn : n < 2 * M) :
    Calls Try.prog 29 #[.pointer (some ⟨T, 0, none⟩), .int .i64 (2 * (M : Int))] w fun e w' => e = .returned (.tuple #[]) ∧
      (∃ S' H' A', Tab w' B T S' (2 * M) H' A' kv bv rv own ∧ TI (2 * M) n H' A' hs) ∧ Below B w w' ∧ KeepT [9, 50, 42] w w' := by
  obtain ⟨i6, hi6, z60, z61, z62⟩ := info_parts info62
  have hc0 : w.cell? ⟨T, 0, none⟩ = some (.slice (some ⟨S, 0, none⟩) M M) := ht.cell 0
  have hTlt : T < w.heap.size := lt_of_some ht.tb
  have hSlt : S < w.heap.size := ht.sl.lt
  have HTab := hide ht
  have HI := hide hI
  have HE := hide hM
  have hf0 := ht.free 0
  clear ht hI hM
  go_enter Try.func29, Try.ntmps29
  go_wp2_with (at_make; refine wpList_make_full _ rfl _ _ 57 rfl w.heap.size 62 i6 _ 2 Try.underlying57 hi6 z60 z61 .i64 .i64 _ _ (2 * M) rfl rfl (by omega) (by omega) (by rw [z62]; omega) (by unfold maxLen; omega) (Nat.le_refl _) ?_; intro w1 hown hg; have hc1 := hg.cell hc0 (by simp); have hf1 := (World.frozen?_of_block (hg.block T hTlt (by simp)) : w1.frozen? ⟨T, 0, none⟩ = w.frozen? ⟨T, 0, none⟩).trans hf0)
  have hS1 : Slots w1 w.heap.size (2 * M) (fun _ => 0) (fun _ => 0) := Slots.made hown
  have hT1 : w1.heap[T]? = some (.cells (tabCells S M kv bv rv own) 60 (0, 0)) := (hg.block T hTlt (by simp)).trans HTab.out.tb
  have hO1 : Slots w1 S M H A := HTab.out.sl.block (hg.block S hSlt (by simp))
  have hB1 : Below w.heap.size w w1 := (Below.refl _ _).grown hg (Nat.le_refl _) (fun j hj => by cases hj)
  have hK1 : KeepT [9, 50, 42] w w1 := KeepT.of_none hg
  clear hown hg hc0 hf0 hc1 hf1
  generalize hw2 : w1.setCell ⟨T, 0, none⟩ (Value.slice (some ⟨w.heap.size, 0, none⟩) (2 * M) (2 * M)) = w2
  have hT2 : w2.heap[T]? = some (.cells (tabCells w.heap.size (2 * M) kv bv rv own) 60 (0, 0)) := by
    rw [← hw2, heap_setCell_same w1 T 0 _ 60 _ hT1]; rfl
  have hne : S ≠ T := HTab.out.ne
  have hO2 : Slots w2 S M H A := hO1.block (by rw [← hw2]; exact heap_setCell_other w1 _ S _ hne)
  have hS2 : Slots w2 w.heap.size (2 * M) (fun _ => 0) (fun _ => 0) := hS1.block (by rw [← hw2]; exact heap_setCell_other w1 _ _ _ (by simp; omega))
  have hB2 : Below B w w2 := by rw [← hw2]; exact (hB1.mono (by have := HTab.out.bt; omega)).setCell HTab.out.bt _
  have hK2 : KeepT [9, 50, 42] w w2 := hK1.trans (by rw [← hw2]; exact KeepT.of_grown (grown_set (World.grownBy.refl w1 _) 0 _) hT1 (by decide))
  clear hw2 hT1 hO1 hS1 hB1 hK1 w1
  have HT2 := hide hT2
  have HO2 := hide hO2
  have HS2 := hide hS2
  have HB2 := hide hB2
  have HK2 := hide hK2
  clear hT2 hO2 hS2 hB2 hK2
  go_loopw [18] (fun i wr => ∃ (k : Nat) (H' A' : Nat → Nat), k ≤ M ∧ i = .int .i64 k ∧ Hid (Slots wr w.heap.size (2 * M) H' A') ∧ Hid (RI M k H A (2 * M) H' A') ∧ Below w.heap.size w2 wr) (fun i _ => M - (intOf i).toNat)
  case atStart => exact ⟨0, _, _, Nat.zero_le _, rfl, HS2.out, RI.start _ _ _ _, Below.refl _ _⟩
  case round =>
    obtain ⟨k, H', A', hk, rfl, HSl, HR, hB⟩ := hrel
    by_cases hlt : k < M
    · have hO : Slots wr S M H A := HO2.out.block (hB.block S hSlt)
      have hc0 := hO.hash k hlt
      have hc1 := hO.at_ k hlt
      have hwsz : w.heap.size < wr.heap.size := HSl.out.lt
      clear hO
      by_cases hz : A k = 0
      · rw [hz] at hc1
        go_wp2
        go_roundw
        case rel => exact ⟨k + 1, H', A', by omega, by go_num, HSl.out.block (Below.heap_alloc _ _ _ hwsz), HR.out.skip hz, hB.alloc (Nat.le_of_lt hwsz) _⟩
        case measure => simp [intOf]; omega
      · have hz2 : (((A k : Nat) : Int) != 0) = true := by simpa using hz
        have hr := HI.out.rng k hlt hz
        have hHk : H k < 4294967296 := by rw [hr.2]; exact Nat.mod_lt _ (by omega)
        have hAk : A k < 4294967296 := by omega
        clear hr
        have hfree : ∃ q, q < 2 * M ∧ A' q = 0 := used_free A' (2 * M) (by
          rw [HR.out.cnt]
          have := used_mono A k M hk
          have := HI.out.cnt
          omega)
        have hTT : ∀ o, (wr.alloc o).cell? ⟨T, 0, none⟩ = some (.slice (some ⟨w.heap.size, 0, none⟩) (2 * M) (2 * M)) := fun o => by
          rw [World.cell?_alloc_lt wr o ⟨T, 0, none⟩ (show T < _ by omega), cell_of_row wr T 0 _ 60 (0, 0) ((hB.block T hTlt).trans HT2.out)]; rfl
        have hSS : ∀ o, Slots (wr.alloc o) w.heap.size (2 * M) H' A' := fun o => HSl.out.block (Below.heap_alloc _ _ _ hwsz)
        have HTT := hide hTT
        have HSS := hide hSS
        have HF := hide hfree
        clear hTT hSS hfree
        go_wp2_with fail
        refine (place_any T w.heap.size (2 * M) (e + 1) H' A' (H k) (A k) _ (by rw [HE.out, Nat.pow_succ, Nat.mul_comm]) hM2 hHk hAk (HTT.out _) (HSS.out _) HF.out).mono ?_
        rintro e1 w3 ⟨rfl, ⟨d, hd, hd0, hdn, hS3⟩, hg3⟩
        have hB3 : Below w.heap.size w2 w3 := (hB.alloc (Nat.le_of_lt hwsz) _).grown hg3 (by simp; omega) (fun j hj => by cases hj; exact Nat.le_refl _)
        have HS3 := hide hS3
        have HP := hide (HR.out.put hlt HI.out.uniq hz hd hd0 hdn)
        clear hg3 hS3 HTT HSS
        go_wp2
        go_roundw
        case rel => exact ⟨k + 1, _, _, by omega, by go_num, HS3.out, HP.out, hB3⟩
        case measure => simp [intOf]; omega
    · obtain rfl : k = M := by omega
      go_wp2
      go_end0
      refine ⟨rfl, ⟨w.heap.size, H', A', ⟨(hB.block T hTlt).trans HT2.out, HTab.out.bt, ?_, HSl.out⟩, HR.out.done HI.out⟩, ?_, ?_⟩
      · have := HTab.out.bt; omega
      · exact HB2.out.trans (hB.mono (by have := HTab.out.bt; omega))
      · intro j c t f hj ht
        have h2 := HK2.out j c t f hj ht
        exact (hB.block j (lt_of_some hj)).trans h2

end Go.Proofs.Qxb6600461a.Kt
