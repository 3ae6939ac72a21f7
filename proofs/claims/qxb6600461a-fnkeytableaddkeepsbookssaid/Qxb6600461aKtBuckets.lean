/-
  The walks of ZZKeyTableKeys, ZZKeyTableRates and ZZKeyTableBuckets.
-/
import Derived.Test.Qxb6600461aKtSlots
set_option linter.unusedVariables false
set_option linter.unusedSimpArgs false
namespace Go.Proofs.Qxb6600461a.Kt
open Go.RowKit

/-- What an owned slice with an element leads to. -/
theorem own_row {w : World} {base : Nat} {e : TypeId} {size n cap : Nat} {a : Option Addr} {xs : List Value} (h : w.ownsRow base e size (.slice a n cap) n xs) (hn : 0 < n) :
    ∃ g, a = some ⟨g, 0, none⟩ ∧ base ≤ g ∧ g < w.heap.size ∧ ∀ j, j < n * size → w.cell? ⟨g, j, none⟩ = xs[j]? := by
  have h0 := h
  rcases h.2 with ⟨h', h2⟩ | ⟨g, cap', cur, h', hb, hg, _⟩
  · omega
  · simp only [Value.slice.injEq, true_and] at h'
    obtain ⟨rfl, rfl⟩ := h'
    exact ⟨g, rfl, hb, lt_of_some hg, fun j hj => h0.cellAt j hj⟩

theorem bcells_len (m : Nat) : (bcells m).length = m * 3 := by
  induction m with
  | zero => rfl
  | succ m ih => simp [bcells, ih]; omega
theorem bcells_at (m i : Nat) (hi : i < m) : (bcells m)[i * 3]? = some (.int .i64 (-1)) ∧ (bcells m)[i * 3 + 1]? = some (.int .u64 0) ∧ (bcells m)[i * 3 + 2]? = some (.int .i64 0) := by
  induction m with
  | zero => omega
  | succ m ih =>
    simp only [bcells]
    by_cases e : i = m
    · subst e
      have hl := bcells_len i
      refine ⟨?_, ?_, ?_⟩
      · rw [List.getElem?_append_right (by omega), hl, Nat.sub_self]; rfl
      · rw [List.getElem?_append_right (by omega), hl, show i * 3 + 1 - i * 3 = 1 from by omega]; rfl
      · rw [List.getElem?_append_right (by omega), hl, show i * 3 + 2 - i * 3 = 2 from by omega]; rfl
    · have := ih (by omega)
      have hl := bcells_len m
      rw [List.getElem?_append_left (by omega), List.getElem?_append_left (by omega), List.getElem?_append_left (by omega)]
      exact this

theorem keys_any (T : Nat) (v : Value) (w : World) (hT : w.cell? ⟨T, 1, none⟩ = some v) :
    Calls Try.prog 19 #[.pointer (some ⟨T, 0, none⟩)] w fun r w' => r = .returned v ∧ w = w' := by
  go_enter Try.func19, Try.ntmps19
  go_wp2
  go_ret
  exact ⟨rfl, rfl⟩
theorem rates_any (T : Nat) (v : Value) (w : World) (hT : w.cell? ⟨T, 3, none⟩ = some v) :
    Calls Try.prog 21 #[.pointer (some ⟨T, 0, none⟩)] w fun r w' => r = .returned v ∧ w = w' := by
  go_enter Try.func21, Try.ntmps21
  go_wp2
  go_ret
  exact ⟨rfl, rfl⟩

theorem info3 : (Try.prog.info? 3).map (fun i => (i.zero, i.size, i.bytes)) = some (some (.int .i64 0), 1, 8) := by kernel_rfl
theorem info39 : (Try.prog.info? 39).map (fun i => (i.zero, i.size, i.bytes)) = some (some (.int .u64 0), 1, 8) := by kernel_rfl
theorem info2 : (Try.prog.info? 2).map (fun i => (i.zero, i.size, i.bytes)) = some (some (.int .i64 0), 1, 8) := by kernel_rfl

set_option maxHeartbeats 1000000 in
theorem buckets_any (B T nb bc : Nat) (ba : Option Addr) (w : World) (hnb : nb ≤ 65536) (hT : w.cell? ⟨T, 2, none⟩ = some (.slice ba nb bc)) (ho : w.ownsRow B 50 3 (.slice ba nb bc) nb (bcells nb)) :
    Calls Try.prog 20 #[.pointer (some ⟨T, 0, none⟩)] w fun r w' => ∃ b1 b2 b3, r = .returned (.tuple #[.slice (some ⟨b1, 0, none⟩) nb nb, .slice (some ⟨b2, 0, none⟩) nb nb, .slice (some ⟨b3, 0, none⟩) nb nb]) ∧
      Row w' b1 nb (fun _ => .int .i64 (-1)) ∧ Row w' b2 nb (fun _ => .int .u64 0) ∧ Row w' b3 nb (fun _ => .int .i64 0) ∧ b1 < w'.heap.size ∧ b2 < w'.heap.size ∧ b3 < w'.heap.size ∧ Below w.heap.size w w' := by
  obtain ⟨i3, hi3, z30, z31, z32⟩ := info_parts info3
  obtain ⟨i39, hi39, z390, z391, z392⟩ := info_parts info39
  obtain ⟨i2, hi2, z20, z21, z22⟩ := info_parts info2
  have hTlt : T < w.heap.size := cell_lt hT
  have HO := hide ho
  clear ho
  go_enter Try.func20, Try.ntmps20
  go_wp2_with (first
    | (at_make; refine wpList_make_full _ rfl _ _ 24 rfl w.heap.size 3 i3 _ 1 Try.underlying24 hi3 z30 z31 .i64 .i64 _ _ nb rfl rfl rfl rfl (by rw [z32]; omega) (by unfold maxLen; omega) (Nat.le_refl _) ?_; intro w1 hown1 hg1; have hT1 := hg1.cell hT (by simp))
    | (at_make; refine wpList_make_full _ rfl _ _ 30 rfl w1.heap.size 39 i39 _ 1 Try.underlying30 hi39 z390 z391 .i64 .i64 _ _ nb rfl rfl rfl rfl (by rw [z392]; omega) (by unfold maxLen; omega) (Nat.le_refl _) ?_; intro w2 hown2 hg2; have hT2 := hg2.cell hT1 (by simp))
    | (at_make; refine wpList_make_full _ rfl _ _ 36 rfl w2.heap.size 2 i2 _ 1 Try.underlying36 hi2 z20 z21 .i64 .i64 _ _ nb rfl rfl rfl rfl (by rw [z22]; omega) (by unfold maxLen; omega) (Nat.le_refl _) ?_; intro w3 hown3 hg3; have hT3 := hg3.cell hT2 (by simp)))
  have hR1 := Row.made hown1
  have hR2 := Row.made hown2
  have hR3 := Row.made hown3
  have hb1 : w.heap.size < w1.heap.size := (hown1.lt _ rfl).2
  have hb2 : w1.heap.size < w2.heap.size := (hown2.lt _ rfl).2
  have hb3 : w2.heap.size < w3.heap.size := (hown3.lt _ rfl).2
  have hB1 : Below w.heap.size w w1 := (Below.refl _ _).grown hg1 (Nat.le_refl _) (fun j hj => by cases hj)
  have hB2 : Below w1.heap.size w1 w2 := (Below.refl _ _).grown hg2 (Nat.le_refl _) (fun j hj => by cases hj)
  have hB3 : Below w2.heap.size w2 w3 := (Below.refl _ _).grown hg3 (Nat.le_refl _) (fun j hj => by cases hj)
  have hR1' := (hR1.below hB2 hb1).below hB3 (by omega)
  have hR2' := hR2.below hB3 hb2
  have hB : Below w.heap.size w w3 := (hB1.trans (hB2.mono (by omega))).trans (hB3.mono (by omega))
  clear hown1 hown2 hown3 hg1 hg2 hg3 hR1 hR2 hB1 hB2 hB3 hT1 hT2 hT hi3 hi39 hi2 z30 z31 z32 z390 z391 z392 z20 z21 z22
  have HR1 := hide hR1'
  have HR2 := hide hR2'
  have HR3 := hide hR3
  have HB := hide hB
  clear hR1' hR2' hR3 hB
  go_loopw [32] (fun i wr => ∃ k : Nat, k ≤ nb ∧ i = .int .i64 k ∧ Hid (Row wr w.heap.size nb (fill (.int .i64 0) (fun _ => .int .i64 (-1)) k)) ∧ Hid (Row wr w1.heap.size nb (fun _ => .int .u64 0)) ∧ Hid (Row wr w2.heap.size nb (fun _ => .int .i64 0)) ∧ Below w.heap.size w3 wr) (fun i _ => nb - (intOf i).toNat)
  case atStart => exact ⟨0, Nat.zero_le _, rfl, HR1.out.congr (fill_zero _ _), HR2.out, HR3.out, Below.refl _ _⟩
  case round =>
    obtain ⟨k, hk, rfl, HQ1, HQ2, HQ3, hBr⟩ := hrel
    by_cases hlt : k < nb
    · have hTr := (hBr.cell (p := ⟨T, 2, none⟩) hTlt).trans hT3
      obtain ⟨g, rfl, hgB, hgl, hgc⟩ := own_row HO.out (by omega)
      have hbc := bcells_at nb k hlt
      have hg0 : wr.cell? ⟨g, k * 3, none⟩ = some (.int .i64 (-1)) := by
        rw [hBr.cell (p := ⟨g, k * 3, none⟩) hgl, HB.out.cell (p := ⟨g, k * 3, none⟩) hgl, hgc _ (by omega), hbc.1]
      have hg1 : wr.cell? ⟨g, k * 3 + 1, none⟩ = some (.int .u64 0) := by
        rw [hBr.cell (p := ⟨g, k * 3 + 1, none⟩) hgl, HB.out.cell (p := ⟨g, k * 3 + 1, none⟩) hgl, hgc _ (by omega), hbc.2.1]
      have hg2 : wr.cell? ⟨g, k * 3 + 2, none⟩ = some (.int .i64 0) := by
        rw [hBr.cell (p := ⟨g, k * 3 + 2, none⟩) hgl, HB.out.cell (p := ⟨g, k * 3 + 2, none⟩) hgl, hgc _ (by omega), hbc.2.2]
      have hd0 := HQ1.out.cell k hlt
      have hd1 := HQ2.out.cell k hlt
      have hd2 := HQ3.out.cell k hlt
      have hf0 := HQ1.out.free k
      have hf1 := HQ2.out.free k
      have hf2 := HQ3.out.free k
      have HBr := hide hBr
      clear hBr hbc hgc hT3
      go_wp2
      go_roundw
      case rel =>
        refine ⟨k + 1, by omega, by go_num, ?_, ?_, ?_, ((HBr.out.setCell (Nat.le_refl _) _).setCell (by simp; omega) _).setCell (by simp; omega) _⟩
        · exact (((HQ1.out.set k hlt (.int .i64 (-1))).setOther _ _ (by simp; omega)).setOther _ _ (by simp; omega)).congr (fill_step _ (fun _ => .int .i64 (-1)) k)
        · refine (((HQ2.out.setOther _ _ (by simp; omega)).set k hlt (.int .u64 0)).setOther _ _ (by simp; omega)).congr (fun i _ => ?_)
          split <;> rfl
        · refine ((((HQ3.out.setOther _ _ (by simp; omega)).setOther _ _ (by simp; omega)).set k hlt (.int .i64 0))).congr (fun i _ => ?_)
          split <;> rfl
      case measure => simp [intOf]; omega
    · obtain rfl : k = nb := by omega
      go_wp2
      go_ret3
      exact ⟨_, _, _, rfl, HQ1.out.congr (fill_all _ _), HQ2.out, HQ3.out, by have := hBr.size; omega, by have := hBr.size; omega, by have := hBr.size; omega, HB.out.trans hBr⟩

end Go.Proofs.Qxb6600461a.Kt
