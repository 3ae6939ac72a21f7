/-
  cloneU32, and what the law of unicode escapes makes.
-/
import Derived.Test.Qxb6601022aEscTwo
set_option linter.unusedVariables false
set_option linter.unusedSimpArgs false
namespace Go.Proofs.Qxb6601022a.Esc
open Go.RowKit

theorem info52 : (Try.prog.info? 52).map (fun i => (i.zero, i.size, i.bytes)) = some (some (.int .u32 0), 1, 4) := by kernel_rfl

/-- What cloneU32 answers: N numbers in a row of its own (whatever, where there are none). -/
def ClonePost (N : Nat) (f : Nat → Int) (w : World) (r : Ending) (w' : World) : Prop :=
  ∃ a b, r = .returned (.slice a N N) ∧ (0 < N → a = some ⟨b, 0, none⟩) ∧ (0 < N → b < w'.heap.size) ∧ (∀ i, i < N → w'.cell? ⟨b, i, none⟩ = some (.int .u32 (f i))) ∧ Below w.heap.size w w'

set_option maxRecDepth 100000 in
set_option maxHeartbeats 2000000 in
theorem clone_nil (f : Nat → Int) (w : World) : Calls Try.prog 26 #[.slice none 0 0] w fun r w' => ClonePost 0 f w r w' := by
  have hnil := fun (w : World) (a : Option Addr) (n c n' c' : Nat) => Lib.run_eql_slice_nil (P := Try.prog) w 49 52 a n c n' c' Try.underlying49
  go_enter Try.func26, Try.ntmps26
  go_wp2
  go_ret
  exact ⟨none, 0, rfl, (fun h => absurd h (by omega)), (fun h => absurd h (by omega)), (fun i h => absurd h (by omega)), Below.refl _ _⟩

set_option maxRecDepth 100000 in
set_option maxHeartbeats 2000000 in
theorem clone_some (x : Addr) (N cap : Nat) (f : Nat → Int) (w : World) (hN : N ≤ 65536) (hcap : N ≤ cap) (hc : ∀ i, i < N → w.cell? (x.add i) = some (.int .u32 (f i))) :
    Calls Try.prog 26 #[.slice (some x) N cap] w fun r w' => ClonePost N f w r w' := by
  have hnil := fun (w : World) (a : Option Addr) (n c n' c' : Nat) => Lib.run_eql_slice_nil (P := Try.prog) w 49 52 a n c n' c' Try.underlying49
  obtain ⟨i5, hi5, z50, z51, z52⟩ := info_parts info52
  have HC := hide hc
  clear hc
  go_enter Try.func26, Try.ntmps26
  go_wp2_with (at_make; refine wpList_make_full _ rfl _ _ 49 rfl w.heap.size 52 i5 _ 1 Try.underlying49 hi5 z50 z51 .i64 .i64 _ _ N rfl rfl rfl rfl (by rw [z52]; omega) (by unfold maxLen; omega) (Nat.le_refl _) ?_; intro w1 hown hg)
  have hB1 : Below w.heap.size w w1 := (Below.refl _ _).grown hg (Nat.le_refl _) (fun j hj => by cases hj)
  have HO := hide hown
  have HB := hide hB1
  clear hown hg hB1
  go_loopw [4] (fun i wr => ∃ (k : Nat), k ≤ N ∧ i = .int .i64 (k : Int) ∧ Hid (∃ xs : List Value, wr.ownsRow w.heap.size 52 1 (.slice (some ⟨w.heap.size, 0, none⟩) N N) N xs ∧ ∀ j, j < k → xs[j]? = some (.int .u32 (f j))) ∧ Hid (Below w.heap.size w wr)) (fun i _ => N - (intOf i).toNat)
  case atStart => exact ⟨0, Nat.zero_le _, rfl, ⟨_, HO.out, fun j hj => absurd hj (by omega)⟩, HB.out⟩
  case round =>
    obtain ⟨k, hk, rfl, HX, HBr⟩ := hrel
    clear HO HB
    by_cases hlt : k < N
    · obtain ⟨xs, ho, hp⟩ := HX.out
      have hxl : xs.length = N := by have := ho.1; omega
      have hcx : wr.cell? (x.add k) = some (.int .u32 (f k)) := (HBr.out.cell (World.block_lt_of_cell? _ _ (HC.out k hlt))).trans (HC.out k hlt)
      obtain ⟨u, hu⟩ : ∃ u, wr.cell? ⟨w.heap.size, k, none⟩ = some u := by
        rw [ho.cellAt k (by omega), List.getElem?_eq_getElem (by omega)]; exact ⟨_, rfl⟩
      have hfz := ho.frozenAt k
      have HX2 : Hid (∃ xs : List Value, (wr.setCell ⟨w.heap.size, k, none⟩ (.int .u32 (f k))).ownsRow w.heap.size 52 1 (.slice (some ⟨w.heap.size, 0, none⟩) N N) N xs ∧ ∀ j, j < k + 1 → xs[j]? = some (.int .u32 (f j))) := by
        refine ⟨_, (ho.stored k _).1, fun j hj => ?_⟩
        by_cases e : k = j
        · subst e; rw [List.getElem?_set_self (by omega)]
        · rw [List.getElem?_set_ne e]; exact hp j (by omega)
      have HB2 : Hid (Below w.heap.size w (wr.setCell ⟨w.heap.size, k, none⟩ (.int .u32 (f k)))) := HBr.out.grown (ho.stored k _).2 HBr.out.size (fun j hj => by cases hj; exact Nat.le_refl _)
      clear ho hp hxl
      go_wp2
      go_roundw
      case rel =>
        first
          | exact ⟨k + 1, by omega, by go_num, HX2, HB2⟩
          | ((repeat apply Exists.intro); refine ⟨⟨k + 1, by omega, by go_num, HX2, HB2⟩, ?_⟩; repeat (first | rfl | refine ⟨rfl, ?_⟩))
      case measure => simp [intOf]; omega
    · obtain rfl : k = N := by omega
      go_wp2
      go_ret
      obtain ⟨xs, ho, hp⟩ := HX.out
      refine ⟨_, w.heap.size, rfl, fun _ => rfl, fun _ => (ho.lt _ rfl).2, fun i hi => ?_, HBr.out⟩
      rw [ho.cellAt i (by omega)]; exact hp i hi

theorem hexDigitZ (z : Int) (up : Bool) (w : World) (h0 : 0 ≤ z) (h1 : z < 256) :
    Calls Try.prog 21 #[.int .u8 z, .bool up] w fun e w' => e = .returned (.int .u8 ((hexc (z.toNat % 16) up : Nat) : Int)) ∧ w = w' := by
  have := hexDigit_any z.toNat up w (by omega)
  rw [Int.toNat_of_nonneg h0] at this
  exact this

/-- The first t of the w hex digits of x. -/
def digsTo (x w t : Nat) : List UInt8 := (List.range t).map fun i => (hexc (x / 16 ^ (w - 1 - i) % 16) false).toUInt8
theorem digsTo_succ (x w t : Nat) : digsTo x w (t + 1) = digsTo x w t ++ [(hexc (x / 16 ^ (w - 1 - t) % 16) false).toUInt8] := by simp [digsTo, List.range_succ]
theorem digsTo_len (x w t : Nat) : (digsTo x w t).length = t := by simp [digsTo]
/-- The escape of one point. -/
def piece (x : Nat) (sh : Bool) : List UInt8 := if sh then [92, 117] ++ digsTo x 4 4 else [92, 85] ++ digsTo x 8 8
theorem piece_len (x : Nat) (sh : Bool) : (piece x sh).length = if sh then 6 else 10 := by cases sh <;> simp [piece, digsTo_len]
/-- The text that the law makes of the first k points. -/
def uniL (P : Nat → Nat) (sh : Nat → Bool) : Nat → List UInt8
  | 0 => []
  | k + 1 => uniL P sh k ++ piece (P k) (sh k)
theorem uniL_len (P : Nat → Nat) (sh : Nat → Bool) (k : Nat) : (uniL P sh k).length = upos sh k := by
  induction k with
  | zero => rfl
  | succ k ih => simp only [uniL, upos, List.length_append, ih, piece_len]
theorem uniL_at (P : Nat → Nat) (sh : Nat → Bool) (n k j : Nat) (hk : k < n) (hj : j < if sh k then 6 else 10) : (uniL P sh n).getD (upos sh k + j) 0 = (piece (P k) (sh k)).getD j 0 := by
  induction n with
  | zero => omega
  | succ n ih =>
    have hl := uniL_len P sh n
    simp only [uniL, List.getD]
    by_cases e : k = n
    · subst e
      rw [List.getElem?_append_right (by omega), hl, Nat.add_sub_cancel_left]
    · have := ih (by omega)
      simp only [List.getD] at this
      have hle := upos_le sh k n (by omega)
      rw [List.getElem?_append_left (by omega)]; exact this
theorem t8 (x : Nat) (h : x < 256) : x.toUInt8.toNat = x := by simp [Nat.toUInt8, UInt8.toNat_ofNat, Nat.mod_eq_of_lt h]
theorem dig_at (x w i : Nat) (a b : UInt8) (h : i < w) : (([a, b] ++ digsTo x w w).getD (2 + i) 0).toNat = hexc (x / 16 ^ (w - 1 - i) % 16) false := by
  have hb := hexc_bd (x / 16 ^ (w - 1 - i) % 16) false (Nat.mod_lt _ (by decide))
  have e : ([a, b] ++ digsTo x w w).getD (2 + i) 0 = (digsTo x w w).getD i 0 := by
    rw [List.getD, List.getElem?_append_right (by simp), List.getD]; congr 2; simp
  rw [e]
  simp only [digsTo, List.getD, List.getElem?_map, List.getElem?_range h, Option.map_some, Option.getD_some]
  exact t8 _ (by omega)
theorem uniL_enc (P : Nat → Nat) (sh : Nat → Bool) (n : Nat) (hb : ∀ k, k < n → P k < 4294967296) (hs : ∀ k, k < n → sh k = true → P k < 65536) : UniEnc ⟨(uniL P sh n).toArray⟩ n P sh := by
  have h0 : ∀ k, k < n → 10 ≥ (if sh k then 6 else 10) ∧ 6 ≤ (if sh k then 6 else 10) := fun k _ => by split <;> omega
  refine ⟨by show (uniL P sh n).toArray.size = _; simp [uniL_len], hb, hs, fun k hk => ?_, fun k hk => ?_, fun k hk hsh i hi => ?_, fun k hk hsh i hi => ?_⟩
  · have := uniL_at P sh n k 0 hk (by have := h0 k hk; omega)
    rw [by_list, show upos sh k = upos sh k + 0 from rfl, this]
    cases sh k <;> rfl
  · have := uniL_at P sh n k 1 hk (by have := h0 k hk; omega)
    rw [by_list, this]
    cases sh k <;> rfl
  · have := uniL_at P sh n k (2 + i) hk (by rw [hsh, if_pos rfl]; omega)
    rw [by_list, Nat.add_assoc, this, hsh]
    exact dig_at (P k) 4 i 92 117 hi
  · have := uniL_at P sh n k (2 + i) hk (by rw [hsh, if_neg (by simp)]; omega)
    rw [by_list, Nat.add_assoc, this, hsh]
    exact dig_at (P k) 8 i 92 85 hi

end Go.Proofs.Qxb6601022a.Esc
