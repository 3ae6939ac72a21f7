import Derived.Test.Qxb6600461aRows
import Derived.Test.Qxb6600461aAdmPlain
import Derived.WalkKit
import Derived.ProofKit
namespace Go.Proofs.Qxb6600461a.Adm
open Go.RowKit

set_option maxHeartbeats 1000000 in
theorem admit_any (b N : Nat) (f : Nat → Int) (n : Int) (take : Bool) (w : World) (hN : N ≤ 131072) (hn : -9223372036854775808 ≤ n ∧ n ≤ 9223372036854775807) (hf : ∀ i, -9223372036854775808 ≤ f i ∧ f i ≤ 9223372036854775807) (h : Ints w b 4 N f) :
    Calls Try.prog 25 #[.slice (some ⟨b, 0, none⟩) N N, .int .i64 n, .bool take] w fun e w' => e = .returned (.bool (okTo n f N)) ∧ Ints w' b 4 N (aft n f N take) ∧ Below b w w' := by
  go_enter Try.func25, Try.ntmps25
  go_wp2
  go_loop [7, 14] (fun o i => ∃ (k : Nat), k ≤ N ∧ i = .int .i64 k ∧ o = .bool (okTo n f k)) (fun _ i => N - (intOf i).toNat)
  case atStart => exact ⟨0, Nat.zero_le _, rfl, by rw [okTo_zero]⟩
  case round =>
    obtain ⟨k, hk, rfl, rfl⟩ := hrel
    by_cases hlt : k < N
    · have hc := h.cell k hlt
      cases ho : okTo n f k
      · go_wp2
        go_round
        case rel => exact ⟨k + 1, by omega, by go_num, by rw [okTo_succ, ho]; rfl⟩
        case measure => simp [intOf]; omega
      · go_wp2
        go_round
        case rel => exact ⟨k + 1, by omega, by go_num, by rw [okTo_succ, ho]; rfl⟩
        case measure => simp [intOf]; omega
    · obtain rfl : k = N := by omega
      by_cases hot : okTo n f k = true ∧ take = true
      · obtain ⟨ho, rfl⟩ := hot
        have hot := okTo_true ho
        have HO := hide ho
        have HT := hide hot
        clear hot
        go_wp2
        go_loopw [35] (fun i wr => ∃ (j : Nat), j ≤ k ∧ i = .int .i64 j ∧ Ints wr b 4 k (subTo n f j) ∧ Below b w wr) (fun i _ => k - (intOf i).toNat)
        case atStart => exact ⟨0, Nat.zero_le _, rfl, h.congr (fun i _ => by simp [subTo]), Below.refl _ _⟩
        case round =>
          obtain ⟨j, hj, rfl, hI, hB⟩ := hrel
          by_cases hjt : j < k
          · have hc := hI.cell j hjt
            have hfz := hI.free (j * 4)
            have hjn := HT.out.2 j hjt
            have hn1 := HT.out.1
            have hfj := hf j
            have hsj : subTo n f j j = f j := by simp [subTo]
            rw [hsj] at hc
            have HI := hide hI
            clear hI hsj
            go_wp2
            go_roundw
            case rel => exact ⟨j + 1, by omega, by go_num, (HI.out.set (by decide) j hjt _).congr (subTo_step n f j), hB.setCell (Nat.le_refl _) _⟩
            case measure => simp [intOf]; omega
          · obtain rfl : j = k := by omega
            go_wp2
            go_ret
            exact ⟨ret_bool HO.out.symm, hI.congr (fun i hi => by simp [subTo, aft, HO.out, hi]), hB⟩
      · have hfin : Ints w b 4 k (aft n f k take) := h.congr (fun i _ => by
          have : (okTo n f k && take) = false := by
            cases h1 : okTo n f k <;> cases take <;> simp_all
          simp [aft, this])
        have HF := hide hfin
        clear hfin
        cases ho : okTo n f k
        · go_wp2
          go_ret
          exact ⟨rfl, HF.out, Below.refl _ _⟩
        · obtain rfl : take = false := by cases take <;> simp_all
          clear hot
          go_wp2
          go_ret
          exact ⟨rfl, HF.out, Below.refl _ _⟩

theorem info53 : (Try.prog.info? 53).map (fun i => (i.zero, i.size, i.bytes)) = some (some (.agg #[.int .i64 0, .int .u64 0, .int .i64 0, .pointer none]), 4, 32) := by kernel_rfl
theorem info3 : (Try.prog.info? 3).map (fun i => (i.zero, i.size, i.bytes)) = some (some (.int .i64 0), 1, 8) := by kernel_rfl

set_option maxHeartbeats 1000000 in
theorem zzAdmit_any (a : Option Addr) (b N c : Nat) (f : Nat → Int) (n : Int) (take : Bool) (w : World) (hN : N ≤ 131072) (hn : -9223372036854775808 ≤ n ∧ n ≤ 9223372036854775807) (hf : ∀ i, -9223372036854775808 ≤ f i ∧ f i ≤ 9223372036854775807)
    (ha : 0 < N → a = some ⟨b, 0, none⟩) (hb : 0 < N → b < w.heap.size) (h : ∀ i, i < N → w.cell? ⟨b, i, none⟩ = some (.int .i64 (f i))) :
    Calls Try.prog 14 #[.slice a N c, .int .i64 n, .bool take] w fun e w' => ∃ b', e = .returned (.tuple #[.bool (okTo n f N), .slice (some ⟨b', 0, none⟩) N N]) ∧ Ints w' b' 1 N (aft n f N take) ∧ w.heap.size ≤ b' ∧ Below w.heap.size w w' := by
  obtain ⟨i5, hi5, z50, z51, z52⟩ := info_parts info53
  obtain ⟨i3, hi3, z30, z31, z32⟩ := info_parts info3
  have HA := hide ha
  have Hb := hide hb
  have Hc := hide h
  clear ha hb h
  go_enter Try.func14, Try.ntmps14
  go_wp2_with (at_make; refine wpList_make_full _ rfl _ _ 48 rfl w.heap.size 53 i5 _ 4 Try.underlying48 hi5 z50 z51 .i64 .i64 _ _ N rfl rfl rfl rfl (by rw [z52]; omega) (by unfold maxLen; omega) (Nat.le_refl _) ?_; intro w1 hown hg)
  have hB1 : Below w.heap.size w w1 := (Below.refl _ _).grown hg (Nat.le_refl _) (fun j hj => by cases hj)
  have hI1 : Ints w1 w.heap.size 4 N (fun _ => 0) := Ints.made hown rfl (by decide) rfl
  have hz1 : w.heap.size < w1.heap.size := (hown.lt _ rfl).2
  clear hown hg
  go_loopw [18] (fun i wr => ∃ (k : Nat), k ≤ N ∧ i = .int .i64 k ∧ Ints wr w.heap.size 4 N (fill f k) ∧ Below w.heap.size w wr ∧ w.heap.size < wr.heap.size) (fun i _ => N - (intOf i).toNat)
  case atStart => exact ⟨0, Nat.zero_le _, rfl, hI1.congr (fun i _ => by simp [fill]), hB1, hz1⟩
  case round =>
    obtain ⟨k, hk, rfl, hI, hB, hS⟩ := hrel
    clear hI1 hB1 hz1
    by_cases hlt : k < N
    · obtain rfl := HA.out (by omega)
      have hc := (hB.cell (p := ⟨b, k, none⟩) (Hb.out (by omega))).trans (Hc.out k hlt)
      have hd := hI.cell k hlt
      have hfz := hI.free (k * 4)
      have HI := hide hI
      have HB := hide hB
      have HS := hide hS
      clear hI hB hS
      go_wp2
      go_roundw
      case rel => exact ⟨k + 1, by omega, by go_num, (HI.out.set (by decide) k hlt _).congr (fill_step f k), HB.out.setCell (Nat.le_refl _) _, by simpa [World.setCell] using HS.out⟩
      case measure => simp [intOf]; omega
    · obtain rfl : k = N := by omega
      have hI2 : Ints wr w.heap.size 4 k f := hI.congr (fun i hi => by simp [fill, hi])
      go_wp2_with (first
        | (go_at_call 25; refine (admit_any w.heap.size k f n take _ hN hn hf hI2).mono ?_; rintro e w2 ⟨rfl, hI3, hB3⟩)
        | (at_make; refine wpList_make_full _ rfl _ _ 24 rfl w2.heap.size 3 i3 _ 1 Try.underlying24 hi3 z30 z31 .i64 .i64 _ _ k rfl rfl rfl rfl (by rw [z32]; omega) (by unfold maxLen; omega) (Nat.le_refl _) ?_; intro w3 hown hg))
      have hB4 : Below w.heap.size w w2 := hB.trans hB3
      have hB5 : Below w2.heap.size w2 w3 := (Below.refl _ _).grown hg (Nat.le_refl _) (fun j hj => by cases hj)
      have hS5 : w.heap.size < w2.heap.size := Nat.lt_of_lt_of_le hS hB3.size
      have hJ0 : Ints w3 w2.heap.size 1 k (fun _ => 0) := Ints.made hown rfl (by decide) rfl
      clear hown hg hI hI2 hB hS
      go_loopw [40] (fun i wr => ∃ (j : Nat), j ≤ k ∧ i = .int .i64 j ∧ Ints wr w2.heap.size 1 k (fill (aft n f k take) j) ∧ Below w2.heap.size w2 wr) (fun i _ => k - (intOf i).toNat)
      case atStart => exact ⟨0, Nat.zero_le _, rfl, hJ0.congr (fun i _ => by simp [fill]), hB5⟩
      case round =>
        obtain ⟨j, hj, rfl, hJ, hB⟩ := hrel
        clear hJ0 hB5
        by_cases hjt : j < k
        · have hc := (hI3.below hB hS5).cell j hjt
          have hd := hJ.at1 j hjt
          have hfz := hJ.free j
          have HJ := hide hJ
          have HB := hide hB
          clear hJ hB
          go_wp2
          go_roundw
          case rel => exact ⟨j + 1, by omega, by go_num, (HJ.out.set1 j hjt _).congr (fill_step _ j), HB.out.setCell (Nat.le_refl _) _⟩
          case measure => simp [intOf]; omega
        · obtain rfl : j = k := by omega
          go_wp2
          go_ret2
          exact ⟨_, rfl, hJ.congr (fun i hi => by simp [fill, hi]), Nat.le_of_lt hS5, hB4.trans (hB.mono (Nat.le_of_lt hS5))⟩

theorem bytes_any (a : Option Addr) (len cap : Nat) (n : Int) (p : Bool) (w : World) (hlen : len ≤ 9223372036854775807) :
    Calls Try.prog 13 #[.slice a len cap, .int .i64 n, .bool p] w fun e w' => e = .returned (.bool (decide (len ≤ 1048576))) ∧ w = w' := by
  by_cases h : len ≤ 1048576
  · go_enter Try.func13, Try.ntmps13
    go_wp2
    go_ret
    exact ⟨by simp [h], rfl⟩
  · go_enter Try.func13, Try.ntmps13
    go_wp2
    go_ret
    exact ⟨by simp [h], rfl⟩

end Go.Proofs.Qxb6600461a.Adm
