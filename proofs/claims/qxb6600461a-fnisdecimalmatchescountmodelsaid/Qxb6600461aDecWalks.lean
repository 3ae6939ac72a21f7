/-
  The walks of isDecimal, ZZIsDecimal and the bound on lengths: each computes its plain function.
-/
import Derived.Test.Qxb6600461aRows
import Derived.Test.Qxb6600461aDecPlain
import Derived.WalkKit
import Derived.ProofKit
namespace Go.Proofs.Qxb6600461a.Dec
open Go.RowKit

theorem byte_le (c : UInt8) : (c.toNat : Int) ≤ 255 := by have := c.toNat_lt; omega

theorem bytesRow_cell (w : World) (s : ByteArray) (cap : Nat) (fz : Nat × Nat) (j : Nat) (hj : j < s.size) :
    (w.alloc (.cells (bytesRow s cap) 5 fz)).cell? ⟨w.heap.size, j, none⟩ = some (.int .u8 ((s.data.toList.getD j 0).toNat : Int)) := by
  have hd : j < s.data.size := hj
  rw [World.cell?_alloc_mark]
  unfold bytesRow
  rw [Array.getElem?_append_left (by simpa using hd), Array.getElem?_map, Array.getElem?_eq_getElem hd]
  simp [List.getD, Array.getElem?_eq_getElem hd]

theorem ret_bool {a b : Bool} (h : a = b) : Ending.returned (.bool a) = .returned (.bool b) := by rw [h]
theorem hide {p : Prop} (h : p) : Hid p := h

set_option maxHeartbeats 1000000 in
theorem isDecimal_any (s : ByteArray) (p : Bool) (w : World) (hs : s.size ≤ 1048576) :
    Calls Try.prog 24 #[.string s, .bool p] w fun e w' => e = .returned (.bool (decB s.data.toList p)) ∧ Below w.heap.size w w' := by
  have hconv := run_bytes_of_string (P := Try.prog) w 9 63 5 s Try.underlying9 Try.underlying63 Try.underlying5
  generalize grownCap w s.size 0 5 = cap at hconv
  have hC := bytesRow_cell w s cap ((bytesRow s cap).size, (bytesRow s cap).size + 1)
  generalize bytesRow s cap = C at hconv hC
  have hlen : s.data.toList.length = s.size := by simp
  have HL := hide hlen
  clear hlen
  go_enter Try.func24, Try.ntmps24
  go_wp2
  go_loop [5, 1, 11] (fun n pt i => ∃ (k : Nat) (d : Int) (b : Bool), k ≤ s.size ∧ i = .int .i64 k ∧ n = .int .i64 d ∧ pt = .bool b ∧ 0 ≤ d ∧ d ≤ k ∧ Hid (St s.data.toList p k d b)) (fun _ _ i => s.size - (intOf i).toNat)
  case atStart => exact ⟨0, 0, p, Nat.zero_le _, rfl, rfl, rfl, by omega, by omega, St_start _ _⟩
  case round =>
    obtain ⟨k, d, b, hk, rfl, rfl, rfl, hd0, hd1, HS⟩ := hrel
    obtain ⟨c, hcv⟩ : ∃ c : Int, c = ((s.data.toList.getD k 0).toNat : Int) := ⟨_, rfl⟩
    have hc0 : 0 ≤ c := by omega
    have hc1 : c ≤ 255 := by rw [hcv]; exact byte_le _
    have hcell : k < s.size → (w.alloc (.cells C 5 (C.size, C.size + 1))).cell? ⟨w.heap.size, k, none⟩ = some (.int .u8 c) := fun h => by rw [hcv]; exact hC k h
    have HC := hide hcv
    clear hcv hC hconv
    go_wp2
    · have hlt : k < s.size := by assumption
      go_round
      case rel => exact ⟨k + 1, d + 1, b, by omega, by go_num, rfl, rfl, by omega, by omega, St_dig HS.out (by have := HL.out; omega) HC.out (by assumption) (by assumption)⟩
      case measure => simp [intOf]; omega
    · go_ret
      exact ⟨ret_bool (St_bad HS.out (by have := HL.out; omega) HC.out (by omega) (.inl (by assumption))).symm, ((Below.refl _ _).alloc (Nat.le_refl _) _).drew⟩
    · have hlt : k < s.size := by assumption
      have hb : b = true := by assumption
      subst hb
      go_round
      case rel => exact ⟨k + 1, d, false, by omega, by go_num, rfl, rfl, by omega, by omega, St_dot HS.out (by have := HL.out; omega) HC.out (by assumption)⟩
      case measure => simp [intOf]; omega
    · go_ret
      exact ⟨ret_bool (St_bad HS.out (by have := HL.out; omega) HC.out (by omega) (.inr (by assumption))).symm, ((Below.refl _ _).alloc (Nat.le_refl _) _).drew⟩
    · go_ret
      exact ⟨ret_bool (St_bad HS.out (by have := HL.out; omega) HC.out (by omega) (.inl (by assumption))).symm, ((Below.refl _ _).alloc (Nat.le_refl _) _).drew⟩
    · go_ret
      exact ⟨ret_bool (St_end HS.out (by have := HL.out; omega)).symm, ((Below.refl _ _).alloc (Nat.le_refl _) _).drew⟩

theorem zzIsDecimal_any (s : ByteArray) (p : Bool) (w : World) (hs : s.size ≤ 1048576) :
    Calls Try.prog 11 #[.string s, .bool p] w fun e w' => e = .returned (.bool (decB s.data.toList p)) ∧ Below w.heap.size w w' := by
  go_enter Try.func11, Try.ntmps11
  go_wp2_with (go_at_call 24; refine (isDecimal_any _ _ _ hs).mono ?_; rintro e w' ⟨rfl, hb⟩)
  go_ret
  exact ⟨rfl, hb⟩

theorem bytes_any (s : ByteArray) (p : Bool) (w : World) :
    Calls Try.prog 10 #[.string s, .bool p] w fun e w' => e = .returned (.bool (decide (s.size ≤ 1048576))) ∧ w = w' := by
  by_cases h : s.size ≤ 1048576
  · go_enter Try.func10, Try.ntmps10
    go_wp2
    go_ret
    exact ⟨by simp [h], rfl⟩
  · go_enter Try.func10, Try.ntmps10
    go_wp2
    go_ret
    exact ⟨by simp [h], rfl⟩

set_option maxHeartbeats 1000000 in
theorem walk (s : ByteArray) (p : Bool) (w : World) :
    Calls Try.prog 3 #[.string s, .bool p] w fun e w' => e = .returned (.bool true) ∧ Below w.heap.size w w' := by
  have hlen : s.data.toList.length = s.size := by simp
  have HL := hide hlen
  clear hlen
  by_cases hs : s.size ≤ 1048576
  · have hs2 : decide (s.size ≤ 1048576) = true := by simp [hs]
    have hs3 : decide (1048576 < (s.size : Int)) = false := by simp; omega
    go_enter Try.func3, Try.ntmps3
    go_wp2_with (go_at_call 10; refine (bytes_any _ _ _).mono ?_; rintro e w' ⟨rfl, rfl⟩)
    go_loop [5, 6, 7, 8] (fun x y z i => ∃ (k : Nat) (a b c : Int), k ≤ s.size ∧ i = .int .i64 k ∧ x = .int .i64 a ∧ y = .int .i64 b ∧ z = .int .i64 c ∧ Hid (Ct s.data.toList k a b c)) (fun _ _ _ i => s.size - (intOf i).toNat)
    case atStart => exact ⟨0, 0, 0, 0, Nat.zero_le _, rfl, rfl, rfl, rfl, Ct_start _⟩
    case round =>
      obtain ⟨k, a, b, c, hk, rfl, rfl, rfl, rfl, HC⟩ := hrel
      obtain ⟨ba0, ba1, bb0, bb1, bc0, bc1⟩ := Ct_bd HC.out
      by_cases hlt : k < s.size
      · have HX := hide (byteAt s k hlt)
        go_wp2
        · go_round
          case rel => exact ⟨k + 1, a + 1, b, c, by omega, by go_num, rfl, rfl, rfl, Ct_dig HC.out (by have := HL.out; omega) HX.out (by assumption) (by assumption)⟩
          case measure => simp [intOf]; omega
        · go_round
          case rel => exact ⟨k + 1, a, b, c + 1, by omega, by go_num, rfl, rfl, rfl, Ct_oth HC.out (by have := HL.out; omega) HX.out (by omega) (by simpa using ‹(_ == (46 : Int)) = false›)⟩
          case measure => simp [intOf]; omega
        · go_round
          case rel => exact ⟨k + 1, a, b + 1, c, by omega, by go_num, rfl, rfl, rfl, Ct_dot HC.out (by have := HL.out; omega) HX.out (by simpa using ‹(_ == (46 : Int)) = true›)⟩
          case measure => simp [intOf]; omega
        · go_round
          case rel => exact ⟨k + 1, a, b, c + 1, by omega, by go_num, rfl, rfl, rfl, Ct_oth HC.out (by have := HL.out; omega) HX.out (by omega) (by simpa using ‹(_ == (46 : Int)) = false›)⟩
          case measure => simp [intOf]; omega
      · have hl : s.data.toList.length ≤ k := by have := HL.out; omega
        have HL2 := hide hl
        clear hl
        cases p
        · go_wp2_with (go_at_call 11; refine (zzIsDecimal_any _ _ _ hs).mono ?_; rintro e w' ⟨rfl, hb⟩)
          · go_ret
            exact ⟨ret_bool (end_yes HC.out HL2.out false (by assumption) (by assumption)), hb⟩
          · go_ret
            exact ⟨ret_bool (end_no HC.out HL2.out false (by omega)), hb⟩
          · go_ret
            exact ⟨ret_bool (end_no HC.out HL2.out false (by omega)), hb⟩
        · go_wp2_with (go_at_call 11; refine (zzIsDecimal_any _ _ _ hs).mono ?_; rintro e w' ⟨rfl, hb⟩)
          · go_ret
            exact ⟨ret_bool (end_yes HC.out HL2.out true (by assumption) (by assumption)), hb⟩
          · go_ret
            exact ⟨ret_bool (end_no HC.out HL2.out true (by omega)), hb⟩
          · go_ret
            exact ⟨ret_bool (end_no HC.out HL2.out true (by omega)), hb⟩
  · go_enter Try.func3, Try.ntmps3
    go_wp2_with (go_at_call 10; refine (bytes_any _ _ _).mono ?_; rintro e w' ⟨rfl, rfl⟩)
    go_ret
    exact ⟨rfl, Below.refl _ _⟩

end Go.Proofs.Qxb6600461a.Dec
