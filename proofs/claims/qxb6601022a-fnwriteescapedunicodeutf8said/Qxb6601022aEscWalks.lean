/-
  The walks of the small callees: digitValue, digits, hexDigit, beforeNUL, hasByte.
-/
import Derived.Test.Qxb6601022aRows
import Derived.Test.Qxb6601022aEscPlain
import Derived.WalkKit
import Derived.ProofKit
import Derived.WalkSpells
import Derived.Laws.BitsAllLaws
set_option linter.unusedVariables false
set_option linter.unusedSimpArgs false
namespace Go.Proofs.Qxb6601022a.Esc
open Go.RowKit

theorem ret_int {k : IntKind} {a b : Int} (h : a = b) : Ending.returned (.int k a) = .returned (.int k b) := by rw [h]

theorem digitValue_any (c : Nat) (w : World) (hc : c < 256) :
    Calls Try.prog 40 #[.int .u8 (c : Int)] w fun e w' => e = .returned (.int .i64 (dv c)) ∧ w = w' := by
  unfold dv
  by_cases h1 : 48 ≤ c ∧ c ≤ 57
  · rw [if_pos h1]
    go_enter Try.func40, Try.ntmps40
    go_wp2
    go_ret
    exact ⟨rfl, rfl⟩
  rw [if_neg h1]
  by_cases h2 : 97 ≤ c ∧ c ≤ 102
  · rw [if_pos h2]
    go_enter Try.func40, Try.ntmps40
    go_wp2
    go_ret
    exact ⟨ret_int (by omega), rfl⟩
  rw [if_neg h2]
  by_cases h3 : 65 ≤ c ∧ c ≤ 70
  · rw [if_pos h3]
    go_enter Try.func40, Try.ntmps40
    go_wp2
    go_ret
    exact ⟨ret_int (by omega), rfl⟩
  · rw [if_neg h3]
    go_enter Try.func40, Try.ntmps40
    go_wp2
    all_goals
      go_ret
      exact ⟨rfl, rfl⟩

theorem val_step (base : Nat) (g : Nat → Nat) (n d : Nat) (h : dv (g n) = (d : Int)) : (((val base g n : Nat) : Int) * (base : Int) % 4294967296 + (d : Int)) % 4294967296 = ((val base g (n + 1) : Nat) : Int) := by
  simp only [val]
  rw [h, Int.toNat_natCast, ← Int.natCast_mul]
  omega

set_option maxHeartbeats 1000000 in
theorem digits_any (s : ByteArray) (base most : Nat) (w : World) (hs : s.size ≤ 9223372036854775807) (hb : base ≤ 16) (hm : most ≤ 8) :
    Calls Try.prog 35 #[.string s, .int .i64 (base : Int), .int .i64 (most : Int)] w fun e w' => (∃ n, Stop base most s.size (by_ s) n ∧ e = .returned (.tuple #[.int .u32 ((val base (by_ s) n : Nat) : Int), .int .i64 (n : Int)])) ∧ w = w' := by
  go_enter Try.func35, Try.ntmps35
  go_wp2
  go_loop [8, 9] (fun v i => ∃ n : Nat, n ≤ most ∧ n ≤ s.size ∧ i = .int .i64 n ∧ v = .int .u32 ((val base (by_ s) n : Nat) : Int) ∧ Hid (∀ j, j < n → 0 ≤ dv (by_ s j) ∧ dv (by_ s j) < base)) (fun _ i => most - (intOf i).toNat)
  case atStart => exact ⟨0, by omega, by omega, rfl, rfl, fun j hj => absurd hj (by omega)⟩
  case round =>
    obtain ⟨n, hn1, hn2, rfl, rfl, HY⟩ := hrel
    by_cases h1 : n < most
    · by_cases h2 : n < s.size
      · have hby := by_at s n h2
        have hd := dv_bd (by_ s n)
        have hlt := by_lt s n
        have hv := val_lt base (by_ s) n
        have HC := hide (fun w => digitValue_any (by_ s n) w hlt)
        by_cases h3 : 0 ≤ dv (by_ s n) ∧ dv (by_ s n) < base
        · obtain ⟨d, hdd⟩ := Int.eq_ofNat_of_zero_le h3.1
          have hdb : d < base := by omega
          have HD := hide hdd
          go_wp2_with (go_at_call 40; refine (HC.out _).mono ?_; rintro e w' ⟨rfl, rfl⟩; rw [HD.out])
          go_round
          case rel =>
            refine ⟨n + 1, by omega, by omega, by go_num, ?_, ?_⟩
            · rw [val_step base (by_ s) n d HD.out]
            · intro j hj
              by_cases e : j = n
              · subst e; exact h3
              · exact HY.out j (by omega)
          case measure => simp [intOf]; omega
        · go_wp2_with (go_at_call 40; refine (HC.out _).mono ?_; rintro e w' ⟨rfl, rfl⟩)
          all_goals
            go_ret2
            exact ⟨⟨n, ⟨hn1, hn2, HY.out, .inr (.inr h3)⟩, rfl⟩, rfl⟩
      · go_wp2
        go_ret2
        exact ⟨⟨n, ⟨hn1, hn2, HY.out, .inr (.inl (by omega))⟩, rfl⟩, rfl⟩
    · go_wp2
      go_ret2
      exact ⟨⟨n, ⟨hn1, hn2, HY.out, .inl (by omega)⟩, rfl⟩, rfl⟩

theorem u8_and15 (v : Nat) (h : v < 256) : bits .and .u8 (v : Int) 15 = ((v % 16 : Nat) : Int) := by
  have := u8_and_nat v 15 h (by decide)
  rw [nat_mask4] at this
  exact this

theorem hexDigit_any (v : Nat) (up : Bool) (w : World) (hv : v < 256) :
    Calls Try.prog 21 #[.int .u8 (v : Int), .bool up] w fun e w' => e = .returned (.int .u8 ((hexc (v % 16) up : Nat) : Int)) ∧ w = w' := by
  have hand := u8_and15 v hv
  have hm : v % 16 < 16 := Nat.mod_lt _ (by decide)
  generalize v % 16 = d at hand hm
  unfold hexc
  by_cases h1 : d < 10
  · rw [if_pos h1]
    go_enter Try.func21, Try.ntmps21
    go_wp2
    go_ret
    exact ⟨ret_int (by omega), rfl⟩
  · rw [if_neg h1]
    cases up
    · go_enter Try.func21, Try.ntmps21
      go_wp2
      go_ret
      exact ⟨ret_int (by first | omega | (simp; omega) | (simp only [Bool.false_eq_true, if_false, if_true]; omega)), rfl⟩
    · go_enter Try.func21, Try.ntmps21
      go_wp2
      go_ret
      exact ⟨ret_int (by first | omega | (simp; omega) | (simp only [Bool.false_eq_true, if_false, if_true]; omega)), rfl⟩

/-- p up to its first NUL. -/
def cutN (l : List UInt8) : List UInt8 := l.takeWhile (fun c => c.toNat != 0)
theorem cutN_at (l : List UInt8) (k : Nat) (hk : k < l.length) (hn : ∀ j, j < k → (l.getD j 0).toNat ≠ 0) (h0 : (l.getD k 0).toNat = 0) : cutN l = l.take k := by
  induction l generalizing k with
  | nil => simp at hk
  | cons c l ih =>
    cases k with
    | zero => simp at h0; simp [cutN, h0]
    | succ k =>
      have hc : c.toNat ≠ 0 := by simpa using hn 0 (by omega)
      have := ih k (by simpa using hk) (fun j hj => by simpa using hn (j + 1) (by omega)) (by simpa using h0)
      unfold cutN at this ⊢
      rw [List.takeWhile_cons_of_pos (by simpa using hc), this]; rfl
theorem cutN_all (l : List UInt8) (hn : ∀ j, j < l.length → (l.getD j 0).toNat ≠ 0) : cutN l = l := by
  induction l with
  | nil => rfl
  | cons c l ih =>
    have hc : c.toNat ≠ 0 := by simpa using hn 0 (by simp)
    have := ih (fun j hj => by simpa using hn (j + 1) (by simpa using hj))
    unfold cutN at this ⊢
    rw [List.takeWhile_cons_of_pos (by simpa using hc), this]
theorem data_eq (a b : ByteArray) (h : a.data.toList = b.data.toList) : a = b := by
  cases a; cases b; simp at h; simp [h]

theorem beforeNUL_any (p : ByteArray) (w : World) (hp : p.size ≤ 65536) :
    Calls Try.prog 23 #[.string p] w fun e w' => e = .returned (.string ⟨(cutN p.data.toList).toArray⟩) ∧ w = w' := by
  have hlen : p.data.toList.length = p.size := by simp
  have HL := hide hlen
  clear hlen
  go_enter Try.func23, Try.ntmps23
  go_wp2
  go_loop [3] (fun i => ∃ k : Nat, k ≤ p.size ∧ i = .int .i64 k ∧ Hid (∀ j, j < k → by_ p j ≠ 0)) (fun i => p.size - (intOf i).toNat)
  case atStart => exact ⟨0, Nat.zero_le _, rfl, fun j hj => absurd hj (by omega)⟩
  case round =>
    obtain ⟨k, hk, rfl, HN⟩ := hrel
    by_cases hlt : k < p.size
    · have hby := by_at p k hlt
      by_cases hz : by_ p k = 0
      · rw [hz] at hby
        have hfin : p.extract 0 k = ⟨(cutN p.data.toList).toArray⟩ := by
          apply data_eq
          rw [cutN_at p.data.toList k (by rw [HL.out]; exact hlt) HN.out hz, ByteArray.data_extract, Array.toList_extract]
          simp [List.extract]
        have HF := hide hfin
        clear hz hfin
        go_wp2
        go_ret
        exact ⟨congrArg (fun x => Ending.returned (Value.string x)) HF.out, rfl⟩
      · have hz2 : (((by_ p k : Nat) : Int) == 0) = false := by rw [beq_eq_false_iff_ne]; omega
        go_wp2
        go_round
        case rel =>
          refine ⟨k + 1, by omega, by go_num, fun j hj => ?_⟩
          by_cases e : j = k
          · subst e; exact hz
          · exact HN.out j (by omega)
        case measure => simp [intOf]; omega
    · have hfin : p = ⟨(cutN p.data.toList).toArray⟩ := by
        apply data_eq
        rw [cutN_all p.data.toList (fun j hj => HN.out j (by rw [HL.out] at hj; omega))]
      have HF := hide hfin
      clear hfin
      go_wp2
      go_ret
      exact ⟨congrArg (fun x => Ending.returned (Value.string x)) HF.out, rfl⟩

/-- What hasByte says. -/
def HasB (s : ByteArray) (c : Nat) (e : Ending) : Prop := ∃ b : Bool, (b = false → ∀ j, j < s.size → by_ s j ≠ c) ∧ e = .returned (.bool b)

theorem hasByte_any (s : ByteArray) (c : Nat) (w : World) (hs : s.size ≤ 65536) (hc : c < 256) :
    Calls Try.prog 29 #[.string s, .int .u8 (c : Int)] w fun e w' => HasB s c e ∧ w = w' := by
  go_enter Try.func29, Try.ntmps29
  go_wp2
  go_loop [5] (fun i => ∃ k : Nat, k ≤ s.size ∧ i = .int .i64 k ∧ Hid (∀ j, j < k → by_ s j ≠ c)) (fun i => s.size - (intOf i).toNat)
  case atStart => exact ⟨0, Nat.zero_le _, rfl, fun j hj => absurd hj (by omega)⟩
  case round =>
    obtain ⟨k, hk, rfl, HN⟩ := hrel
    by_cases hlt : k < s.size
    · have hby := by_at s k hlt
      by_cases hz : by_ s k = c
      · rw [hz] at hby
        clear hz
        go_wp2
        go_ret
        exact ⟨⟨true, (fun h => by cases h), rfl⟩, rfl⟩
      · have hz2 : (((by_ s k : Nat) : Int) == (c : Int)) = false := by rw [beq_eq_false_iff_ne]; omega
        go_wp2
        go_round
        case rel =>
          refine ⟨k + 1, by omega, by go_num, fun j hj => ?_⟩
          by_cases e : j = k
          · subst e; exact hz
          · exact HN.out j (by omega)
        case measure => simp [intOf]; omega
    · go_wp2
      go_ret
      exact ⟨⟨false, fun _ j hj => HN.out j (by omega), rfl⟩, rfl⟩

end Go.Proofs.Qxb6601022a.Esc
