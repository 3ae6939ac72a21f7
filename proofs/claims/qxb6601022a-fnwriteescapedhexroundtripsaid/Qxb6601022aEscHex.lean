/-
  writeEscaped over a text of hex escapes.
-/
import Derived.Test.Qxb6601022aEscOct
set_option linter.unusedVariables false
set_option linter.unusedSimpArgs false
namespace Go.Proofs.Qxb6601022a.Esc
open Go.RowKit

/-- s is P 0, .., P (n-1), each as a backslash, an x and two hex digits. -/
structure HexEnc (s : ByteArray) (n : Nat) (P : Nat → Nat) (up : Bool) : Prop where
  size : s.size = 4 * n
  bd : ∀ k, k < n → P k < 256
  b0 : ∀ k, k < n → by_ s (4 * k) = 92
  b1 : ∀ k, k < n → by_ s (4 * k + 1) = 120
  b2 : ∀ k, k < n → by_ s (4 * k + 2) = hexc (P k / 16) up
  b3 : ∀ k, k < n → by_ s (4 * k + 3) = hexc (P k % 16) up
theorem hexRead (s : ByteArray) (n : Nat) (P : Nat → Nat) (up : Bool) (h : HexEnc s n P up) (k j : Nat) (hk : k < n) (hj : j = 4 * k) (hs : s.size ≤ 262144) (w : World) :
    Calls Try.prog 35 #[.string (s.extract (j + 1 + 1) s.size), .int .i64 16, .int .i64 2] w fun e w' => e = .returned (.tuple #[.int .u32 ((P k : Nat) : Int), .int .i64 2]) ∧ w = w' := by
  subst hj
  have hsz := h.size
  have hb := h.bd k hk
  refine (digits_any (s.extract (4 * k + 1 + 1) s.size) 16 2 w (by rw [size_extract _ _ (by omega)]; omega) (by decide) (by decide)).mono ?_
  rintro e w' ⟨⟨m, hst, rfl⟩, rfl⟩
  have e0 : by_ (s.extract (4 * k + 1 + 1) s.size) 0 = hexc (P k / 16) up := by rw [by_extract _ _ _ (by omega)]; exact h.b2 k hk
  have e1 : by_ (s.extract (4 * k + 1 + 1) s.size) 1 = hexc (P k % 16) up := by rw [by_extract _ _ _ (by omega)]; exact h.b3 k hk
  have d0 : dv (by_ (s.extract (4 * k + 1 + 1) s.size) 0) = ((P k / 16 : Nat) : Int) := by rw [e0]; exact dv_hexc _ _ (by omega)
  have d1 : dv (by_ (s.extract (4 * k + 1 + 1) s.size) 1) = ((P k % 16 : Nat) : Int) := by rw [e1]; exact dv_hexc _ _ (by omega)
  have hm : m = 2 := hst.eq (by omega) (by rw [size_extract _ _ (by omega)]; omega) (fun i hi => by
    have : i = 0 ∨ i = 1 := by omega
    rcases this with rfl | rfl
    · rw [d0]; omega
    · rw [d1]; omega) (.inl rfl)
  subst hm
  have hv : val 16 (by_ (s.extract (4 * k + 1 + 1) s.size)) 2 = P k := by
    simp only [val, d0, d1, Int.toNat_natCast]
    omega
  exact ⟨by rw [hv]; rfl, rfl⟩

set_option maxRecDepth 100000 in
set_option maxHeartbeats 2000000 in
theorem weHex (B b E n : Nat) (f : Fl) (s : ByteArray) (P : Nat → Nat) (up : Bool) (w : World) (h : St w B b E f []) (he : HexEnc s n P up) (hn : n ≤ 65536) (hno : f.has 120 = false) :
    Calls Try.prog 31 #[.pointer (some ⟨b, 0, none⟩), .string s, .pointer (some ⟨E, 0, none⟩)] w fun e w' => e = .returned (.bool false) ∧ St w' B b E f (outOf f.ne P n) ∧ Below B w w' := by
  have hsz := he.size
  have hszb : s.size ≤ 262144 := by omega
  have HE := hide he
  have HH := hide h
  have HNO := hide hno
  have HSZ := hide hsz
  clear he h hno hsz
  go_enter Try.func31, Try.ntmps31
  go_wp2
  go_loopg [7] n (fun g i wr => ∃ k j : Nat, k + g = n ∧ i = .int .i64 (j : Int) ∧ j ≤ s.size ∧ Hid (j = 4 * k) ∧ Hid (St wr B b E f (bytesTo P k)) ∧ Hid (Below B w wr) ∧ Hid (f.ne = true → ∀ j, j < k → P j ≠ 0))
  case atStart => exact ⟨0, 0, by omega, rfl, by omega, rfl, HH.out, Below.refl _ _, fun _ j hj => absurd hj (by omega)⟩
  case round =>
    obtain ⟨k, j, hkg, rfl, hjs, HJ, HS, HB, HNZ⟩ := hrel
    by_cases hk : k < n
    · have hP := HE.out.bd k hk
      have hj3 : j + 4 ≤ s.size := by have := HSZ.out; have := HJ.out; omega
      have hj0 : j < s.size := by omega
      have hj1 : j + 1 < s.size := by omega
      have hb0 : ((s[j]'hj0).toNat : Int) = 92 := by rw [by_at s _ hj0, HJ.out, HE.out.b0 k hk]; rfl
      have hb1 : ((s[j + 1]'hj1).toNat : Int) = 120 := by rw [by_at s _ hj1, HJ.out, HE.out.b1 k hk]; rfl
      have hc0 : wr.cell? ⟨E, 0, none⟩ = some (.map f.r) := HS.out.cell 0
      have hc5 : wr.cell? ⟨E, 5, none⟩ = some (.bool f.ne) := HS.out.cell 5
      have hlk : (Instr.lookup 40 (.map f.r) (.int .u8 120) true).run Try.prog wr = .ok (.tuple #[.int .u8 ((f.d 120 : Nat) : Int), .bool false]) wr := by
        have := HS.out.lk.run 120 (by omega)
        rw [HNO.out] at this
        exact this
      have hlen : (bytesTo P k).length ≤ 1000000 := by rw [bytesTo_len]; omega
      have HW := hide (fun (w' : World) (h' : St w' B b E f (bytesTo P k)) => writeByte_any (P k) w' h' hP hlen)
      have HR := hide (hexRead s n P up HE.out k j hk HJ.out hszb)
      by_cases hp0 : P k = 0
      · cases hne : f.ne
        · rw [hne] at hc5
          rw [hp0] at HR HW
          have HR' := hide (show ∀ w, Calls Try.prog 35 _ w (fun e w' => e = .returned (.tuple #[.int .u32 0, .int .i64 2]) ∧ w = w') from HR.out)
          have HW' := hide (show ∀ w', St w' B b E f (bytesTo P k) → Calls Try.prog 34 #[.pointer (some ⟨b, 0, none⟩), .int .u8 0] w' _ from HW.out)
          go_wp2_with fail
          refine (HR'.out _).mono ?_
          rintro e w' ⟨rfl, rfl⟩
          go_wp2_with fail
          refine (HW'.out _ HS.out).mono ?_
          rintro e w2 ⟨rfl, hst, hbl⟩
          have hst2 : Hid (St w2 B b E f (bytesTo P (k + 1))) := by rw [bytesTo_succ, hp0]; exact hst
          have hbl2 : Hid (Below B w w2) := HB.out.trans hbl
          clear hst hbl
          go_wp2
          go_roundg (n - (k + 1))
          case measure => omega
          case rel => exact ⟨k + 1, j + 4, by omega, by go_num, by omega, (show _ = _ by rw [HJ.out]; omega), hst2, hbl2, fun h => by rw [hne] at h; cases h⟩
        · rw [hne] at hc5
          rw [hp0] at HR
          have HR' := hide (show ∀ w, Calls Try.prog 35 _ w (fun e w' => e = .returned (.tuple #[.int .u32 0, .int .i64 2]) ∧ w = w') from HR.out)
          have hout : outOf f.ne P n = bytesTo P k := by
            unfold outOf
            rw [hne, if_pos rfl]
            exact cutN_bytesTo P n k hk HE.out.bd (HNZ.out hne) hp0
          have HO := hide hout
          clear hout
          go_wp2_with fail
          refine (HR'.out _).mono ?_
          rintro e w' ⟨rfl, rfl⟩
          go_wp2
          go_ret
          exact ⟨rfl, by rw [HO.out]; exact HS.out, HB.out⟩
      · have hp1 : (((P k : Nat) : Int) == 0) = false := by rw [beq_eq_false_iff_ne]; omega
        go_wp2_with fail
        refine (HR.out _).mono ?_
        rintro e w' ⟨rfl, rfl⟩
        go_wp2_with fail
        refine (HW.out _ HS.out).mono ?_
        rintro e w2 ⟨rfl, hst, hbl⟩
        have hst2 : Hid (St w2 B b E f (bytesTo P (k + 1))) := by rw [bytesTo_succ]; exact hst
        have hbl2 : Hid (Below B w w2) := HB.out.trans hbl
        clear hst hbl
        go_wp2
        go_roundg (n - (k + 1))
        case measure => omega
        case rel =>
          refine ⟨k + 1, j + 4, by omega, by go_num, by omega, (show _ = _ by rw [HJ.out]; omega), hst2, hbl2, fun h i hi => ?_⟩
          by_cases e : i = k
          · subst e; exact hp0
          · exact HNZ.out h i (by omega)
    · have hout : bytesTo P k = outOf f.ne P n := by
        obtain rfl : k = n := by omega
        unfold outOf
        cases hne : f.ne
        · rfl
        · rw [if_pos rfl]
          exact (cutN_bytesAll P k HE.out.bd (HNZ.out hne)).symm
      have hj : j = s.size := by have := HSZ.out; have := HJ.out; omega
      have HO := hide hout
      clear hout
      have hlt : ¬ j < s.size := by omega
      clear hj
      go_wp2
      go_ret
      exact ⟨rfl, by rw [← HO.out]; exact HS.out, HB.out⟩

end Go.Proofs.Qxb6601022a.Esc
