/-
  writeEscaped over a text of octal escapes.
-/
import Derived.Test.Qxb6601022aEscBuf
set_option linter.unusedVariables false
set_option linter.unusedSimpArgs false
namespace Go.Proofs.Qxb6601022a.Esc
open Go.RowKit

/-- s is P 0, .., P (n-1), each as a backslash and three octal digits. -/
structure OctEnc (s : ByteArray) (n : Nat) (P : Nat → Nat) : Prop where
  size : s.size = 4 * n
  bd : ∀ k, k < n → P k < 256
  b0 : ∀ k, k < n → by_ s (4 * k) = 92
  b1 : ∀ k, k < n → by_ s (4 * k + 1) = 48 + P k / 64
  b2 : ∀ k, k < n → by_ s (4 * k + 2) = 48 + P k / 8 % 8
  b3 : ∀ k, k < n → by_ s (4 * k + 3) = 48 + P k % 8
/-- The bytes P 0, .., P (k-1). -/
def bytesTo (P : Nat → Nat) (k : Nat) : List UInt8 := (List.range k).map fun i => (P i).toUInt8
theorem bytesTo_succ (P : Nat → Nat) (k : Nat) : bytesTo P (k + 1) = bytesTo P k ++ [(P k).toUInt8] := by simp [bytesTo, List.range_succ]
theorem bytesTo_len (P : Nat → Nat) (k : Nat) : (bytesTo P k).length = k := by simp [bytesTo]
theorem dv_oct (d : Nat) (h : d < 8) : dv (48 + d) = (d : Int) := by unfold dv; rw [if_pos (by omega)]; omega
/-- What comes out. -/
def outOf (ne : Bool) (P : Nat → Nat) (n : Nat) : List UInt8 := if ne then cutN (bytesTo P n) else bytesTo P n

theorem oct3 (s : ByteArray) (n : Nat) (P : Nat → Nat) (h : OctEnc s n P) (k : Nat) (hk : k < n) (m : Nat) (hs : Stop 8 3 (s.extract (4 * k + 1) s.size).size (by_ (s.extract (4 * k + 1) s.size)) m) : m = 3 ∧ val 8 (by_ (s.extract (4 * k + 1) s.size)) m = P k := by
  have hsz := h.size
  have hb := h.bd k hk
  have e0 : by_ (s.extract (4 * k + 1) s.size) 0 = 48 + P k / 64 := by rw [by_extract _ _ _ (by omega)]; exact h.b1 k hk
  have e1 : by_ (s.extract (4 * k + 1) s.size) 1 = 48 + P k / 8 % 8 := by rw [by_extract _ _ _ (by omega)]; exact h.b2 k hk
  have e2 : by_ (s.extract (4 * k + 1) s.size) 2 = 48 + P k % 8 := by rw [by_extract _ _ _ (by omega)]; exact h.b3 k hk
  have d0 : dv (by_ (s.extract (4 * k + 1) s.size) 0) = ((P k / 64 : Nat) : Int) := by rw [e0]; exact dv_oct _ (by omega)
  have d1 : dv (by_ (s.extract (4 * k + 1) s.size) 1) = ((P k / 8 % 8 : Nat) : Int) := by rw [e1]; exact dv_oct _ (by omega)
  have d2 : dv (by_ (s.extract (4 * k + 1) s.size) 2) = ((P k % 8 : Nat) : Int) := by rw [e2]; exact dv_oct _ (by omega)
  have hm : m = 3 := hs.eq (by omega) (by rw [size_extract _ _ (by omega)]; omega) (fun i hi => by
    have : i = 0 ∨ i = 1 ∨ i = 2 := by omega
    rcases this with rfl | rfl | rfl
    · rw [d0]; omega
    · rw [d1]; omega
    · rw [d2]; omega) (.inl rfl)
  refine ⟨hm, ?_⟩
  subst hm
  simp only [val, d0, d1, d2, Int.toNat_natCast]
  omega
theorem oct2 (s : ByteArray) (n : Nat) (P : Nat → Nat) (h : OctEnc s n P) (k : Nat) (hk : k < n) (h0 : P k / 64 = 0) (m : Nat) (hs : Stop 8 3 (s.extract (4 * k + 2) s.size).size (by_ (s.extract (4 * k + 2) s.size)) m) : m = 2 ∧ val 8 (by_ (s.extract (4 * k + 2) s.size)) m = P k := by
  have hsz := h.size
  have hb := h.bd k hk
  have e1 : by_ (s.extract (4 * k + 2) s.size) 0 = 48 + P k / 8 % 8 := by rw [by_extract _ _ _ (by omega)]; exact h.b2 k hk
  have e2 : by_ (s.extract (4 * k + 2) s.size) 1 = 48 + P k % 8 := by rw [by_extract _ _ _ (by omega)]; exact h.b3 k hk
  have d1 : dv (by_ (s.extract (4 * k + 2) s.size) 0) = ((P k / 8 % 8 : Nat) : Int) := by rw [e1]; exact dv_oct _ (by omega)
  have d2 : dv (by_ (s.extract (4 * k + 2) s.size) 1) = ((P k % 8 : Nat) : Int) := by rw [e2]; exact dv_oct _ (by omega)
  have hm : m = 2 := hs.eq (by omega) (by rw [size_extract _ _ (by omega)]; omega) (fun i hi => by
    have : i = 0 ∨ i = 1 := by omega
    rcases this with rfl | rfl
    · rw [d1]; omega
    · rw [d2]; omega) (by
    by_cases hl : k + 1 < n
    · refine .inr (.inr ?_)
      rw [by_extract _ _ _ (by omega), show 4 * k + 2 + 2 = 4 * (k + 1) from by omega, h.b0 (k + 1) hl]
      decide
    · refine .inr (.inl ?_)
      rw [size_extract _ _ (by omega)]; omega)
  refine ⟨hm, ?_⟩
  subst hm
  simp only [val, d1, d2, Int.toNat_natCast]
  omega

theorem digits83 (t : ByteArray) (ht : t.size ≤ 262144) (w : World) :
    Calls Try.prog 35 #[.string t, .int .i64 8, .int .i64 3] w fun e w' => (∃ n, Stop 8 3 t.size (by_ t) n ∧ e = .returned (.tuple #[.int .u32 ((val 8 (by_ t) n : Nat) : Int), .int .i64 (n : Int)])) ∧ w = w' :=
  digits_any t 8 3 w (by omega) (by decide) (by decide)

theorem cutN_bytesTo (P : Nat → Nat) (n k : Nat) (hk : k < n) (hb : ∀ j, j < n → P j < 256) (hnz : ∀ j, j < k → P j ≠ 0) (h0 : P k = 0) : cutN (bytesTo P n) = bytesTo P k := by
  have hget : ∀ j, j < n → ((bytesTo P n).getD j 0).toNat = P j := by
    intro j hj
    have := hb j hj
    simp [bytesTo, List.getD, hj, Nat.mod_eq_of_lt this]
  rw [cutN_at (bytesTo P n) k (by rw [bytesTo_len]; exact hk) (fun j hj => by rw [hget j (by omega)]; exact hnz j hj) (by rw [hget k hk]; exact h0)]
  unfold bytesTo
  rw [← List.map_take, List.take_range, Nat.min_eq_left (by omega)]
theorem cutN_bytesAll (P : Nat → Nat) (n : Nat) (hb : ∀ j, j < n → P j < 256) (hnz : ∀ j, j < n → P j ≠ 0) : cutN (bytesTo P n) = bytesTo P n := by
  apply cutN_all
  intro j hj
  rw [bytesTo_len] at hj
  have := hb j hj
  have h2 := hnz j hj
  simpa [bytesTo, List.getD, hj, Nat.mod_eq_of_lt this] using h2

theorem octRead2 (s : ByteArray) (n : Nat) (P : Nat → Nat) (h : OctEnc s n P) (k j : Nat) (hk : k < n) (hj : j = 4 * k) (h0 : P k / 64 = 0) (hs : s.size ≤ 262144) (w : World) :
    Calls Try.prog 35 #[.string (s.extract (j + 1 + 1) s.size), .int .i64 8, .int .i64 3] w fun e w' => e = .returned (.tuple #[.int .u32 ((P k : Nat) : Int), .int .i64 2]) ∧ w = w' := by
  subst hj
  have hsz := h.size
  refine (digits83 _ (by rw [size_extract _ _ (by omega)]; omega) w).mono ?_
  rintro e w' ⟨⟨m, hst, rfl⟩, rfl⟩
  obtain ⟨rfl, hv⟩ := oct2 s n P h k hk h0 m hst
  exact ⟨by rw [show 4 * k + 1 + 1 = 4 * k + 2 from rfl, hv]; rfl, rfl⟩
theorem octRead3 (s : ByteArray) (n : Nat) (P : Nat → Nat) (h : OctEnc s n P) (k j : Nat) (hk : k < n) (hj : j = 4 * k) (hs : s.size ≤ 262144) (w : World) :
    Calls Try.prog 35 #[.string (s.extract (j + 1) s.size), .int .i64 8, .int .i64 3] w fun e w' => e = .returned (.tuple #[.int .u32 ((P k : Nat) : Int), .int .i64 3]) ∧ w = w' := by
  subst hj
  have hsz := h.size
  refine (digits83 _ (by rw [size_extract _ _ (by omega)]; omega) w).mono ?_
  rintro e w' ⟨⟨m, hst, rfl⟩, rfl⟩
  obtain ⟨rfl, hv⟩ := oct3 s n P h k hk m hst
  exact ⟨by rw [hv]; rfl, rfl⟩

set_option maxRecDepth 100000 in
set_option maxHeartbeats 2000000 in
theorem weOct (B b E n : Nat) (f : Fl) (s : ByteArray) (P : Nat → Nat) (w : World) (h : St w B b E f []) (he : OctEnc s n P) (hn : n ≤ 65536) (hoc : f.oc = true) (hno : ∀ j, j < 4 → f.has (48 + j) = false) :
    Calls Try.prog 31 #[.pointer (some ⟨b, 0, none⟩), .string s, .pointer (some ⟨E, 0, none⟩)] w fun e w' => e = .returned (.bool false) ∧ St w' B b E f (outOf f.ne P n) ∧ Below B w w' := by
  have hsz := he.size
  have hszb : s.size ≤ 262144 := by omega
  have HE := hide he
  have HH := hide h
  have HNO := hide hno
  have HSZ := hide hsz
  have HOC := hide hoc
  clear he h hno hsz hoc
  go_enter Try.func31, Try.ntmps31
  go_wp2
  go_loopg [7] n (fun g i wr => ∃ k j : Nat, k + g = n ∧ i = .int .i64 (j : Int) ∧ j ≤ s.size ∧ Hid (j = 4 * k) ∧ Hid (St wr B b E f (bytesTo P k)) ∧ Hid (Below B w wr) ∧ Hid (f.ne = true → ∀ j, j < k → P j ≠ 0))
  case atStart => exact ⟨0, 0, by omega, rfl, by omega, rfl, HH.out, Below.refl _ _, fun _ j hj => absurd hj (by omega)⟩
  case round =>
    obtain ⟨k, j, hkg, rfl, hjs, HJ, HS, HB, HNZ⟩ := hrel
    by_cases hk : k < n
    · have hP := HE.out.bd k hk
      have hj3 : j + 4 ≤ s.size := by have := HSZ.out; have := HJ.out; omega
      have hj0 : j < s.size := by omega
      have hj1 : j + 1 < s.size := by omega
      have hb0 : ((s[j]'hj0).toNat : Int) = 92 := by rw [by_at s _ hj0, HJ.out, HE.out.b0 k hk]; rfl
      obtain ⟨l, hl⟩ : ∃ l, l = 48 + P k / 64 := ⟨_, rfl⟩
      have hb1 : ((s[j + 1]'hj1).toNat : Int) = (l : Int) := by rw [by_at s _ hj1, HJ.out, HE.out.b1 k hk, hl]
      have hc0 : wr.cell? ⟨E, 0, none⟩ = some (.map f.r) := HS.out.cell 0
      have hc1 : wr.cell? ⟨E, 1, none⟩ = some (.bool true) := by rw [← HOC.out]; exact HS.out.cell 1
      have hc2 : wr.cell? ⟨E, 2, none⟩ = some (.bool f.zo) := HS.out.cell 2
      have hc5 : wr.cell? ⟨E, 5, none⟩ = some (.bool f.ne) := HS.out.cell 5
      have hl51 : 48 ≤ l ∧ l ≤ 51 := by omega
      have hlk : (Instr.lookup 40 (.map f.r) (.int .u8 (l : Int)) true).run Try.prog wr = .ok (.tuple #[.int .u8 ((f.d l : Nat) : Int), .bool false]) wr := by
        have := HS.out.lk.run l (by omega)
        rw [hl, HNO.out (P k / 64) (by omega), ← hl] at this
        exact this
      have hlen : (bytesTo P k).length ≤ 1000000 := by rw [bytesTo_len]; omega
      have HL := hide hl
      clear hl
      have HW := hide (fun (w' : World) (h' : St w' B b E f (bytesTo P k)) => writeByte_any (P k) w' h' hP hlen)
      by_cases hz : f.zo = true ∧ l = 48
      · obtain ⟨hzo, rfl⟩ := hz
        have hb1' : ((s[j + 1]'hj1).toNat : Int) = 48 := hb1
        have hlk' : (Instr.lookup 40 (.map f.r) (.int .u8 48) true).run Try.prog wr = .ok (.tuple #[.int .u8 ((f.d 48 : Nat) : Int), .bool false]) wr := hlk
        have hc2' : wr.cell? ⟨E, 2, none⟩ = some (.bool true) := by rw [hc2, hzo]
        clear hb1 hlk hl51 hc2 hzo
        have HR := hide (octRead2 s n P HE.out k j hk HJ.out (by have := HL.out; omega) hszb)
        by_cases hp0 : P k = 0
        · cases hne : f.ne
          · rw [hne] at hc5
            rw [hp0] at HR HW
            have HR' := hide (show ∀ w, Calls Try.prog 35 _ w (fun e w' => e = .returned (.tuple #[.int .u32 0, .int .i64 2]) ∧ w = w') from HR.out)
            have HW' := hide (show ∀ w', St w' B b E f (bytesTo P k) → Calls Try.prog 34 #[.pointer (some ⟨b, 0, none⟩), .int .u8 0] w' _ from HW.out)
            go_wp2_with fail
            refine (HR'.out _).mono ?_
            rintro e w' ⟨rfl, rfl⟩
            go_wp2_with fail
            refine (HW'.out _ HS.out).mono ?_
            rintro e w2 ⟨rfl, hst, hbl⟩
            have hst2 : Hid (St w2 B b E f (bytesTo P (k + 1))) := by rw [bytesTo_succ, hp0]; exact hst
            have hbl2 : Hid (Below B w w2) := HB.out.trans hbl
            clear hst hbl
            go_wp2
            go_roundg (n - (k + 1))
            case measure => omega
            case rel => exact ⟨k + 1, j + 4, by omega, by go_num, by omega, (show _ = _ by rw [HJ.out]; omega), hst2, hbl2, fun h => by rw [hne] at h; cases h⟩
          · rw [hne] at hc5
            rw [hp0] at HR
            have HR' := hide (show ∀ w, Calls Try.prog 35 _ w (fun e w' => e = .returned (.tuple #[.int .u32 0, .int .i64 2]) ∧ w = w') from HR.out)
            have hout : outOf f.ne P n = bytesTo P k := by
              unfold outOf
              rw [hne, if_pos rfl]
              exact cutN_bytesTo P n k hk HE.out.bd (HNZ.out hne) hp0
            have HO := hide hout
            clear hout
            go_wp2_with fail
            refine (HR'.out _).mono ?_
            rintro e w' ⟨rfl, rfl⟩
            go_wp2
            go_ret
            exact ⟨rfl, by rw [HO.out]; exact HS.out, HB.out⟩
        · have hp1 : (((P k : Nat) : Int) == 0) = false := by rw [beq_eq_false_iff_ne]; omega
          go_wp2_with fail
          refine (HR.out _).mono ?_
          rintro e w' ⟨rfl, rfl⟩
          go_wp2_with fail
          refine (HW.out _ HS.out).mono ?_
          rintro e w2 ⟨rfl, hst, hbl⟩
          have hst2 : Hid (St w2 B b E f (bytesTo P (k + 1))) := by rw [bytesTo_succ]; exact hst
          have hbl2 : Hid (Below B w w2) := HB.out.trans hbl
          clear hst hbl
          go_wp2
          go_roundg (n - (k + 1))
          case measure => omega
          case rel =>
            refine ⟨k + 1, j + 4, by omega, by go_num, by omega, (show _ = _ by rw [HJ.out]; omega), hst2, hbl2, fun h i hi => ?_⟩
            by_cases e : i = k
            · subst e; exact hp0
            · exact HNZ.out h i (by omega)
      · have HR := hide (octRead3 s n P HE.out k j hk HJ.out hszb)
        by_cases hl48 : l = 48
        · have hzo : f.zo = false := by
            cases hzo : f.zo
            · rfl
            · exact absurd ⟨hzo, hl48⟩ hz
          subst hl48
          have hb1' : ((s[j + 1]'hj1).toNat : Int) = 48 := hb1
          have hlk' : (Instr.lookup 40 (.map f.r) (.int .u8 48) true).run Try.prog wr = .ok (.tuple #[.int .u8 ((f.d 48 : Nat) : Int), .bool false]) wr := hlk
          have hc2' : wr.cell? ⟨E, 2, none⟩ = some (.bool false) := by rw [hc2, hzo]
          clear hb1 hlk hl51 hc2 hzo hz
          by_cases hp0 : P k = 0
          · cases hne : f.ne
            · rw [hne] at hc5
              rw [hp0] at HR HW
              have HR' := hide (show ∀ w, Calls Try.prog 35 _ w (fun e w' => e = .returned (.tuple #[.int .u32 0, .int .i64 3]) ∧ w = w') from HR.out)
              have HW' := hide (show ∀ w', St w' B b E f (bytesTo P k) → Calls Try.prog 34 #[.pointer (some ⟨b, 0, none⟩), .int .u8 0] w' _ from HW.out)
              go_wp2_with fail
              refine (HR'.out _).mono ?_
              rintro e w' ⟨rfl, rfl⟩
              go_wp2_with fail
              refine (HW'.out _ HS.out).mono ?_
              rintro e w2 ⟨rfl, hst, hbl⟩
              have hst2 : Hid (St w2 B b E f (bytesTo P (k + 1))) := by rw [bytesTo_succ, hp0]; exact hst
              have hbl2 : Hid (Below B w w2) := HB.out.trans hbl
              clear hst hbl
              go_wp2
              go_roundg (n - (k + 1))
              case measure => omega
              case rel => exact ⟨k + 1, j + 4, by omega, by go_num, by omega, (show _ = _ by rw [HJ.out]; omega), hst2, hbl2, fun h => by rw [hne] at h; cases h⟩
            · rw [hne] at hc5
              rw [hp0] at HR
              have HR' := hide (show ∀ w, Calls Try.prog 35 _ w (fun e w' => e = .returned (.tuple #[.int .u32 0, .int .i64 3]) ∧ w = w') from HR.out)
              have hout : outOf f.ne P n = bytesTo P k := by
                unfold outOf
                rw [hne, if_pos rfl]
                exact cutN_bytesTo P n k hk HE.out.bd (HNZ.out hne) hp0
              have HO := hide hout
              clear hout
              go_wp2_with fail
              refine (HR'.out _).mono ?_
              rintro e w' ⟨rfl, rfl⟩
              go_wp2
              go_ret
              exact ⟨rfl, by rw [HO.out]; exact HS.out, HB.out⟩
          · have hp1 : (((P k : Nat) : Int) == 0) = false := by rw [beq_eq_false_iff_ne]; omega
            go_wp2_with fail
            refine (HR.out _).mono ?_
            rintro e w' ⟨rfl, rfl⟩
            go_wp2_with fail
            refine (HW.out _ HS.out).mono ?_
            rintro e w2 ⟨rfl, hst, hbl⟩
            have hst2 : Hid (St w2 B b E f (bytesTo P (k + 1))) := by rw [bytesTo_succ]; exact hst
            have hbl2 : Hid (Below B w w2) := HB.out.trans hbl
            clear hst hbl
            go_wp2
            go_roundg (n - (k + 1))
            case measure => omega
            case rel =>
              refine ⟨k + 1, j + 4, by omega, by go_num, by omega, (show _ = _ by rw [HJ.out]; omega), hst2, hbl2, fun h i hi => ?_⟩
              by_cases e : i = k
              · subst e; exact hp0
              · exact HNZ.out h i (by omega)
        · have hl48' : (((l : Nat) : Int) == 48) = false := by rw [beq_eq_false_iff_ne]; omega
          clear hz hl48
          by_cases hp0 : P k = 0
          · cases hne : f.ne
            · rw [hne] at hc5
              rw [hp0] at HR HW
              have HR' := hide (show ∀ w, Calls Try.prog 35 _ w (fun e w' => e = .returned (.tuple #[.int .u32 0, .int .i64 3]) ∧ w = w') from HR.out)
              have HW' := hide (show ∀ w', St w' B b E f (bytesTo P k) → Calls Try.prog 34 #[.pointer (some ⟨b, 0, none⟩), .int .u8 0] w' _ from HW.out)
              go_wp2_with fail
              refine (HR'.out _).mono ?_
              rintro e w' ⟨rfl, rfl⟩
              go_wp2_with fail
              refine (HW'.out _ HS.out).mono ?_
              rintro e w2 ⟨rfl, hst, hbl⟩
              have hst2 : Hid (St w2 B b E f (bytesTo P (k + 1))) := by rw [bytesTo_succ, hp0]; exact hst
              have hbl2 : Hid (Below B w w2) := HB.out.trans hbl
              clear hst hbl
              go_wp2
              go_roundg (n - (k + 1))
              case measure => omega
              case rel => exact ⟨k + 1, j + 4, by omega, by go_num, by omega, (show _ = _ by rw [HJ.out]; omega), hst2, hbl2, fun h => by rw [hne] at h; cases h⟩
            · rw [hne] at hc5
              rw [hp0] at HR
              have HR' := hide (show ∀ w, Calls Try.prog 35 _ w (fun e w' => e = .returned (.tuple #[.int .u32 0, .int .i64 3]) ∧ w = w') from HR.out)
              have hout : outOf f.ne P n = bytesTo P k := by
                unfold outOf
                rw [hne, if_pos rfl]
                exact cutN_bytesTo P n k hk HE.out.bd (HNZ.out hne) hp0
              have HO := hide hout
              clear hout
              go_wp2_with fail
              refine (HR'.out _).mono ?_
              rintro e w' ⟨rfl, rfl⟩
              go_wp2
              go_ret
              exact ⟨rfl, by rw [HO.out]; exact HS.out, HB.out⟩
          · have hp1 : (((P k : Nat) : Int) == 0) = false := by rw [beq_eq_false_iff_ne]; omega
            go_wp2_with fail
            refine (HR.out _).mono ?_
            rintro e w' ⟨rfl, rfl⟩
            go_wp2_with fail
            refine (HW.out _ HS.out).mono ?_
            rintro e w2 ⟨rfl, hst, hbl⟩
            have hst2 : Hid (St w2 B b E f (bytesTo P (k + 1))) := by rw [bytesTo_succ]; exact hst
            have hbl2 : Hid (Below B w w2) := HB.out.trans hbl
            clear hst hbl
            go_wp2
            go_roundg (n - (k + 1))
            case measure => omega
            case rel =>
              refine ⟨k + 1, j + 4, by omega, by go_num, by omega, (show _ = _ by rw [HJ.out]; omega), hst2, hbl2, fun h i hi => ?_⟩
              by_cases e : i = k
              · subst e; exact hp0
              · exact HNZ.out h i (by omega)
    · have hout : bytesTo P k = outOf f.ne P n := by
        obtain rfl : k = n := by omega
        unfold outOf
        cases hne : f.ne
        · rfl
        · rw [if_pos rfl]
          exact (cutN_bytesAll P k HE.out.bd (HNZ.out hne)).symm
      have hj : j = s.size := by have := HSZ.out; have := HJ.out; omega
      have HO := hide hout
      clear hout
      have hlt : ¬ j < s.size := by omega
      clear hj
      go_wp2
      go_ret
      exact ⟨rfl, by rw [← HO.out]; exact HS.out, HB.out⟩

end Go.Proofs.Qxb6601022a.Esc
