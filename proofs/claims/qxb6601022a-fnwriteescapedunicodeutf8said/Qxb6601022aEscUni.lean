/-
  writeEscaped over a text of unicode escapes.
-/
import Derived.Test.Qxb6601022aEscOct
set_option linter.unusedVariables false
set_option linter.unusedSimpArgs false
namespace Go.Proofs.Qxb6601022a.Esc
open Go.RowKit

/-- Where the escape of point k begins. -/
def upos (sh : Nat → Bool) : Nat → Nat
  | 0 => 0
  | k + 1 => upos sh k + (if sh k then 6 else 10)
theorem upos_le (sh : Nat → Bool) (k n : Nat) (h : k < n) : upos sh k + (if sh k then 6 else 10) ≤ upos sh n := by
  induction n with
  | zero => omega
  | succ n ih =>
    simp only [upos]
    by_cases e : k = n
    · subst e; exact Nat.le_refl _
    · have := ih (by omega); omega
theorem upos_ten (sh : Nat → Bool) (k : Nat) : upos sh k ≤ 10 * k := by
  induction k with
  | zero => exact Nat.le_refl _
  | succ k ih => simp only [upos]; split <;> omega
/-- s is P 0, .., P (n-1), each as a backslash, u and four hex digits, or U and eight. -/
structure UniEnc (s : ByteArray) (n : Nat) (P : Nat → Nat) (sh : Nat → Bool) : Prop where
  size : s.size = upos sh n
  bd : ∀ k, k < n → P k < 4294967296
  bs : ∀ k, k < n → sh k = true → P k < 65536
  b0 : ∀ k, k < n → by_ s (upos sh k) = 92
  b1 : ∀ k, k < n → by_ s (upos sh k + 1) = if sh k then 117 else 85
  d4 : ∀ k, k < n → sh k = true → ∀ i, i < 4 → by_ s (upos sh k + 2 + i) = hexc (P k / 16 ^ (3 - i) % 16) false
  d8 : ∀ k, k < n → sh k = false → ∀ i, i < 8 → by_ s (upos sh k + 2 + i) = hexc (P k / 16 ^ (7 - i) % 16) false

theorem digVal (t : ByteArray) (w x : Nat) (hx : x < 16 ^ w) (h32 : x < 4294967296) (h : ∀ i, i < w → by_ t i = hexc (x / 16 ^ (w - 1 - i) % 16) false) :
    ∀ i, i ≤ w → val 16 (by_ t) i = x / 16 ^ (w - i) := by
  intro i
  induction i with
  | zero => intro _; rw [Nat.sub_zero, Nat.div_eq_of_lt hx]; rfl
  | succ i ih =>
    intro hi
    have e := ih (by omega)
    have d : dv (by_ t i) = ((x / 16 ^ (w - 1 - i) % 16 : Nat) : Int) := by rw [h i (by omega)]; exact dv_hexc _ _ (Nat.mod_lt _ (by decide))
    obtain ⟨m, hm⟩ : ∃ m, m = w - 1 - i := ⟨_, rfl⟩
    rw [show w - i = m + 1 from by omega, Nat.pow_succ, ← Nat.div_div_eq_div_mul] at e
    rw [← hm] at d
    rw [show w - (i + 1) = m from by omega]
    have hy : x / 16 ^ m ≤ x := Nat.div_le_self _ _
    generalize x / 16 ^ m = y at e d hy
    simp only [val, e, d, Int.toNat_natCast]
    omega

theorem uniRead (s : ByteArray) (n : Nat) (P : Nat → Nat) (sh : Nat → Bool) (h : UniEnc s n P sh) (k j : Nat) (hk : k < n) (hj : j = upos sh k) (hs : s.size ≤ 655360) (w : World) (m : Nat) (hm : m = if sh k then 4 else 8) :
    Calls Try.prog 35 #[.string (s.extract (j + 1 + 1) s.size), .int .i64 16, .int .i64 (m : Int)] w fun e w' => e = .returned (.tuple #[.int .u32 ((P k : Nat) : Int), .int .i64 (m : Int)]) ∧ w = w' := by
  subst hj
  have hsz := h.size
  have hb := h.bd k hk
  have hle := upos_le sh k n hk
  have hm8 : m ≤ 8 := by rw [hm]; split <;> omega
  have hml : upos sh k + 2 + m ≤ s.size := by rw [hsz]; refine Nat.le_trans ?_ hle; rw [hm]; split <;> omega
  have hg : ∀ i, i < m → by_ (s.extract (upos sh k + 1 + 1) s.size) i = hexc (P k / 16 ^ (m - 1 - i) % 16) false := by
    intro i hi
    rw [by_extract _ _ _ (by omega)]
    cases hsh : sh k
    · rw [hsh, if_neg (by simp)] at hm; subst hm; exact h.d8 k hk hsh i hi
    · rw [hsh, if_pos rfl] at hm; subst hm; exact h.d4 k hk hsh i hi
  have hlt : P k < 16 ^ m := by
    cases hsh : sh k
    · rw [hsh, if_neg (by simp)] at hm; subst hm; exact hb
    · rw [hsh, if_pos rfl] at hm; subst hm; exact h.bs k hk hsh
  refine (digits_any (s.extract (upos sh k + 1 + 1) s.size) 16 m w (by rw [size_extract _ _ (by omega)]; omega) (by decide) hm8).mono ?_
  rintro e w' ⟨⟨m', hst, rfl⟩, rfl⟩
  have hmm : m' = m := hst.eq (Nat.le_refl _) (by rw [size_extract _ _ (by omega)]; omega) (fun i hi => by
    have hd : dv (by_ (s.extract (upos sh k + 1 + 1) s.size) i) = ((P k / 16 ^ (m - 1 - i) % 16 : Nat) : Int) := by rw [hg i hi]; exact dv_hexc _ _ (Nat.mod_lt _ (by decide))
    rw [hd]
    have := Nat.mod_lt (P k / 16 ^ (m - 1 - i)) (show 0 < 16 by decide)
    omega) (.inl rfl)
  subst hmm
  have hv : val 16 (by_ (s.extract (upos sh k + 1 + 1) s.size)) m' = P k := by
    rw [digVal _ m' (P k) hlt hb hg m' (Nat.le_refl _), Nat.sub_self, Nat.pow_zero, Nat.div_one]
  exact ⟨by rw [hv], rfl⟩

/-- What the law wants of the first k points, and whether a NUL has cut it. -/
def wantL (ne : Bool) (P : Nat → Nat) : Nat → List UInt8 × Bool
  | 0 => ([], false)
  | k + 1 => if ((wantL ne P k).2 || (ne && decide (P k = 0))) = true then ((wantL ne P k).1, true) else ((wantL ne P k).1 ++ Lib.encodeRune (P k), false)
theorem wantL_go (ne : Bool) (P : Nat → Nat) (k : Nat) (h : (wantL ne P k).2 = false) (h0 : ¬ (ne = true ∧ P k = 0)) : wantL ne P (k + 1) = ((wantL ne P k).1 ++ Lib.encodeRune (P k), false) := by
  simp only [wantL, h, Bool.false_or]
  rw [if_neg]
  simpa using h0
theorem wantL_cut (ne : Bool) (P : Nat → Nat) (k : Nat) (hne : ne = true) (h0 : P k = 0) (n : Nat) (hk : k < n) : wantL ne P n = ((wantL ne P k).1, true) := by
  induction n with
  | zero => omega
  | succ n ih =>
    by_cases e : k = n
    · subst e; simp [wantL, hne, h0]
    · have := ih (by omega)
      simp only [wantL, this, Bool.true_or, if_true]
theorem wantL_len (ne : Bool) (P : Nat → Nat) (k : Nat) : (wantL ne P k).1.length ≤ 4 * k := by
  induction k with
  | zero => exact Nat.le_refl _
  | succ k ih =>
    have := (Lib.encodeRuneZ_length (P k)).2
    simp only [wantL]
    split
    · show (wantL ne P k).1.length ≤ _; omega
    · show ((wantL ne P k).1 ++ Lib.encodeRune (P k)).length ≤ _
      simp only [List.length_append, Lib.encodeRune, List.length_map]; omega

theorem rune_wrap (p : Nat) (hp : p < 4294967296) : Lib.encodeRune (wrap32 (p : Int)) = Lib.encodeRune (p : Int) ∧ -2147483648 ≤ wrap32 (p : Int) ∧ wrap32 (p : Int) ≤ 2147483647 := by
  by_cases h : p < 2147483648
  · have e : wrap32 (p : Int) = p := by unfold wrap32; omega
    rw [e]; exact ⟨rfl, by omega, by omega⟩
  · have e : wrap32 (p : Int) = p - 4294967296 := by unfold wrap32; omega
    rw [e]
    refine ⟨?_, by omega, by omega⟩
    unfold Lib.encodeRune
    rw [Lib.encodeRuneZ_bad (.inl (by omega)), Lib.encodeRuneZ_bad (.inr (.inr (by omega)))]

set_option maxRecDepth 100000 in
set_option maxHeartbeats 4000000 in
theorem weUni (B b E n : Nat) (f : Fl) (s : ByteArray) (P : Nat → Nat) (sh : Nat → Bool) (w : World) (h : St w B b E f []) (he : UniEnc s n P sh) (hn : n ≤ 65536) (hu : f.has 117 = false) (hU : f.has 85 = false) :
    Calls Try.prog 31 #[.pointer (some ⟨b, 0, none⟩), .string s, .pointer (some ⟨E, 0, none⟩)] w fun e w' => e = .returned (.bool false) ∧ St w' B b E f (wantL f.ne P n).1 ∧ Below B w w' := by
  have hszb : s.size ≤ 655360 := by rw [he.size]; have := upos_ten sh n; omega
  have HE := hide he
  have HH := hide h
  have HU := hide hu
  have HU2 := hide hU
  clear he h hu hU
  go_enter Try.func31, Try.ntmps31
  go_wp2
  go_loopg [7] n (fun g i wr => ∃ k j : Nat, k + g = n ∧ i = .int .i64 (j : Int) ∧ j ≤ s.size ∧ Hid (j = upos sh k) ∧ Hid (St wr B b E f (wantL f.ne P k).1) ∧ Hid (Below B w wr) ∧ Hid ((wantL f.ne P k).2 = false))
  case atStart => exact ⟨0, 0, by omega, rfl, by omega, rfl, HH.out, Below.refl _ _, rfl⟩
  case round =>
    obtain ⟨k, j, hkg, rfl, hjs, HJ, HS, HB, HC⟩ := hrel
    by_cases hk : k < n
    · have hP := HE.out.bd k hk
      have hle := upos_le sh k n hk
      rw [← HE.out.size, ← HJ.out] at hle
      have hc0 : wr.cell? ⟨E, 0, none⟩ = some (.map f.r) := HS.out.cell 0
      have hc5 : wr.cell? ⟨E, 5, none⟩ = some (.bool f.ne) := HS.out.cell 5
      have HLen := hide (show (wantL f.ne P k).1.length ≤ 1000000 by have := wantL_len f.ne P k; omega)
      have HR := hide (fun w m hm => uniRead s n P sh HE.out k j hk HJ.out hszb w m hm)
      cases hsh : sh k
      · rw [hsh, if_neg (by simp)] at hle
        rw [hsh] at HR
        have HR2 := hide (show ∀ w, Calls Try.prog 35 #[.string (s.extract (j + 1 + 1) s.size), .int .i64 16, .int .i64 8] w fun e w' => e = .returned (.tuple #[.int .u32 ((P k : Nat) : Int), .int .i64 8]) ∧ w = w' from fun w => HR.out w 8 rfl)
        have hj0 : j < s.size := by omega
        have hj1 : j + 1 < s.size := by omega
        have hb0 : ((s[j]'hj0).toNat : Int) = 92 := by rw [by_at s _ hj0, HJ.out, HE.out.b0 k hk]; rfl
        have hb1 : ((s[j + 1]'hj1).toNat : Int) = 85 := by rw [by_at s _ hj1, HJ.out, HE.out.b1 k hk, hsh]; rfl
        have hnx : upos sh (k + 1) = j + 10 := by show upos sh k + (if sh k then 6 else 10) = _; rw [hsh, HJ.out]; rfl
        have HNX := hide hnx
        have hlk : (Instr.lookup 40 (.map f.r) (.int .u8 85) true).run Try.prog wr = .ok (.tuple #[.int .u8 ((f.d 85 : Nat) : Int), .bool false]) wr := by
          have := HS.out.lk.run 85 (by omega)
          rw [HU2.out] at this
          exact this
        clear hnx HR
        by_cases hp0 : P k = 0
        · cases hne : f.ne
          · have HG := hide (wantL_go f.ne P k HC.out (fun h => by rw [hne] at h; cases h.1))
            rw [hne] at hc5
            rw [hp0] at HR2 HG
            have HR' := hide (show ∀ w, Calls Try.prog 35 _ w (fun e w' => e = .returned (.tuple #[.int .u32 0, .int .i64 8]) ∧ w = w') from HR2.out)
            have HW := hide (fun w' (h' : St w' B b E f (wantL f.ne P k).1) => writeRune_any 0 w' h' (by decide) (by decide) HLen.out)
            go_wp2_with fail
            refine (HR'.out _).mono ?_
            rintro e w' ⟨rfl, rfl⟩
            go_wp2_with fail
            refine (HW.out _ HS.out).mono ?_
            rintro e w2 ⟨rfl, hst, hbl⟩
            have hst2 : Hid (St w2 B b E f (wantL f.ne P (k + 1)).1) := by rw [HG.out]; exact hst
            have hcc2 : Hid ((wantL f.ne P (k + 1)).2 = false) := by rw [HG.out]; rfl
            have hbl2 : Hid (Below B w w2) := HB.out.trans hbl
            clear hst hbl
            go_wp2
            go_roundg (n - (k + 1))
            case measure => omega
            case rel => exact ⟨k + 1, j + 10, by omega, by go_num, by omega, (show _ = _ by rw [HNX.out]), hst2, hbl2, hcc2⟩
          · have hfin : (wantL f.ne P n).1 = (wantL f.ne P k).1 := by rw [wantL_cut f.ne P k hne hp0 n hk]
            have HFin := hide hfin
            clear hfin
            rw [hne] at hc5
            rw [hp0] at HR2
            have HR' := hide (show ∀ w, Calls Try.prog 35 _ w (fun e w' => e = .returned (.tuple #[.int .u32 0, .int .i64 8]) ∧ w = w') from HR2.out)
            go_wp2_with fail
            refine (HR'.out _).mono ?_
            rintro e w' ⟨rfl, rfl⟩
            go_wp2
            go_ret
            exact ⟨rfl, by rw [HFin.out]; exact HS.out, HB.out⟩
        · have hp1 : (((P k : Nat) : Int) == 0) = false := by rw [beq_eq_false_iff_ne]; omega
          have HG := hide (wantL_go f.ne P k HC.out (fun h => hp0 h.2))
          obtain ⟨hr1, hr2, hr3⟩ := rune_wrap (P k) hP
          have HW := hide (fun w' (h' : St w' B b E f (wantL f.ne P k).1) => writeRune_any (wrap32 ((P k : Nat) : Int)) w' h' hr2 hr3 HLen.out)
          have HRW := hide hr1
          clear hr1 hr2 hr3 hp0
          go_wp2_with fail
          refine (HR2.out _).mono ?_
          rintro e w' ⟨rfl, rfl⟩
          go_wp2_with fail
          refine (HW.out _ HS.out).mono ?_
          rintro e w2 ⟨rfl, hst, hbl⟩
          have hst2 : Hid (St w2 B b E f (wantL f.ne P (k + 1)).1) := by rw [HG.out, ← HRW.out]; exact hst
          have hcc2 : Hid ((wantL f.ne P (k + 1)).2 = false) := by rw [HG.out]; rfl
          have hbl2 : Hid (Below B w w2) := HB.out.trans hbl
          clear hst hbl
          go_wp2
          go_roundg (n - (k + 1))
          case measure => omega
          case rel => exact ⟨k + 1, j + 10, by omega, by go_num, by omega, (show _ = _ by rw [HNX.out]), hst2, hbl2, hcc2⟩
      · rw [hsh, if_pos rfl] at hle
        rw [hsh] at HR
        have HR2 := hide (show ∀ w, Calls Try.prog 35 #[.string (s.extract (j + 1 + 1) s.size), .int .i64 16, .int .i64 4] w fun e w' => e = .returned (.tuple #[.int .u32 ((P k : Nat) : Int), .int .i64 4]) ∧ w = w' from fun w => HR.out w 4 rfl)
        have hj0 : j < s.size := by omega
        have hj1 : j + 1 < s.size := by omega
        have hb0 : ((s[j]'hj0).toNat : Int) = 92 := by rw [by_at s _ hj0, HJ.out, HE.out.b0 k hk]; rfl
        have hb1 : ((s[j + 1]'hj1).toNat : Int) = 117 := by rw [by_at s _ hj1, HJ.out, HE.out.b1 k hk, hsh]; rfl
        have hnx : upos sh (k + 1) = j + 6 := by show upos sh k + (if sh k then 6 else 10) = _; rw [hsh, HJ.out]; rfl
        have HNX := hide hnx
        have hlk : (Instr.lookup 40 (.map f.r) (.int .u8 117) true).run Try.prog wr = .ok (.tuple #[.int .u8 ((f.d 117 : Nat) : Int), .bool false]) wr := by
          have := HS.out.lk.run 117 (by omega)
          rw [HU.out] at this
          exact this
        clear hnx HR
        by_cases hp0 : P k = 0
        · cases hne : f.ne
          · have HG := hide (wantL_go f.ne P k HC.out (fun h => by rw [hne] at h; cases h.1))
            rw [hne] at hc5
            rw [hp0] at HR2 HG
            have HR' := hide (show ∀ w, Calls Try.prog 35 _ w (fun e w' => e = .returned (.tuple #[.int .u32 0, .int .i64 4]) ∧ w = w') from HR2.out)
            have HW := hide (fun w' (h' : St w' B b E f (wantL f.ne P k).1) => writeRune_any 0 w' h' (by decide) (by decide) HLen.out)
            go_wp2_with fail
            refine (HR'.out _).mono ?_
            rintro e w' ⟨rfl, rfl⟩
            go_wp2_with fail
            refine (HW.out _ HS.out).mono ?_
            rintro e w2 ⟨rfl, hst, hbl⟩
            have hst2 : Hid (St w2 B b E f (wantL f.ne P (k + 1)).1) := by rw [HG.out]; exact hst
            have hcc2 : Hid ((wantL f.ne P (k + 1)).2 = false) := by rw [HG.out]; rfl
            have hbl2 : Hid (Below B w w2) := HB.out.trans hbl
            clear hst hbl
            go_wp2
            go_roundg (n - (k + 1))
            case measure => omega
            case rel => exact ⟨k + 1, j + 6, by omega, by go_num, by omega, (show _ = _ by rw [HNX.out]), hst2, hbl2, hcc2⟩
          · have hfin : (wantL f.ne P n).1 = (wantL f.ne P k).1 := by rw [wantL_cut f.ne P k hne hp0 n hk]
            have HFin := hide hfin
            clear hfin
            rw [hne] at hc5
            rw [hp0] at HR2
            have HR' := hide (show ∀ w, Calls Try.prog 35 _ w (fun e w' => e = .returned (.tuple #[.int .u32 0, .int .i64 4]) ∧ w = w') from HR2.out)
            go_wp2_with fail
            refine (HR'.out _).mono ?_
            rintro e w' ⟨rfl, rfl⟩
            go_wp2
            go_ret
            exact ⟨rfl, by rw [HFin.out]; exact HS.out, HB.out⟩
        · have hp1 : (((P k : Nat) : Int) == 0) = false := by rw [beq_eq_false_iff_ne]; omega
          have HG := hide (wantL_go f.ne P k HC.out (fun h => hp0 h.2))
          obtain ⟨hr1, hr2, hr3⟩ := rune_wrap (P k) hP
          have HW := hide (fun w' (h' : St w' B b E f (wantL f.ne P k).1) => writeRune_any (wrap32 ((P k : Nat) : Int)) w' h' hr2 hr3 HLen.out)
          have HRW := hide hr1
          clear hr1 hr2 hr3 hp0
          go_wp2_with fail
          refine (HR2.out _).mono ?_
          rintro e w' ⟨rfl, rfl⟩
          go_wp2_with fail
          refine (HW.out _ HS.out).mono ?_
          rintro e w2 ⟨rfl, hst, hbl⟩
          have hst2 : Hid (St w2 B b E f (wantL f.ne P (k + 1)).1) := by rw [HG.out, ← HRW.out]; exact hst
          have hcc2 : Hid ((wantL f.ne P (k + 1)).2 = false) := by rw [HG.out]; rfl
          have hbl2 : Hid (Below B w w2) := HB.out.trans hbl
          clear hst hbl
          go_wp2
          go_roundg (n - (k + 1))
          case measure => omega
          case rel => exact ⟨k + 1, j + 6, by omega, by go_num, by omega, (show _ = _ by rw [HNX.out]), hst2, hbl2, hcc2⟩
    · obtain rfl : k = n := by omega
      have hj : j = s.size := by rw [HE.out.size]; exact HJ.out
      have hlt : ¬ j < s.size := by omega
      clear hj
      go_wp2
      go_ret
      exact ⟨rfl, HS.out, HB.out⟩

end Go.Proofs.Qxb6601022a.Esc
