/-
  writeEscaped over a text without a backslash, and over one with a single backslash-c in it.
-/
import Derived.Test.Qxb6601022aEscOct
set_option linter.unusedVariables false
set_option linter.unusedSimpArgs false
namespace Go.Proofs.Qxb6601022a.Esc
open Go.RowKit

theorem len_data (s : ByteArray) : s.data.toList.length = s.size := by simp
theorem at_data (s : ByteArray) (j : Nat) (h : j < s.size) : s.data.toList[j]? = some (by_ s j).toUInt8 := by
  have hd : j < s.data.size := h
  simp only [by_, List.getD, Array.getElem?_toList, Array.getElem?_eq_getElem hd, Option.getD_some, Nat.toUInt8]
  simp
theorem take_data (s : ByteArray) (j : Nat) (h : j < s.size) : s.data.toList.take (j + 1) = s.data.toList.take j ++ [(by_ s j).toUInt8] := by
  rw [List.take_add_one, at_data s j h]; rfl
theorem drop_take_data (s : ByteArray) (a j : Nat) (ha : a ≤ j) (h : j < s.size) : (s.data.toList.take (j + 1)).drop a = (s.data.toList.take j).drop a ++ [(by_ s j).toUInt8] := by
  rw [take_data s j h, List.drop_append_of_le_length (by rw [List.length_take, len_data]; omega)]

set_option maxRecDepth 100000 in
set_option maxHeartbeats 2000000 in
theorem wePlain (B b E : Nat) (f : Fl) (s : ByteArray) (w : World) (h : St w B b E f []) (hs : s.size ≤ 262144) (hno : ∀ j, j < s.size → by_ s j ≠ 92) :
    Calls Try.prog 31 #[.pointer (some ⟨b, 0, none⟩), .string s, .pointer (some ⟨E, 0, none⟩)] w fun e w' => e = .returned (.bool false) ∧ St w' B b E f s.data.toList ∧ Below B w w' := by
  have HH := hide h
  have HNO := hide hno
  clear h hno
  go_enter Try.func31, Try.ntmps31
  go_wp2
  go_loopg [7] s.size (fun g i wr => ∃ j : Nat, j + g = s.size ∧ i = .int .i64 (j : Int) ∧ j ≤ s.size ∧ Hid (St wr B b E f (s.data.toList.take j)) ∧ Hid (Below B w wr))
  case atStart => exact ⟨0, by omega, rfl, by omega, HH.out, Below.refl _ _⟩
  case round =>
    obtain ⟨j, hkg, rfl, hjs, HS, HB⟩ := hrel
    by_cases hj0 : j < s.size
    · have hn := HNO.out j hj0
      have hb0 := by_at s j hj0
      have hlt := by_lt s j
      have HT := hide (take_data s j hj0)
      generalize by_ s j = c at hn hb0 hlt HT
      have hc : (((c : Nat) : Int) == 92) = false := by rw [beq_eq_false_iff_ne]; omega
      have hlen : (s.data.toList.take j).length ≤ 1000000 := by rw [List.length_take, len_data]; omega
      have HL := hide hlen
      clear hn hlen
      go_wp2_with fail
      refine (writeByte_any c wr HS.out hlt HL.out).mono ?_
      rintro e w2 ⟨rfl, hst, hbl⟩
      have hst2 : Hid (St w2 B b E f (s.data.toList.take (j + 1))) := by rw [HT.out]; exact hst
      have hbl2 : Hid (Below B w w2) := HB.out.trans hbl
      clear hst hbl HT
      go_wp2
      go_roundg (s.size - (j + 1))
      case measure => omega
      case rel => exact ⟨j + 1, by omega, by go_num, by omega, hst2, hbl2⟩
    · obtain rfl : j = s.size := by omega
      have HS2 : Hid (St wr B b E f s.data.toList) := by
        have := HS.out
        rw [List.take_of_length_le (by rw [len_data]; exact Nat.le_refl _)] at this
        exact this
      clear HS
      go_wp2
      go_ret
      exact ⟨rfl, HS2.out, HB.out⟩

/-- What comes of s, whose byte np is a backslash and the next a c. -/
def cOut (f : Fl) (s : ByteArray) (np : Nat) : List UInt8 × Bool :=
  if f.has 99 then (s.data.toList.take np ++ [(f.d 99).toUInt8] ++ s.data.toList.drop (np + 2), false)
  else if f.sc then (s.data.toList.take np, true)
  else if f.cc = true ∧ np + 2 < s.size then
    (if by_ s (np + 2) % 32 = 0 ∧ f.ne = true then (s.data.toList.take np, false) else (s.data.toList.take np ++ [(by_ s (np + 2) % 32).toUInt8] ++ s.data.toList.drop (np + 3), false))
  else (s.data.toList.take np ++ [92, 99] ++ s.data.toList.drop (np + 2), false)

/-- Where the round stands, and what is written. -/
def CSt (w : World) (B b E : Nat) (f : Fl) (s : ByteArray) (np j : Nat) : Prop :=
  (j ≤ np ∧ St w B b E f (s.data.toList.take j)) ∨ (∃ (M : List UInt8) (j0 : Nat), np < j0 ∧ np + 2 ≤ j ∧ j0 ≤ j ∧ M.length ≤ 300000 ∧ St w B b E f (M ++ (s.data.toList.take j).drop j0) ∧ cOut f s np = (M ++ s.data.toList.drop j0, false))
/-- Behind the escape. -/
theorem CSt.behind {w : World} {B b E : Nat} {f : Fl} {s : ByteArray} {np : Nat} (M : List UInt8) (j : Nat) (hj : np + 2 ≤ j) (hM : M.length ≤ 300000) (h : St w B b E f M) (hc : cOut f s np = (M ++ s.data.toList.drop j, false)) : CSt w B b E f s np j := by
  refine .inr ⟨M, j, by omega, hj, Nat.le_refl _, hM, ?_, hc⟩
  rw [List.drop_of_length_le (by rw [List.length_take]; omega), List.append_nil]; exact h

set_option maxRecDepth 100000 in
set_option maxHeartbeats 4000000 in
theorem weC (B b E np : Nat) (f : Fl) (s : ByteArray) (w : World) (h : St w B b E f []) (hs : s.size ≤ 262144) (hnp : np + 2 ≤ s.size) (hno : ∀ j, j < s.size → j ≠ np → by_ s j ≠ 92) (h92 : by_ s np = 92) (h99 : by_ s (np + 1) = 99) :
    Calls Try.prog 31 #[.pointer (some ⟨b, 0, none⟩), .string s, .pointer (some ⟨E, 0, none⟩)] w fun e w' => e = .returned (.bool (cOut f s np).2) ∧ St w' B b E f (cOut f s np).1 ∧ Below B w w' := by
  have HH := hide h
  have HNO := hide hno
  have H92 := hide h92
  have H99 := hide h99
  have HNP := hide hnp
  clear h hno h92 h99 hnp
  go_enter Try.func31, Try.ntmps31
  go_wp2
  go_loopg [7] s.size (fun g i wr => ∃ j : Nat, j + g = s.size ∧ i = .int .i64 (j : Int) ∧ j ≤ s.size ∧ Hid (CSt wr B b E f s np j) ∧ Hid (Below B w wr))
  case atStart => exact ⟨0, by omega, rfl, by omega, .inl ⟨Nat.zero_le _, HH.out⟩, Below.refl _ _⟩
  case round =>
    obtain ⟨j, hkg, rfl, hjs, HS, HB⟩ := hrel
    clear HH
    by_cases hj0 : j < s.size
    · by_cases hnj : j = np
      · -- the escape
        have hS : St wr B b E f (s.data.toList.take np) := by
          rcases HS.out with ⟨_, h⟩ | ⟨M, j0, _, h2, _⟩
          · rw [← hnj]; exact h
          · omega
        have HSt := hide hS
        have hj1 : j + 1 < s.size := by have := HNP.out; omega
        have hb0 : ((s[j]'hj0).toNat : Int) = 92 := by rw [by_at s _ hj0, hnj, H92.out]; rfl
        have hb1 : ((s[j + 1]'hj1).toNat : Int) = 99 := by rw [by_at s _ hj1, hnj, H99.out]; rfl
        have hc0 : wr.cell? ⟨E, 0, none⟩ = some (.map f.r) := hS.cell 0
        have hc3 : wr.cell? ⟨E, 3, none⟩ = some (.bool f.cc) := hS.cell 3
        have hc4 : wr.cell? ⟨E, 4, none⟩ = some (.bool f.sc) := hS.cell 4
        have hc5 : wr.cell? ⟨E, 5, none⟩ = some (.bool f.ne) := hS.cell 5
        have hlk : (Instr.lookup 40 (.map f.r) (.int .u8 99) true).run Try.prog wr = .ok (.tuple #[.int .u8 ((f.d 99 : Nat) : Int), .bool (f.has 99)]) wr := hS.lk.run 99 (by omega)
        have HD := hide (hS.lk.1 99)
        have hlen : (s.data.toList.take np).length ≤ 262144 := by rw [List.length_take, len_data]; omega
        have HLen := hide hlen
        have HNJ := hide hnj
        clear hS hlen hnj HS
        cases hh : f.has 99
        · rw [hh] at hlk
          cases hsc : f.sc
          · rw [hsc] at hc4
            by_cases hcc : f.cc = true ∧ j + 2 < s.size
            · obtain ⟨hcc1, hj2⟩ := hcc
              rw [hcc1] at hc3
              have hj2' : j + 1 + 1 < s.size := hj2
              obtain ⟨c, hcd⟩ : ∃ c, c = by_ s (np + 2) := ⟨_, rfl⟩
              have hb2 : ((s[j + 1 + 1]'hj2').toNat : Int) = (c : Int) := by rw [by_at s _ hj2', HNJ.out, hcd]
              have hcl : c < 256 := by rw [hcd]; exact by_lt _ _
              have HCD := hide hcd
              have hout : cOut f s np = if c % 32 = 0 ∧ f.ne = true then (s.data.toList.take np, false) else (s.data.toList.take np ++ [(c % 32).toUInt8] ++ s.data.toList.drop (np + 3), false) := by
                unfold cOut
                rw [hh, hsc, if_neg (by simp), if_neg (by simp), if_pos ⟨hcc1, by rw [← HNJ.out]; exact hj2⟩, hcd]
              have HO := hide hout
              clear hcd hout
              have hmod : (c : Int) % 32 = ((c % 32 : Nat) : Int) := by omega
              obtain ⟨k, hk⟩ : ∃ k, k = c % 32 := ⟨_, rfl⟩
              have hk32 : k < 32 := by omega
              rw [← hk] at hmod HO
              have HK := hide hk
              clear hk
              by_cases hk0 : k = 0
              · subst hk0
                have hmod0 : (c : Int) % 32 = 0 := hmod
                clear hmod
                cases hne : f.ne
                · rw [hne] at hc5
                  have HW := hide (show ∀ w', St w' B b E f (s.data.toList.take np) → Calls Try.prog 34 #[.pointer (some ⟨b, 0, none⟩), .int .u8 0] w' _ from fun w' h' => writeByte_any 0 w' h' (by omega) (by have := HLen.out; omega))
                  go_wp2_with fail
                  refine (HW.out _ HSt.out).mono ?_
                  rintro e w2 ⟨rfl, hst, hbl⟩
                  have hst2 : Hid (CSt w2 B b E f s np (j + 3)) := by
                    refine CSt.behind (s.data.toList.take np ++ [(0 : Nat).toUInt8]) (j + 3) (by rw [HNJ.out]; omega) (by have := HLen.out; simp only [List.length_append, List.length_cons, List.length_nil]; omega) hst ?_
                    rw [HO.out, if_neg (by rw [hne]; simp), HNJ.out]
                  have hbl2 : Hid (Below B w w2) := HB.out.trans hbl
                  clear hst hbl
                  go_wp2
                  go_roundg (s.size - (j + 3))
                  case measure => omega
                  case rel => exact ⟨j + 3, by omega, by go_num, by omega, hst2, hbl2⟩
                · rw [hne] at hc5
                  have hfin : cOut f s np = (s.data.toList.take np, false) := by rw [HO.out, if_pos ⟨rfl, hne⟩]
                  have HF := hide hfin
                  clear hfin
                  go_wp2
                  go_ret
                  exact ⟨by rw [HF.out]; rfl, by rw [HF.out]; exact HSt.out, HB.out⟩
              · have hk0' : (((k : Nat) : Int) == 0) = false := by rw [beq_eq_false_iff_ne]; omega
                have HW := hide (fun w' (h' : St w' B b E f (s.data.toList.take np)) => writeByte_any k w' h' (by omega) (by have := HLen.out; omega))
                have HO2 := hide (show cOut f s np = _ by rw [HO.out, if_neg (fun h => hk0 h.1)])
                clear hk0 HO HK
                go_wp2_with fail
                refine (HW.out _ HSt.out).mono ?_
                rintro e w2 ⟨rfl, hst, hbl⟩
                have hst2 : Hid (CSt w2 B b E f s np (j + 3)) := by
                  refine CSt.behind (s.data.toList.take np ++ [k.toUInt8]) (j + 3) (by rw [HNJ.out]; omega) (by have := HLen.out; simp only [List.length_append, List.length_cons, List.length_nil]; omega) hst ?_
                  rw [HO2.out, HNJ.out]
                have hbl2 : Hid (Below B w w2) := HB.out.trans hbl
                clear hst hbl
                go_wp2
                go_roundg (s.size - (j + 3))
                case measure => omega
                case rel => exact ⟨j + 3, by omega, by go_num, by omega, hst2, hbl2⟩
            · have hout : cOut f s np = (s.data.toList.take np ++ [92, 99] ++ s.data.toList.drop (np + 2), false) := by
                unfold cOut
                rw [hh, hsc, if_neg (by simp), if_neg (by simp), if_neg (by rw [← HNJ.out]; exact hcc)]
              have HO := hide hout
              clear hout
              have HW1 := hide (show ∀ w', St w' B b E f (s.data.toList.take np) → Calls Try.prog 34 #[.pointer (some ⟨b, 0, none⟩), .int .u8 92] w' _ from fun w' h' => writeByte_any 92 w' h' (by omega) (by have := HLen.out; omega))
              have HW2 := hide (show ∀ w', St w' B b E f (s.data.toList.take np ++ [92]) → Calls Try.prog 34 #[.pointer (some ⟨b, 0, none⟩), .int .u8 99] w' _ from fun w' h' => writeByte_any 99 w' h' (by omega) (by have := HLen.out; simp only [List.length_append, List.length_cons, List.length_nil]; omega))
              have hccs : f.cc = false ∨ (f.cc = true ∧ ¬ j + 2 < s.size) := by
                cases hc : f.cc
                · exact .inl rfl
                · exact .inr ⟨rfl, fun h => hcc ⟨hc, h⟩⟩
              clear hcc
              rcases hccs with hcc1 | ⟨hcc1, hj2⟩
              · rw [hcc1] at hc3
                go_wp2_with fail
                refine (HW1.out _ HSt.out).mono ?_
                rintro e w2 ⟨rfl, hst, hbl⟩
                have HS2 := hide hst
                have HB2 := hide hbl
                clear hst hbl
                go_wp2_with fail
                refine (HW2.out _ HS2.out).mono ?_
                rintro e w3 ⟨rfl, hst, hbl⟩
                have hst2 : Hid (CSt w3 B b E f s np (j + 2)) := by
                  refine CSt.behind (s.data.toList.take np ++ [92, 99]) (j + 2) (by rw [HNJ.out]; omega) (by have := HLen.out; simp only [List.length_append, List.length_cons, List.length_nil]; omega) (by simpa using hst) ?_
                  rw [HO.out, HNJ.out]
                have hbl2 : Hid (Below B w w3) := (HB.out.trans HB2.out).trans hbl
                clear hst hbl
                go_wp2
                go_roundg (s.size - (j + 2))
                case measure => omega
                case rel => exact ⟨j + 2, by omega, by go_num, by omega, hst2, hbl2⟩
              · rw [hcc1] at hc3
                have hj2' : ¬ j + 1 + 1 < s.size := hj2
                go_wp2_with fail
                refine (HW1.out _ HSt.out).mono ?_
                rintro e w2 ⟨rfl, hst, hbl⟩
                have HS2 := hide hst
                have HB2 := hide hbl
                clear hst hbl
                go_wp2_with fail
                refine (HW2.out _ HS2.out).mono ?_
                rintro e w3 ⟨rfl, hst, hbl⟩
                have hst2 : Hid (CSt w3 B b E f s np (j + 2)) := by
                  refine CSt.behind (s.data.toList.take np ++ [92, 99]) (j + 2) (by rw [HNJ.out]; omega) (by have := HLen.out; simp only [List.length_append, List.length_cons, List.length_nil]; omega) (by simpa using hst) ?_
                  rw [HO.out, HNJ.out]
                have hbl2 : Hid (Below B w w3) := (HB.out.trans HB2.out).trans hbl
                clear hst hbl
                go_wp2
                go_roundg (s.size - (j + 2))
                case measure => omega
                case rel => exact ⟨j + 2, by omega, by go_num, by omega, hst2, hbl2⟩
          · rw [hsc] at hc4
            have hfin : cOut f s np = (s.data.toList.take np, true) := by unfold cOut; rw [hh, hsc, if_neg (by simp), if_pos rfl]
            have HF := hide hfin
            clear hfin
            go_wp2
            go_ret
            exact ⟨by rw [HF.out]; rfl, by rw [HF.out]; exact HSt.out, HB.out⟩
        · rw [hh] at hlk
          have hout : cOut f s np = (s.data.toList.take np ++ [(f.d 99).toUInt8] ++ s.data.toList.drop (np + 2), false) := by unfold cOut; rw [hh, if_pos rfl]
          have HO := hide hout
          clear hout
          have HW := hide (fun w' (h' : St w' B b E f (s.data.toList.take np)) => writeByte_any (f.d 99) w' h' HD.out (by have := HLen.out; omega))
          go_wp2_with fail
          refine (HW.out _ HSt.out).mono ?_
          rintro e w2 ⟨rfl, hst, hbl⟩
          have hst2 : Hid (CSt w2 B b E f s np (j + 2)) := by
            refine CSt.behind (s.data.toList.take np ++ [(f.d 99).toUInt8]) (j + 2) (by rw [HNJ.out]; omega) (by have := HLen.out; simp only [List.length_append, List.length_cons, List.length_nil]; omega) hst ?_
            rw [HO.out, HNJ.out]
          have hbl2 : Hid (Below B w w2) := HB.out.trans hbl
          clear hst hbl
          go_wp2
          go_roundg (s.size - (j + 2))
          case measure => omega
          case rel => exact ⟨j + 2, by omega, by go_num, by omega, hst2, hbl2⟩
      · -- any other byte
        have hn := HNO.out j hj0 hnj
        have hb0 := by_at s j hj0
        have hlt := by_lt s j
        obtain ⟨acc, hS, hal, hnext⟩ : ∃ acc, St wr B b E f acc ∧ acc.length ≤ 1000000 ∧ ∀ w', St w' B b E f (acc ++ [(by_ s j).toUInt8]) → CSt w' B b E f s np (j + 1) := by
          rcases HS.out with ⟨h1, h⟩ | ⟨M, j0, h1, h2, h3, h4, h5, h6⟩
          · refine ⟨_, h, by rw [List.length_take, len_data]; omega, fun w' h' => .inl ⟨by omega, ?_⟩⟩
            rw [take_data s j hj0]; exact h'
          · refine ⟨_, h5, by rw [List.length_append, List.length_drop, List.length_take, len_data]; omega, fun w' h' => .inr ⟨M, j0, h1, by omega, by omega, h4, ?_, h6⟩⟩
            rw [drop_take_data s j0 j h3 hj0, ← List.append_assoc]; exact h'
        have HNext := hide hnext
        clear hnext
        generalize by_ s j = c at hn hb0 hlt HNext
        have hc : (((c : Nat) : Int) == 92) = false := by rw [beq_eq_false_iff_ne]; omega
        have HSt := hide hS
        have HL := hide hal
        clear hn hS hal HS
        go_wp2_with fail
        refine (writeByte_any c wr HSt.out hlt HL.out).mono ?_
        rintro e w2 ⟨rfl, hst, hbl⟩
        have hst2 : Hid (CSt w2 B b E f s np (j + 1)) := HNext.out w2 hst
        have hbl2 : Hid (Below B w w2) := HB.out.trans hbl
        clear hst hbl
        go_wp2
        go_roundg (s.size - (j + 1))
        case measure => omega
        case rel => exact ⟨j + 1, by omega, by go_num, by omega, hst2, hbl2⟩
    · obtain rfl : j = s.size := by omega
      have hfin : St wr B b E f (cOut f s np).1 ∧ (cOut f s np).2 = false := by
        rcases HS.out with ⟨h1, h⟩ | ⟨M, j0, h1, h2, h3, h4, h5, h6⟩
        · have := HNP.out; omega
        · rw [List.take_of_length_le (by rw [len_data]; exact Nat.le_refl _)] at h5
          rw [h6]; exact ⟨h5, rfl⟩
      have HF := hide hfin
      clear HS hfin
      go_wp2
      go_ret
      exact ⟨by rw [HF.out.2]; rfl, HF.out.1, HB.out⟩

end Go.Proofs.Qxb6601022a.Esc
