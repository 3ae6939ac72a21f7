/-
  The walk of the law FnWriteEscapedBackslashC.
-/
import Derived.Test.Qxb6601022aLawOct
import Derived.Test.Qxb6601022aEscC
set_option linter.unusedVariables false
set_option linter.unusedSimpArgs false
namespace Go.Proofs.Qxb6601022a.Esc
open Go.RowKit

theorem bytes28_any (p q ks vs : ByteArray) (oc zo cc sc ne : Bool) (w : World) (h1 : p.size ≤ 9223372036854775807) (h1' : q.size ≤ 9223372036854775807) (h2 : ks.size ≤ 9223372036854775807) (h3 : vs.size ≤ 9223372036854775807) :
    Calls Try.prog 28 #[.string p, .string q, .string ks, .string vs, .bool oc, .bool zo, .bool cc, .bool sc, .bool ne] w fun r w' => SomeBool r ∧ w = w' := by
  go_enter Try.func28, Try.ntmps28
  go_wp2
  all_goals
    go_ret
    exact ⟨⟨_, rfl⟩, rfl⟩

theorem data_append (a b : ByteArray) : (a ++ b).data.toList = a.data.toList ++ b.data.toList := by
  simp [ByteArray.data_append]
theorem size_app (a b : ByteArray) : (a ++ b).size = a.size + b.size := ByteArray.size_append
theorem by_left (a b : ByteArray) (j : Nat) (h : j < a.size) : by_ (a ++ b) j = by_ a j := by
  unfold by_
  rw [data_append, List.getD, List.getElem?_append_left (by rw [len_data]; exact h)]; rfl
theorem by_right (a b : ByteArray) (j : Nat) : by_ (a ++ b) (a.size + j) = by_ b j := by
  unfold by_
  rw [data_append, List.getD, List.getElem?_append_right (by rw [len_data]; omega), len_data, Nat.add_sub_cancel_left]; rfl
theorem self_array (s : ByteArray) : (⟨s.data.toList.toArray⟩ : ByteArray) = s := by cases s; rfl

/-- string([]byte{..}), of a literal. -/
theorem conv_lit_drew (w : World) (l : List UInt8) (cs : Array Value) (hc : cs.toList = Lib.byteCells l) (n : Nat) (hn : n = l.length) :
    (convert 31 9 (.slice (some ⟨w.heap.size, 0, none⟩) n n)).run Try.prog (w.alloc (.cells cs 5)).drew = .ok (.string ⟨l.toArray⟩) (w.alloc (.cells cs 5)).drew := by
  subst hn
  refine run_convert_bytes_back _ 31 9 5 ⟨w.heap.size, 0, none⟩ l.length l Try.underlying31 Try.underlying5 Try.underlying9 (fun j hj => ?_)
  refine cells_new w cs 5 _ hc j _ ?_
  simp [Lib.byteCells, hj]
theorem conv_lit (w : World) (l : List UInt8) (cs : Array Value) (hc : cs.toList = Lib.byteCells l) (n : Nat) (hn : n = l.length) :
    (convert 31 9 (.slice (some ⟨w.heap.size, 0, none⟩) n n)).run Try.prog (w.alloc (.cells cs 5)) = .ok (.string ⟨l.toArray⟩) (w.alloc (.cells cs 5)) := by
  subst hn
  refine run_convert_bytes_back _ 31 9 5 ⟨w.heap.size, 0, none⟩ l.length l Try.underlying31 Try.underlying5 Try.underlying9 (fun j hj => ?_)
  refine cells_new w cs 5 _ hc j _ ?_
  simp [Lib.byteCells, hj]
/-- p, backslash-c, q: its parts. -/
structure CText (p q esc s : ByteArray) : Prop where
  size : s.size = p.size + 2 + q.size
  take : s.data.toList.take p.size = p.data.toList
  drop : ∀ i, s.data.toList.drop (p.size + 2 + i) = q.data.toList.drop i
  b0 : by_ s p.size = 92
  b1 : by_ s (p.size + 1) = 99
  lo : ∀ j, j < p.size → by_ s j = by_ p j
  hi : ∀ j, by_ s (p.size + 2 + j) = by_ q j
theorem cText (p q : ByteArray) : CText p q ⟨[92, 99].toArray⟩ (p ++ ⟨[92, 99].toArray⟩ ++ q) := by
  have hd : (p ++ ⟨[92, 99].toArray⟩ ++ q).data.toList = p.data.toList ++ ([92, 99] ++ q.data.toList) := by
    rw [data_append, data_append, List.append_assoc]
  have hl := len_data p
  have hg : ∀ j, by_ (p ++ ⟨[92, 99].toArray⟩ ++ q) j = ((p.data.toList ++ ([92, 99] ++ q.data.toList)).getD j 0).toNat := fun j => by unfold by_; rw [hd]
  have hr : ∀ j, by_ (p ++ ⟨[92, 99].toArray⟩ ++ q) (p.size + j) = (([92, 99] ++ q.data.toList).getD j 0).toNat := fun j => by
    rw [hg, List.getD, List.getElem?_append_right (by omega), hl, Nat.add_sub_cancel_left]; rfl
  refine ⟨?_, ?_, fun i => ?_, hr 0, hr 1, fun j hj => ?_, fun j => ?_⟩
  · rw [size_app, size_app]; rfl
  · rw [hd, List.take_append_of_le_length (by omega), List.take_of_length_le (by omega)]
  · rw [hd, Nat.add_assoc, ← List.drop_drop, ← hl, List.drop_left, Nat.add_comm 2 i]; rfl
  · rw [hg, List.getD, List.getElem?_append_left (by omega)]; rfl
  · rw [Nat.add_assoc, hr, Nat.add_comm 2 j]; rfl
/-- What comes out of it. -/
theorem cOut_text (f : Fl) (p q esc s : ByteArray) (h : CText p q esc s) : cOut f s p.size =
    if f.has 99 then (p.data.toList ++ [(f.d 99).toUInt8] ++ q.data.toList, false)
    else if f.sc then (p.data.toList, true)
    else if f.cc = true ∧ 0 < q.size then
      (if by_ q 0 % 32 = 0 ∧ f.ne = true then (p.data.toList, false) else (p.data.toList ++ [(by_ q 0 % 32).toUInt8] ++ q.data.toList.drop 1, false))
    else (p.data.toList ++ [92, 99] ++ q.data.toList, false) := by
  unfold cOut
  have h2 : s.data.toList.drop (p.size + 2) = q.data.toList := h.drop 0
  have h3 : s.data.toList.drop (p.size + 3) = q.data.toList.drop 1 := h.drop 1
  have h4 : by_ s (p.size + 2) = by_ q 0 := h.hi 0
  have h5 : (p.size + 2 < s.size) = (0 < q.size) := by rw [h.size]; apply propext; omega
  rw [h.take, h2, h3, h4]
  simp only [h5]

set_option maxRecDepth 100000 in
set_option maxHeartbeats 2000000 in
theorem cLaw (p q ks vs : ByteArray) (oc zo cc sc ne : Bool) (w : World) (h1 : p.size ≤ 9223372036854775807) (h1' : q.size ≤ 9223372036854775807) (h2 : ks.size ≤ 9223372036854775807) (h3 : vs.size ≤ 9223372036854775807) :
    Calls Try.prog 8 #[.string p, .string q, .string ks, .string vs, .bool oc, .bool zo, .bool cc, .bool sc, .bool ne] w fun r w' => r = .returned (.bool true) ∧ Below w.heap.size w w' := by
  go_enter Try.func8, Try.ntmps8
  go_wp2_with fail
  refine (bytes28_any p q ks vs oc zo cc sc ne w h1 h1' h2 h3).mono ?_
  rintro r w' ⟨⟨b, rfl⟩, rfl⟩
  cases b
  · go_wp2
    go_ret
    exact ⟨rfl, Below.refl _ _⟩
  by_cases hA : p.size ≤ 65536
  rotate_left
  · go_wp2
    go_ret
    exact ⟨rfl, Below.refl _ _⟩
  by_cases hA2 : q.size ≤ 65536
  rotate_left
  · go_wp2
    go_ret
    exact ⟨rfl, Below.refl _ _⟩
  by_cases hB : ks.size ≤ 65536
  rotate_left
  · go_wp2
    go_ret
    exact ⟨rfl, Below.refl _ _⟩
  by_cases hC : vs.size ≤ 65536
  rotate_left
  · go_wp2
    go_ret
    exact ⟨rfl, Below.refl _ _⟩
  clear h1 h2 h3
  have HP := hide (show ∀ w, Calls Try.prog 29 #[.string p, .int .u8 92] w _ from fun w => hasByte_any p 92 w hA (by decide))
  have HQ := hide (show ∀ w, Calls Try.prog 29 #[.string q, .int .u8 92] w _ from fun w => hasByte_any q 92 w hA2 (by decide))
  go_wp2_with fail
  refine (HP.out _).mono ?_
  rintro r w' ⟨⟨b, hb, rfl⟩, rfl⟩
  cases b
  rotate_left
  · go_wp2
    go_ret
    exact ⟨rfl, Below.refl _ _⟩
  have HNP := hide (hb rfl)
  clear hb
  go_wp2_with fail
  refine (HQ.out _).mono ?_
  rintro r w' ⟨⟨b, hb, rfl⟩, rfl⟩
  cases b
  rotate_left
  · go_wp2
    go_ret
    exact ⟨rfl, Below.refl _ _⟩
  have HNQ := hide (hb rfl)
  clear hb HP HQ
  go_wp2_with fail
  refine (escMap_any ks vs w hB hC).mono ?_
  rintro e w1 ⟨r, has, d, rfl, hl, hb1⟩
  have HL := hide hl
  have HB := hide hb1
  clear hl hb1
  have hpq : ∀ w1, (Op.stringOp .add p q).run Try.prog w1 = .ok (.string (p ++ q)) w1 := fun w1 => run_string_add_sum w1 p q (by omega)
  obtain ⟨f, hf⟩ : ∃ f : Fl, f = ⟨r, has, d, oc, zo, cc, sc, ne⟩ := ⟨_, rfl⟩
  have hszpq := size_app p q
  have hzz : Calls Try.prog 22 #[.string (p ++ q), .map r, .bool oc, .bool zo, .bool cc, .bool sc, .bool ne] w1 fun e w' => e = .returned (.tuple #[.string (p ++ q), .bool false]) ∧ Below w1.heap.size w1 w' ∧ Look w' r has d := by
    have hwe : WE (p ++ q) f (p ++ q).data.toList false := fun w' B b E hst => wePlain B b E f (p ++ q) w' hst (by omega) (fun j hj => by
      by_cases h : j < p.size
      · rw [by_left p q j h]; exact HNP.out j h
      · rw [show j = p.size + (j - p.size) from by omega, by_right]; exact HNQ.out _ (by omega))
    have h22 := zz_any (p ++ q) f _ false w1 (by rw [hf]; exact HL.out) hwe
    rw [hf, self_array] at h22
    exact h22
  have HZZ := hide hzz
  have HF := hide hf
  clear hzz hf hszpq
  go_wp2_with fail
  refine HZZ.out.mono ?_
  rintro e w2 ⟨rfl, hb2, hl2⟩
  have HL2 := hide hl2
  have HB2 := hide (HB.out.trans (hb2.mono HB.out.size))
  clear hb2 hl2 HZZ HL HB
  have hesc : ∀ w : World, (convert 31 9 (.slice (some ⟨w.heap.size, 0, none⟩) 2 2)).run Try.prog (w.alloc (.cells #[.int .u8 92, .int .u8 99] 5)) = .ok (.string ⟨[92, 99].toArray⟩) (w.alloc (.cells #[.int .u8 92, .int .u8 99] 5)) := fun w => conv_lit w [92, 99] _ rfl 2 rfl
  have hct := cText p q
  have hes2 : (⟨[92, 99].toArray⟩ : ByteArray).size = 2 := rfl
  have hel : (⟨[92, 99].toArray⟩ : ByteArray).data.toList = [92, 99] := rfl
  generalize (⟨[92, 99].toArray⟩ : ByteArray) = esc at hesc hct hes2 hel
  have s1 := size_app p esc
  have s2 := size_app (p ++ esc) q
  have hpe : ∀ w1, (Op.stringOp .add p esc).run Try.prog w1 = .ok (.string (p ++ esc)) w1 := fun w1 => run_string_add_sum w1 p esc (by omega)
  have hpeq : ∀ w1, (Op.stringOp .add (p ++ esc) q).run Try.prog w1 = .ok (.string (p ++ esc ++ q)) w1 := fun w1 => run_string_add_sum w1 _ q (by omega)
  obtain ⟨D, hD⟩ : ∃ D : ByteArray, D = ⟨[(d 99).toUInt8].toArray⟩ := ⟨_, rfl⟩
  have hDs : D.size = 1 := by rw [hD]; rfl
  have hDl : D.data.toList = [(d 99).toUInt8] := by rw [hD]
  have s3 := size_app p D
  have hpD : ∀ w1, (Op.stringOp .add p D).run Try.prog w1 = .ok (.string (p ++ D)) w1 := fun w1 => run_string_add_sum w1 p D (by omega)
  have hpDq : ∀ w1, (Op.stringOp .add (p ++ D) q).run Try.prog w1 = .ok (.string (p ++ D ++ q)) w1 := fun w1 => run_string_add_sum w1 _ q (by omega)
  have hDc : ∀ w : World, (convert 31 9 (.slice (some ⟨w.heap.size, 0, none⟩) 1 1)).run Try.prog (w.alloc (.cells #[.int .u8 ((d 99 : Nat) : Int)] 5)) = .ok (.string D) (w.alloc (.cells #[.int .u8 ((d 99 : Nat) : Int)] 5)) := fun w => by
    rw [hD]; exact conv_lit w [(d 99).toUInt8] _ (by simp only [Lib.byteCells, List.map_cons, List.map_nil]; rw [cell8 _ (HL2.out.1 99)]) 1 rfl
  -- what the second call hands out
  have hzz2 : ∀ w' out st, Look w' r has d → cOut f (p ++ esc ++ q) p.size = (out, st) → Calls Try.prog 22 #[.string (p ++ esc ++ q), .map r, .bool oc, .bool zo, .bool cc, .bool sc, .bool ne] w' fun e w'' => e = .returned (.tuple #[.string ⟨out.toArray⟩, .bool st]) ∧ Below w'.heap.size w' w'' ∧ Look w'' r has d := by
    intro w' out st hl' ho
    have hwe : WE (p ++ esc ++ q) f out st := fun w'' B b E hst => by
      have := weC B b E p.size f (p ++ esc ++ q) w'' hst (by omega) (by omega) (fun j hj hne => by
        by_cases h : j < p.size
        · rw [hct.lo j h]; exact HNP.out j h
        · by_cases h2 : j = p.size + 1
          · rw [h2, hct.b1]; decide
          · rw [show j = p.size + 2 + (j - (p.size + 2)) from by omega, hct.hi]; exact HNQ.out _ (by omega)) hct.b0 hct.b1
      rw [ho] at this
      exact this
    have h22 := zz_any (p ++ esc ++ q) f out st w' (by rw [HF.out]; exact hl') hwe
    rw [HF.out] at h22
    exact h22
  have hzf : ∀ out st S, cOut f (p ++ esc ++ q) p.size = (out, st) → out = S.data.toList → Calls Try.prog 22 #[.string (p ++ esc ++ q), .map r, .bool oc, .bool zo, .bool cc, .bool sc, .bool ne] (w2.alloc (.cells #[.int .u8 92, .int .u8 99] 5)) fun e w'' => e = .returned (.tuple #[.string S, .bool st]) ∧ Below w.heap.size w w'' ∧ Look w'' r has d := by
    intro out st S ho hS
    subst hS
    refine (hzz2 _ _ st (HL2.out.block (fun b hb => Below.heap_alloc _ _ _ (HL2.out.lt b hb))) ho).mono ?_
    rintro e w'' ⟨rfl, hb, hl⟩
    have hb3 := HB2.out.alloc HB2.out.size (.cells #[.int .u8 92, .int .u8 99] 5)
    exact ⟨by rw [self_array], hb3.trans (hb.mono (by have := hb3.size; omega)), hl⟩
  have HZF := hide hzf
  have HO := hide (cOut_text f p q esc _ hct)
  rw [HF.out] at HO
  have HEL := hide hel
  have HDL := hide hDl
  have HF2 := hide (fun (out : List UInt8 × Bool) (h : cOut ⟨r, has, d, oc, zo, cc, sc, ne⟩ (p ++ esc ++ q) p.size = out) => show cOut f (p ++ esc ++ q) p.size = out from by rw [HF.out]; exact h)
  clear hzz2 hct s1 s2 s3 hD hes2 hel hDl hzf HF HB2 HL2
  cases hh : has 99
  · cases sc
    · cases cc
      · -- as it stands
        have HZ := hide (HZF.out (p.data.toList ++ [92, 99] ++ q.data.toList) false (p ++ esc ++ q) (HF2.out _ (by rw [HO.out]; simp [hh])) (by rw [data_append, data_append, HEL.out]))
        clear HZF HO HF2
        go_wp2_with fail
        refine HZ.out.mono ?_
        rintro e w3 ⟨rfl, hb3, hl3⟩
        have HB3 := hide hb3
        have hlk := hl3.run 99 (by decide)
        rw [hh] at hlk
        have hlk' : (Instr.lookup 40 (.map r) (.int .u8 99) true).run Try.prog w3 = .ok (.tuple #[.int .u8 ((d 99 : Nat) : Int), .bool false]) w3 := hlk
        clear hb3 hl3 hlk
        go_wp2
        go_ret
        exact ⟨rfl, HB3.out⟩
      · by_cases hq0 : 0 < q.size
        · have hb0 := by_at q 0 hq0
          have hcl := by_lt q 0
          obtain ⟨c, hcd⟩ : ∃ c, c = by_ q 0 := ⟨_, rfl⟩
          rw [← hcd] at hb0 hcl HO
          have hmod : (c : Int) % 32 = ((c % 32 : Nat) : Int) := by omega
          obtain ⟨k, hk⟩ : ∃ k, k = c % 32 := ⟨_, rfl⟩
          have hk32 : k < 32 := by omega
          rw [← hk] at hmod HO
          clear hk hcd
          obtain ⟨K, hK⟩ : ∃ K : ByteArray, K = ⟨[k.toUInt8].toArray⟩ := ⟨_, rfl⟩
          have hKs : K.size = 1 := by rw [hK]; rfl
          have hKl : K.data.toList = [k.toUInt8] := by rw [hK]
          have s3 := size_app p K
          have hq1 : (q.extract 1 q.size).size = q.size - 1 := size_extract q 1 (by omega)
          have hpK : ∀ w1, (Op.stringOp .add p K).run Try.prog w1 = .ok (.string (p ++ K)) w1 := fun w1 => run_string_add_sum w1 p K (by omega)
          have hpKq : ∀ w1, (Op.stringOp .add (p ++ K) (q.extract 1 q.size)).run Try.prog w1 = .ok (.string (p ++ K ++ q.extract 1 q.size)) w1 := fun w1 => run_string_add_sum w1 _ _ (by omega)
          have hKc : ∀ w : World, (convert 31 9 (.slice (some ⟨w.heap.size, 0, none⟩) 1 1)).run Try.prog (w.alloc (.cells #[.int .u8 ((k : Nat) : Int)] 5)) = .ok (.string K) (w.alloc (.cells #[.int .u8 ((k : Nat) : Int)] 5)) := fun w => by
            rw [hK]; exact conv_lit w [k.toUInt8] _ (by simp only [Lib.byteCells, List.map_cons, List.map_nil]; rw [cell8 _ (by omega)]) 1 rfl
          have hqx : (q.extract 1 q.size).data.toList = q.data.toList.drop 1 := by
            rw [ByteArray.data_extract, Array.toList_extract]
            simp only [List.extract]
            rw [List.take_of_length_le]
            simp
          have HKL := hide hKl
          have HQX := hide hqx
          have HK := hide hK
          clear hK hKs hKl s3 hq1 hqx
          by_cases hz : k = 0 ∧ ne = true
          · obtain ⟨rfl, rfl⟩ := hz
            have hmod0 : (c : Int) % 32 = 0 := hmod
            have HZ := hide (HZF.out p.data.toList false p (HF2.out _ (by rw [HO.out]; simp [hh, hq0])) rfl)
            clear HZF HO HF2 hmod hKc hpKq
            go_wp2_with fail
            refine HZ.out.mono ?_
            rintro e w3 ⟨rfl, hb3, hl3⟩
            have HB3 := hide hb3
            have hlk := hl3.run 99 (by decide)
            rw [hh] at hlk
            have hlk' : (Instr.lookup 40 (.map r) (.int .u8 99) true).run Try.prog w3 = .ok (.tuple #[.int .u8 ((d 99 : Nat) : Int), .bool false]) w3 := hlk
            clear hb3 hl3 hlk
            go_wp2
            go_ret
            exact ⟨rfl, HB3.out⟩
          · have HZ := hide (HZF.out (p.data.toList ++ [k.toUInt8] ++ q.data.toList.drop 1) false (p ++ K ++ q.extract 1 q.size) (HF2.out _ (by rw [HO.out]; simp [hh, hq0, hz])) (by rw [data_append, data_append, HKL.out, HQX.out]))
            clear HZF HO HF2
            have hz2 : (((k : Nat) : Int) == 0) = false ∨ (k = 0 ∧ ne = false) := by
              by_cases h : k = 0
              · refine .inr ⟨h, ?_⟩
                cases ne
                · rfl
                · exact absurd ⟨h, rfl⟩ hz
              · refine .inl ?_
                rw [beq_eq_false_iff_ne]; omega
            clear hz
            rcases hz2 with hz2 | ⟨rfl, rfl⟩
            · go_wp2_with fail
              refine HZ.out.mono ?_
              rintro e w3 ⟨rfl, hb3, hl3⟩
              have HB3 := hide hb3
              have hlk := hl3.run 99 (by decide)
              rw [hh] at hlk
              have hlk' : (Instr.lookup 40 (.map r) (.int .u8 99) true).run Try.prog w3 = .ok (.tuple #[.int .u8 ((d 99 : Nat) : Int), .bool false]) w3 := hlk
              clear hb3 hl3 hlk
              have hKc2 : ∀ w : World, (convert 31 9 (.slice (some ⟨w.heap.size, 0, none⟩) 1 1)).run Try.prog (w.alloc (.cells #[.int .u8 ((c : Int) % 32)] 5)) = .ok (.string K) (w.alloc (.cells #[.int .u8 ((c : Int) % 32)] 5)) := by rw [hmod]; exact hKc
              have hKc3 : ∀ w : World, (convert 31 9 (.slice (some ⟨w.heap.size, 0, none⟩) 1 1)).run Try.prog (w.alloc (.cells #[.int .u8 ((c : Int) % 32)] 5)).drew = .ok (.string K) (w.alloc (.cells #[.int .u8 ((c : Int) % 32)] 5)).drew := fun w => by
                rw [hmod, HK.out]; exact conv_lit_drew w [k.toUInt8] _ (by simp only [Lib.byteCells, List.map_cons, List.map_nil]; rw [cell8 _ (by omega)]) 1 rfl
              have hKc4 : ∀ w : World, (convert 31 9 (.slice (some ⟨w.heap.size, 0, none⟩) 1 1)).run Try.prog (w.alloc (.cells #[.int .u8 (k : Int)] 5)).drew = .ok (.string K) (w.alloc (.cells #[.int .u8 (k : Int)] 5)).drew := by rw [← hmod]; exact hKc3
              have hq1 : (1 : Int) ≤ (q.size : Int) := by omega
              clear hKc hpeq hDc hpDq
              go_wp2_with fail
              go_big_region
              go_wp2
              go_ret
              exact ⟨rfl, (HB3.out.alloc HB3.out.size _).drew⟩
            · have hmod0 : (c : Int) % 32 = 0 := hmod
              have hKc4 : ∀ w : World, (convert 31 9 (.slice (some ⟨w.heap.size, 0, none⟩) 1 1)).run Try.prog (w.alloc (.cells #[.int .u8 0] 5)).drew = .ok (.string K) (w.alloc (.cells #[.int .u8 0] 5)).drew := fun w => by
                rw [HK.out]; exact conv_lit_drew w [(0 : Nat).toUInt8] _ rfl 1 rfl
              have hKc3 : ∀ w : World, (convert 31 9 (.slice (some ⟨w.heap.size, 0, none⟩) 1 1)).run Try.prog (w.alloc (.cells #[.int .u8 ((c : Int) % 32)] 5)).drew = .ok (.string K) (w.alloc (.cells #[.int .u8 ((c : Int) % 32)] 5)).drew := by rw [hmod0]; exact hKc4
              have hq1 : (1 : Int) ≤ (q.size : Int) := by omega
              clear hmod hKc hDc hpDq
              go_wp2_with fail
              refine HZ.out.mono ?_
              rintro e w3 ⟨rfl, hb3, hl3⟩
              have HB3 := hide hb3
              have hlk := hl3.run 99 (by decide)
              rw [hh] at hlk
              have hlk' : (Instr.lookup 40 (.map r) (.int .u8 99) true).run Try.prog w3 = .ok (.tuple #[.int .u8 ((d 99 : Nat) : Int), .bool false]) w3 := hlk
              clear hb3 hl3 hlk
              go_wp2_with fail
              go_big_region
              go_wp2
              go_ret
              exact ⟨rfl, (HB3.out.alloc HB3.out.size _).drew⟩
        · have HZ := hide (HZF.out (p.data.toList ++ [92, 99] ++ q.data.toList) false (p ++ esc ++ q) (HF2.out _ (by rw [HO.out]; simp [hh, hq0])) (by rw [data_append, data_append, HEL.out]))
          clear HZF HO HF2
          go_wp2_with fail
          refine HZ.out.mono ?_
          rintro e w3 ⟨rfl, hb3, hl3⟩
          have HB3 := hide hb3
          have hlk := hl3.run 99 (by decide)
          rw [hh] at hlk
          have hlk' : (Instr.lookup 40 (.map r) (.int .u8 99) true).run Try.prog w3 = .ok (.tuple #[.int .u8 ((d 99 : Nat) : Int), .bool false]) w3 := hlk
          clear hb3 hl3 hlk
          go_wp2
          go_ret
          exact ⟨rfl, HB3.out⟩
    · have HZ := hide (HZF.out p.data.toList true p (HF2.out _ (by rw [HO.out]; simp [hh])) rfl)
      clear HZF HO HF2
      go_wp2_with fail
      refine HZ.out.mono ?_
      rintro e w3 ⟨rfl, hb3, hl3⟩
      have HB3 := hide hb3
      have hlk := hl3.run 99 (by decide)
      rw [hh] at hlk
      have hlk' : (Instr.lookup 40 (.map r) (.int .u8 99) true).run Try.prog w3 = .ok (.tuple #[.int .u8 ((d 99 : Nat) : Int), .bool false]) w3 := hlk
      clear hb3 hl3 hlk
      go_wp2
      go_ret
      exact ⟨rfl, HB3.out⟩
  · have HZ := hide (HZF.out (p.data.toList ++ [(d 99).toUInt8] ++ q.data.toList) false (p ++ D ++ q) (HF2.out _ (by rw [HO.out]; simp [hh])) (by rw [data_append, data_append, HDL.out]))
    clear HZF HO HF2
    go_wp2_with fail
    refine HZ.out.mono ?_
    rintro e w3 ⟨rfl, hb3, hl3⟩
    have HB3 := hide hb3
    have hlk := hl3.run 99 (by decide)
    rw [hh] at hlk
    have hlk' : (Instr.lookup 40 (.map r) (.int .u8 99) true).run Try.prog w3 = .ok (.tuple #[.int .u8 ((d 99 : Nat) : Int), .bool true]) w3 := hlk
    clear hb3 hl3 hlk
    go_wp2
    go_ret
    exact ⟨rfl, HB3.out.alloc HB3.out.size _⟩

end Go.Proofs.Qxb6601022a.Esc
