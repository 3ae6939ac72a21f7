/-
  The walk of the law FnWriteEscapedUnicodeUTF8.
-/
import Derived.Test.Qxb6601022aEscClone
set_option linter.unusedVariables false
set_option linter.unusedSimpArgs false
namespace Go.Proofs.Qxb6601022a.Esc
open Go.RowKit

theorem shiftDig (x : Nat) (z y : Int) (w t : Nat) (hz : z = (x : Int)) (ht : t < w) (hy : y = 4 * ((w - 1 - t : Nat) : Int)) : (z / 2 ^ y.toNat % 256).toNat % 16 = x / 16 ^ (w - 1 - t) % 16 := by
  obtain ⟨m, hm⟩ : ∃ m, m = w - 1 - t := ⟨_, rfl⟩
  rw [← hm] at hy ⊢
  have e1 : y.toNat = 4 * m := by omega
  have e2 : (2 : Int) ^ (4 * m) = ((16 ^ m : Nat) : Int) := by
    rw [Int.pow_mul, Int.natCast_pow]; rfl
  rw [e1, e2, hz]
  have e3 : (x : Int) / ((16 ^ m : Nat) : Int) = ((x / 16 ^ m : Nat) : Int) := (Int.natCast_ediv x (16 ^ m)).symm
  rw [e3]
  generalize x / 16 ^ m = q
  omega
theorem own_below {w w' : World} {base : Nat} {e : TypeId} {size : Nat} {v : Value} {n : Nat} {xs : List Value} (h : w.ownsRow base e size v n xs) (hb : Below w.heap.size w w') : w'.ownsRow base e size v n xs := by
  refine ⟨h.1, ?_⟩
  rcases h.2 with hn | ⟨g, cap, cur, rfl, h1, hgg, rest⟩
  · exact .inl hn
  · exact .inr ⟨g, cap, cur, rfl, h1, (hb.block g (Array.getElem?_eq_some_iff.1 hgg).1).trans hgg, rest⟩

theorem hexC (z : Int) (c : Nat) (w : World) (h0 : 0 ≤ z) (h1 : z < 256) (hc : c = hexc (z.toNat % 16) false) :
    Calls Try.prog 21 #[.int .u8 z, .bool false] w fun e w' => e = .returned (.int .u8 (c : Int)) ∧ w = w' := by
  rw [hc]; exact hexDigitZ z false w h0 h1

theorem bytes25_any (a : Option Addr) (N cap : Nat) (short : Bool) (ks vs : ByteArray) (oc zo cc sc ne : Bool) (w : World) (h1 : N ≤ 9223372036854775807) (h2 : ks.size ≤ 9223372036854775807) (h3 : vs.size ≤ 9223372036854775807) :
    Calls Try.prog 25 #[.slice a N cap, .bool short, .string ks, .string vs, .bool oc, .bool zo, .bool cc, .bool sc, .bool ne] w fun r w' => SomeBool r ∧ w = w' := by
  go_enter Try.func25, Try.ntmps25
  go_wp2
  all_goals
    go_ret
    exact ⟨⟨_, rfl⟩, rfl⟩

theorem clone_any (a : Option Addr) (N cap : Nat) (f : Nat → Int) (w : World) (hN : N ≤ 65536) (h0 : (a = none ∧ N = 0 ∧ cap = 0) ∨ ∃ x, a = some x ∧ N ≤ cap ∧ ∀ i, i < N → w.cell? (x.add i) = some (.int .u32 (f i))) :
    Calls Try.prog 26 #[.slice a N cap] w fun r w' => ClonePost N f w r w' := by
  rcases h0 with ⟨rfl, rfl, rfl⟩ | ⟨x, rfl, h1, h2⟩
  · exact clone_nil f w
  · exact clone_some x N cap f w hN h1 h2

set_option maxRecDepth 100000 in
set_option maxHeartbeats 8000000 in
theorem uniLaw (a : Option Addr) (N cap : Nat) (f : Nat → Int) (short : Bool) (ks vs : ByteArray) (oc zo cc sc ne : Bool) (w : World)
    (h0 : (a = none ∧ N = 0 ∧ cap = 0) ∨ ∃ x, a = some x ∧ N ≤ cap ∧ ∀ i, i < N → w.cell? (x.add i) = some (.int .u32 (f i))) (hf : ∀ i, 0 ≤ f i ∧ f i < 4294967296) (h1 : N ≤ 9223372036854775807) (h2 : ks.size ≤ 9223372036854775807) (h3 : vs.size ≤ 9223372036854775807) :
    Calls Try.prog 7 #[.slice a N cap, .bool short, .string ks, .string vs, .bool oc, .bool zo, .bool cc, .bool sc, .bool ne] w fun r w' => r = .returned (.bool true) ∧ Below w.heap.size w w' := by
  have H0 := hide h0
  have HF := hide hf
  clear h0 hf
  go_enter Try.func7, Try.ntmps7
  go_wp2_with fail
  refine (bytes25_any a N cap short ks vs oc zo cc sc ne w h1 h2 h3).mono ?_
  rintro r w' ⟨⟨b, rfl⟩, rfl⟩
  cases b
  · go_wp2
    go_ret
    exact ⟨rfl, Below.refl _ _⟩
  by_cases hA : N ≤ 65536
  rotate_left
  · go_wp2
    go_ret
    exact ⟨rfl, Below.refl _ _⟩
  by_cases hB : ks.size ≤ 65536
  rotate_left
  · go_wp2
    go_ret
    exact ⟨rfl, Below.refl _ _⟩
  by_cases hC : vs.size ≤ 65536
  rotate_left
  · go_wp2
    go_ret
    exact ⟨rfl, Below.refl _ _⟩
  clear h1 h2 h3
  go_wp2_with fail
  refine (escMap_any ks vs w hB hC).mono ?_
  rintro e w1 ⟨r, has, d, rfl, hl, hb1⟩
  have HL := hide hl
  have HB := hide hb1
  have hlk1 : (Instr.lookup 40 (.map r) (.int .u8 117) true).run Try.prog w1 = .ok (.tuple #[.int .u8 ((d 117 : Nat) : Int), .bool (has 117)]) w1 := hl.run 117 (by decide)
  have hlk2 : (Instr.lookup 40 (.map r) (.int .u8 85) true).run Try.prog w1 = .ok (.tuple #[.int .u8 ((d 85 : Nat) : Int), .bool (has 85)]) w1 := hl.run 85 (by decide)
  clear hl hb1
  cases hh : has 117
  rotate_left
  · rw [hh] at hlk1
    go_wp2
    go_ret
    exact ⟨rfl, HB.out⟩
  rw [hh] at hlk1
  cases hh2 : has 85
  rotate_left
  · rw [hh2] at hlk2
    go_wp2
    go_ret
    exact ⟨rfl, HB.out⟩
  rw [hh2] at hlk2
  have HU1 := hide hh
  have HU2 := hide hh2
  clear hh hh2
  have h0' : (a = none ∧ N = 0 ∧ cap = 0) ∨ ∃ x, a = some x ∧ N ≤ cap ∧ ∀ i, i < N → w1.cell? (x.add i) = some (.int .u32 (f i)) := by
    rcases H0.out with h | ⟨x, h1, h2, h3⟩
    · exact .inl h
    · exact .inr ⟨x, h1, h2, fun i hi => (HB.out.cell (World.block_lt_of_cell? _ _ (h3 i hi))).trans (h3 i hi)⟩
  have HCl := hide (clone_any a N cap f w1 hA h0')
  clear h0'
  go_wp2_with fail
  refine HCl.out.mono ?_
  rintro r2 w2 ⟨a2, b2, rfl, ha2, hb2, hc2, hbel2⟩
  have HA2 := hide ha2
  have HB2 := hide hb2
  have HC2 := hide hc2
  have HBel2 := hide hbel2
  clear ha2 hb2 hc2 hbel2 HCl hlk1 hlk2
  obtain ⟨B, hBd⟩ : ∃ B, B = w2.heap.size := ⟨_, rfl⟩
  have HBd := hide hBd
  clear hBd
  obtain ⟨P, hP⟩ : ∃ P : Nat → Nat, P = fun k => (f k).toNat := ⟨_, rfl⟩
  have hPf : ∀ k, ((P k : Nat) : Int) = f k := fun k => by rw [hP]; have := HF.out k; show ((f k).toNat : Int) = f k; omega
  have HPf := hide hPf
  clear hP hPf
  obtain ⟨sh, hsh⟩ : ∃ sh : Nat → Bool, sh = fun k => (short && decide (f k ≤ 65535)) := ⟨_, rfl⟩
  have HSh := hide (fun k => show sh k = (short && decide (f k ≤ 65535)) by rw [hsh])
  clear hsh
  go_wp2_with fail
  go_loopw [24, 25, 26, 27, 28, 29, 30] (fun s24 s25 s26 s27 _ _ _ wr => ∃ (k : Nat) (cb : Bool) (e v : Value), k ≤ N ∧ s27 = .int .i64 (k : Int) ∧ s26 = .bool cb ∧ e = s24 ∧ v = s25 ∧ Hid (cb = (wantL ne P k).2) ∧ Hid (Two wr B e (uniL P sh k) v (wantL ne P k).1) ∧ Hid (Below B w2 wr)) (fun _ _ _ s _ _ _ _ => N - (intOf s).toNat)
  case atStart => exact ⟨0, false, _, _, by omega, rfl, rfl, rfl, rfl, rfl, (by rw [HBd.out]; exact Two.nil w2), Below.refl _ _⟩
  case round =>
    obtain ⟨k, cb, e, v, hk, rfl, rfl, rfl, rfl, HCB, HT, HBr⟩ := hrel
    have HUL := hide (show (uniL P sh k).length ≤ 655360 by rw [uniL_len]; have := upos_ten sh k; omega)
    by_cases hlt : k < N
    · obtain rfl := HA2.out (by omega)
      obtain ⟨z, hz⟩ : ∃ z, z = f k := ⟨_, rfl⟩
      have hz0 : 0 ≤ z := by rw [hz]; exact (HF.out k).1
      have hz1 : z < 4294967296 := by rw [hz]; exact (HF.out k).2
      have hcz : wr.cell? ⟨b2, k, none⟩ = some (.int .u32 z) := by
        rw [hz, ← HC2.out k hlt]
        exact HBr.out.cell (by rw [HBd.out]; exact HB2.out (by omega))
      have HZ := hide (show ((P k : Nat) : Int) = z by rw [HPf.out k, hz])
      have HSk := hide (show sh k = (short && decide (z ≤ 65535)) by rw [HSh.out k, hz])
      clear hz
      by_cases hsz : short = true ∧ z ≤ 65535
      · obtain ⟨hs1, hs2⟩ := hsz
        have HSk2 := hide (show sh k = true by rw [HSk.out, hs1]; simp [hs2])
        clear HSk
        have HSk := hide HSk2.out
        clear HSk2
        subst hs1
        go_wp2_with (at_builtin; refine wpList_append_two rfl (.tmp 89) (.tmp 90) rfl B e v _ _ rfl (HT.out.alloc _) ⟨wr.heap.size, 0, none⟩ 2 [92, 117] 2 rfl [.int .u8 92, .int .u8 117] rfl rfl (cells_new _ _ _ _ rfl) (by have := HUL.out; omega) ?_; intro e3 w3 hT3 hB3)
        have HT3 := hide hT3
        have HB3 := hide ((HBr.out.alloc HT.out.bs _).trans hB3)
        clear hT3 hB3 HBr hcz
        go_loopw [24, 29] (fun s24 s wi => ∃ (t : Nat) (y : Int) (e4 : Value), t ≤ 4 ∧ e4 = s24 ∧ s = .int .i64 y ∧ Hid (y = 12 - 4 * (t : Int)) ∧ Hid (Two wi B e4 (uniL P sh k ++ [92, 117] ++ digsTo (P k) 4 t) v (wantL ne P k).1) ∧ Hid (Below B w2 wi)) (fun _ s _ => (intOf s + 4).toNat)
        case atStart => exact ⟨0, 12, e3, by omega, rfl, rfl, rfl, (by rw [show digsTo (P k) 4 0 = [] from rfl, List.append_nil]; exact HT3.out), HB3.out⟩
        case round =>
          obtain ⟨t, y, e4, ht, rfl, rfl, HY, HTi, HBi⟩ := hrel
          clear HT3 HB3 HT
          have HLi := hide (show (uniL P sh k ++ [92, 117] ++ digsTo (P k) 4 t).length ≤ 900000 by simp only [List.length_append, digsTo_len, List.length_cons, List.length_nil]; have := HUL.out; omega)
          by_cases htw : t < 4
          · have hy0 : 0 ≤ y := by have := HY.out; omega
            have hy1 : y ≤ 12 := by have := HY.out; omega
            obtain ⟨c, hc⟩ : ∃ c, c = hexc (P k / 16 ^ (4 - 1 - t) % 16) false := ⟨_, rfl⟩
            have hcb : c < 256 := by have := hexc_bd (P k / 16 ^ (4 - 1 - t) % 16) false (Nat.mod_lt _ (by decide)); omega
            have HTs : Hid (uniL P sh k ++ [92, 117] ++ digsTo (P k) 4 (t + 1) = uniL P sh k ++ [92, 117] ++ digsTo (P k) 4 t ++ [c.toUInt8]) := by
              rw [digsTo_succ, hc, ← List.append_assoc]
              rfl
            have HX := hide (hexC (z / 2 ^ y.toNat % 256) c wr (Int.emod_nonneg _ (by decide)) (Int.emod_lt_of_pos _ (by decide)) (by rw [hc, shiftDig (P k) z y 4 t HZ.out.symm htw (by have := HY.out; omega)]))
            clear hc
            go_wp2_with fail
            refine HX.out.mono ?_
            rintro r w' ⟨rfl, rfl⟩
            go_wp2_with (at_builtin; refine wpList_append_two rfl (.tmp 96) (.tmp 103) rfl B e4 v _ _ rfl (HTi.out.alloc _) ⟨wr.heap.size, 0, none⟩ 1 [c.toUInt8] 1 rfl [.int .u8 (c : Int)] rfl (by simp only [Lib.byteCells, List.map_cons, List.map_nil]; rw [cell8 c hcb]) (cells_new _ _ _ _ rfl) (by have := HLi.out; omega) ?_; intro e5 w5 hT5 hB5)
            have HT5 : Hid (Two w5 B e5 (uniL P sh k ++ [92, 117] ++ digsTo (P k) 4 (t + 1)) v (wantL ne P k).1) := by rw [HTs.out]; exact hT5
            have HB5 : Hid (Below B w2 w5) := (HBi.out.alloc HTi.out.bs _).trans hB5
            have HY5 : Hid (y - 4 = 12 - 4 * ((t + 1 : Nat) : Int)) := by have := HY.out; show _ = _; omega
            clear hT5 hB5 HTs
            go_wp2
            go_roundw
            case rel =>
              first
                | exact ⟨t + 1, y - 4, e5, by omega, rfl, by go_num, HY5, HT5, HB5⟩
                | ((repeat apply Exists.intro); refine ⟨⟨t + 1, y - 4, e5, by omega, rfl, by go_num, HY5, HT5, HB5⟩, ?_⟩; repeat (first | rfl | refine ⟨rfl, ?_⟩))
            case measure => simp [intOf]; omega
          · obtain rfl : t = 4 := by omega
            obtain rfl : y = -4 := by have := HY.out; omega
            have HTE : Hid (Two wr B e4 (uniL P sh (k + 1)) v (wantL ne P k).1) := by
              show Two wr B e4 (uniL P sh k ++ piece (P k) (sh k)) v (wantL ne P k).1
              rw [HSk.out]
              have := HTi.out
              rw [List.append_assoc] at this
              exact this
            have HBE := hide HBi.out
            clear HTi HBi HY htw ht HLi
            cases cb
            · by_cases hnz : ne = true ∧ z = 0
              · obtain ⟨rfl, rfl⟩ := hnz
                have hw1 : wantL true P (k + 1) = ((wantL true P k).1, true) := wantL_cut true P k rfl (by have := HZ.out; omega) (k + 1) (by omega)
                have HT4 : Hid (Two wr B e4 (uniL P sh (k + 1)) v (wantL true P (k + 1)).1) := by rw [hw1]; exact HTE.out
                have HC4 : Hid (true = (wantL true P (k + 1)).2) := by rw [hw1]; rfl
                clear hw1 HTE
                go_wp2
                go_roundw
                case rel =>
                  first
                    | exact ⟨k + 1, true, _, _, by omega, by go_num, rfl, rfl, rfl, HC4, HT4, HBE⟩
                    | ((repeat apply Exists.intro); refine ⟨⟨k + 1, true, _, _, by omega, by go_num, rfl, rfl, rfl, HC4, HT4, HBE⟩, ?_⟩; repeat (first | rfl | refine ⟨rfl, ?_⟩))
                case measure => simp [intOf]; omega
              · have hw1 : wantL ne P (k + 1) = ((wantL ne P k).1 ++ Lib.encodeRune (P k), false) := wantL_go ne P k HCB.out.symm (fun h => hnz ⟨h.1, by have := HZ.out; omega⟩)
                rw [HZ.out] at hw1
                have HW1 := hide hw1
                have hlw : (wantL ne P k).1.length ≤ 3000000 := by have := wantL_len ne P k; omega
                have HA27 := hide (appendUTF8_any B z v e4 _ _ wr HTE.out.swap hz1 hz0 hlw)
                have hnz2 : ne = false ∨ (ne = true ∧ (z == 0) = false) := by
                  cases ne
                  · exact .inl rfl
                  · refine .inr ⟨rfl, ?_⟩
                    rw [beq_eq_false_iff_ne]
                    exact fun h => hnz ⟨rfl, h⟩
                clear hw1 hnz hlw
                rcases hnz2 with rfl | ⟨rfl, hnz3⟩
                · go_wp2_with fail
                  refine HA27.out.mono ?_
                  rintro r w5 ⟨v5, rfl, ht5, hb5⟩
                  have HT4 : Hid (Two w5 B e4 (uniL P sh (k + 1)) v5 (wantL false P (k + 1)).1) := by rw [HW1.out]; exact ht5.swap
                  have HC4 : Hid (false = (wantL false P (k + 1)).2) := by rw [HW1.out]; rfl
                  have HB5 : Hid (Below B w2 w5) := HBE.out.trans hb5
                  clear ht5 hb5
                  go_wp2
                  go_roundw
                  case rel =>
                    first
                      | exact ⟨k + 1, false, _, _, by omega, by go_num, rfl, rfl, rfl, HC4, HT4, HB5⟩
                      | ((repeat apply Exists.intro); refine ⟨⟨k + 1, false, _, _, by omega, by go_num, rfl, rfl, rfl, HC4, HT4, HB5⟩, ?_⟩; repeat (first | rfl | refine ⟨rfl, ?_⟩))
                  case measure => simp [intOf]; omega
                · go_wp2_with fail
                  refine HA27.out.mono ?_
                  rintro r w5 ⟨v5, rfl, ht5, hb5⟩
                  have HT4 : Hid (Two w5 B e4 (uniL P sh (k + 1)) v5 (wantL true P (k + 1)).1) := by rw [HW1.out]; exact ht5.swap
                  have HC4 : Hid (false = (wantL true P (k + 1)).2) := by rw [HW1.out]; rfl
                  have HB5 : Hid (Below B w2 w5) := HBE.out.trans hb5
                  clear ht5 hb5
                  go_wp2
                  go_roundw
                  case rel =>
                    first
                      | exact ⟨k + 1, false, _, _, by omega, by go_num, rfl, rfl, rfl, HC4, HT4, HB5⟩
                      | ((repeat apply Exists.intro); refine ⟨⟨k + 1, false, _, _, by omega, by go_num, rfl, rfl, rfl, HC4, HT4, HB5⟩, ?_⟩; repeat (first | rfl | refine ⟨rfl, ?_⟩))
                  case measure => simp [intOf]; omega
            · have hw1 : wantL ne P (k + 1) = ((wantL ne P k).1, true) := by
                show (if ((wantL ne P k).2 || (ne && decide (P k = 0))) = true then _ else _) = _
                rw [← HCB.out]; rfl
              have HT4 : Hid (Two wr B e4 (uniL P sh (k + 1)) v (wantL ne P (k + 1)).1) := by rw [hw1]; exact HTE.out
              have HC4 : Hid (true = (wantL ne P (k + 1)).2) := by rw [hw1]; rfl
              clear hw1 HTE
              cases ne
              · go_wp2
                go_roundw
                case rel =>
                  first
                    | exact ⟨k + 1, true, _, _, by omega, by go_num, rfl, rfl, rfl, HC4, HT4, HBE⟩
                    | ((repeat apply Exists.intro); refine ⟨⟨k + 1, true, _, _, by omega, by go_num, rfl, rfl, rfl, HC4, HT4, HBE⟩, ?_⟩; repeat (first | rfl | refine ⟨rfl, ?_⟩))
                case measure => simp [intOf]; omega
              · by_cases hz9 : z = 0
                · subst hz9
                  go_wp2
                  go_roundw
                  case rel =>
                    first
                      | exact ⟨k + 1, true, _, _, by omega, by go_num, rfl, rfl, rfl, HC4, HT4, HBE⟩
                      | ((repeat apply Exists.intro); refine ⟨⟨k + 1, true, _, _, by omega, by go_num, rfl, rfl, rfl, HC4, HT4, HBE⟩, ?_⟩; repeat (first | rfl | refine ⟨rfl, ?_⟩))
                  case measure => simp [intOf]; omega
                · have hz8 : (z == 0) = false := by rw [beq_eq_false_iff_ne]; exact hz9
                  clear hz9
                  go_wp2
                  go_roundw
                  case rel =>
                    first
                      | exact ⟨k + 1, true, _, _, by omega, by go_num, rfl, rfl, rfl, HC4, HT4, HBE⟩
                      | ((repeat apply Exists.intro); refine ⟨⟨k + 1, true, _, _, by omega, by go_num, rfl, rfl, rfl, HC4, HT4, HBE⟩, ?_⟩; repeat (first | rfl | refine ⟨rfl, ?_⟩))
                  case measure => simp [intOf]; omega
      · have hsf : sh k = false := by rw [HSk.out]; simpa using hsz
        clear HSk
        have HSk := hide hsf
        clear hsf
        have hsz2 : short = false ∨ (short = true ∧ 65535 < z) := by
          cases short
          · exact .inl rfl
          · refine .inr ⟨rfl, ?_⟩
            have : ¬ z ≤ 65535 := fun h => hsz ⟨rfl, h⟩
            omega
        clear hsz
        rcases hsz2 with hs1 | ⟨hs1, hs2⟩
        · subst hs1
          go_wp2_with (at_builtin; refine wpList_append_two rfl (.tmp 105) (.tmp 106) rfl B e v _ _ rfl (HT.out.alloc _) ⟨wr.heap.size, 0, none⟩ 2 [92, 85] 2 rfl [.int .u8 92, .int .u8 85] rfl rfl (cells_new _ _ _ _ rfl) (by have := HUL.out; omega) ?_; intro e3 w3 hT3 hB3)
          have HT3 := hide hT3
          have HB3 := hide ((HBr.out.alloc HT.out.bs _).trans hB3)
          clear hT3 hB3 HBr hcz
          go_loopw [24, 30] (fun s24 s wi => ∃ (t : Nat) (y : Int) (e4 : Value), t ≤ 8 ∧ e4 = s24 ∧ s = .int .i64 y ∧ Hid (y = 28 - 4 * (t : Int)) ∧ Hid (Two wi B e4 (uniL P sh k ++ [92, 85] ++ digsTo (P k) 8 t) v (wantL ne P k).1) ∧ Hid (Below B w2 wi)) (fun _ s _ => (intOf s + 4).toNat)
          case atStart => exact ⟨0, 28, e3, by omega, rfl, rfl, rfl, (by rw [show digsTo (P k) 8 0 = [] from rfl, List.append_nil]; exact HT3.out), HB3.out⟩
          case round =>
            obtain ⟨t, y, e4, ht, rfl, rfl, HY, HTi, HBi⟩ := hrel
            clear HT3 HB3 HT
            have HLi := hide (show (uniL P sh k ++ [92, 85] ++ digsTo (P k) 8 t).length ≤ 900000 by simp only [List.length_append, digsTo_len, List.length_cons, List.length_nil]; have := HUL.out; omega)
            by_cases htw : t < 8
            · have hy0 : 0 ≤ y := by have := HY.out; omega
              have hy1 : y ≤ 28 := by have := HY.out; omega
              obtain ⟨c, hc⟩ : ∃ c, c = hexc (P k / 16 ^ (8 - 1 - t) % 16) false := ⟨_, rfl⟩
              have hcb : c < 256 := by have := hexc_bd (P k / 16 ^ (8 - 1 - t) % 16) false (Nat.mod_lt _ (by decide)); omega
              have HTs : Hid (uniL P sh k ++ [92, 85] ++ digsTo (P k) 8 (t + 1) = uniL P sh k ++ [92, 85] ++ digsTo (P k) 8 t ++ [c.toUInt8]) := by
                rw [digsTo_succ, hc, ← List.append_assoc]
                rfl
              have HX := hide (hexC (z / 2 ^ y.toNat % 256) c wr (Int.emod_nonneg _ (by decide)) (Int.emod_lt_of_pos _ (by decide)) (by rw [hc, shiftDig (P k) z y 8 t HZ.out.symm htw (by have := HY.out; omega)]))
              clear hc
              go_wp2_with fail
              refine HX.out.mono ?_
              rintro r w' ⟨rfl, rfl⟩
              go_wp2_with (at_builtin; refine wpList_append_two rfl (.tmp 112) (.tmp 119) rfl B e4 v _ _ rfl (HTi.out.alloc _) ⟨wr.heap.size, 0, none⟩ 1 [c.toUInt8] 1 rfl [.int .u8 (c : Int)] rfl (by simp only [Lib.byteCells, List.map_cons, List.map_nil]; rw [cell8 c hcb]) (cells_new _ _ _ _ rfl) (by have := HLi.out; omega) ?_; intro e5 w5 hT5 hB5)
              have HT5 : Hid (Two w5 B e5 (uniL P sh k ++ [92, 85] ++ digsTo (P k) 8 (t + 1)) v (wantL ne P k).1) := by rw [HTs.out]; exact hT5
              have HB5 : Hid (Below B w2 w5) := (HBi.out.alloc HTi.out.bs _).trans hB5
              have HY5 : Hid (y - 4 = 28 - 4 * ((t + 1 : Nat) : Int)) := by have := HY.out; show _ = _; omega
              clear hT5 hB5 HTs
              go_wp2
              go_roundw
              case rel =>
                first
                  | exact ⟨t + 1, y - 4, e5, by omega, rfl, by go_num, HY5, HT5, HB5⟩
                  | ((repeat apply Exists.intro); refine ⟨⟨t + 1, y - 4, e5, by omega, rfl, by go_num, HY5, HT5, HB5⟩, ?_⟩; repeat (first | rfl | refine ⟨rfl, ?_⟩))
              case measure => simp [intOf]; omega
            · obtain rfl : t = 8 := by omega
              obtain rfl : y = -4 := by have := HY.out; omega
              have HTE : Hid (Two wr B e4 (uniL P sh (k + 1)) v (wantL ne P k).1) := by
                show Two wr B e4 (uniL P sh k ++ piece (P k) (sh k)) v (wantL ne P k).1
                rw [HSk.out]
                have := HTi.out
                rw [List.append_assoc] at this
                exact this
              have HBE := hide HBi.out
              clear HTi HBi HY htw ht HLi
              cases cb
              · by_cases hnz : ne = true ∧ z = 0
                · obtain ⟨rfl, rfl⟩ := hnz
                  have hw1 : wantL true P (k + 1) = ((wantL true P k).1, true) := wantL_cut true P k rfl (by have := HZ.out; omega) (k + 1) (by omega)
                  have HT4 : Hid (Two wr B e4 (uniL P sh (k + 1)) v (wantL true P (k + 1)).1) := by rw [hw1]; exact HTE.out
                  have HC4 : Hid (true = (wantL true P (k + 1)).2) := by rw [hw1]; rfl
                  clear hw1 HTE
                  go_wp2
                  go_roundw
                  case rel =>
                    first
                      | exact ⟨k + 1, true, _, _, by omega, by go_num, rfl, rfl, rfl, HC4, HT4, HBE⟩
                      | ((repeat apply Exists.intro); refine ⟨⟨k + 1, true, _, _, by omega, by go_num, rfl, rfl, rfl, HC4, HT4, HBE⟩, ?_⟩; repeat (first | rfl | refine ⟨rfl, ?_⟩))
                  case measure => simp [intOf]; omega
                · have hw1 : wantL ne P (k + 1) = ((wantL ne P k).1 ++ Lib.encodeRune (P k), false) := wantL_go ne P k HCB.out.symm (fun h => hnz ⟨h.1, by have := HZ.out; omega⟩)
                  rw [HZ.out] at hw1
                  have HW1 := hide hw1
                  have hlw : (wantL ne P k).1.length ≤ 3000000 := by have := wantL_len ne P k; omega
                  have HA27 := hide (appendUTF8_any B z v e4 _ _ wr HTE.out.swap hz1 hz0 hlw)
                  have hnz2 : ne = false ∨ (ne = true ∧ (z == 0) = false) := by
                    cases ne
                    · exact .inl rfl
                    · refine .inr ⟨rfl, ?_⟩
                      rw [beq_eq_false_iff_ne]
                      exact fun h => hnz ⟨rfl, h⟩
                  clear hw1 hnz hlw
                  rcases hnz2 with rfl | ⟨rfl, hnz3⟩
                  · go_wp2_with fail
                    refine HA27.out.mono ?_
                    rintro r w5 ⟨v5, rfl, ht5, hb5⟩
                    have HT4 : Hid (Two w5 B e4 (uniL P sh (k + 1)) v5 (wantL false P (k + 1)).1) := by rw [HW1.out]; exact ht5.swap
                    have HC4 : Hid (false = (wantL false P (k + 1)).2) := by rw [HW1.out]; rfl
                    have HB5 : Hid (Below B w2 w5) := HBE.out.trans hb5
                    clear ht5 hb5
                    go_wp2
                    go_roundw
                    case rel =>
                      first
                        | exact ⟨k + 1, false, _, _, by omega, by go_num, rfl, rfl, rfl, HC4, HT4, HB5⟩
                        | ((repeat apply Exists.intro); refine ⟨⟨k + 1, false, _, _, by omega, by go_num, rfl, rfl, rfl, HC4, HT4, HB5⟩, ?_⟩; repeat (first | rfl | refine ⟨rfl, ?_⟩))
                    case measure => simp [intOf]; omega
                  · go_wp2_with fail
                    refine HA27.out.mono ?_
                    rintro r w5 ⟨v5, rfl, ht5, hb5⟩
                    have HT4 : Hid (Two w5 B e4 (uniL P sh (k + 1)) v5 (wantL true P (k + 1)).1) := by rw [HW1.out]; exact ht5.swap
                    have HC4 : Hid (false = (wantL true P (k + 1)).2) := by rw [HW1.out]; rfl
                    have HB5 : Hid (Below B w2 w5) := HBE.out.trans hb5
                    clear ht5 hb5
                    go_wp2
                    go_roundw
                    case rel =>
                      first
                        | exact ⟨k + 1, false, _, _, by omega, by go_num, rfl, rfl, rfl, HC4, HT4, HB5⟩
                        | ((repeat apply Exists.intro); refine ⟨⟨k + 1, false, _, _, by omega, by go_num, rfl, rfl, rfl, HC4, HT4, HB5⟩, ?_⟩; repeat (first | rfl | refine ⟨rfl, ?_⟩))
                    case measure => simp [intOf]; omega
              · have hw1 : wantL ne P (k + 1) = ((wantL ne P k).1, true) := by
                  show (if ((wantL ne P k).2 || (ne && decide (P k = 0))) = true then _ else _) = _
                  rw [← HCB.out]; rfl
                have HT4 : Hid (Two wr B e4 (uniL P sh (k + 1)) v (wantL ne P (k + 1)).1) := by rw [hw1]; exact HTE.out
                have HC4 : Hid (true = (wantL ne P (k + 1)).2) := by rw [hw1]; rfl
                clear hw1 HTE
                cases ne
                · go_wp2
                  go_roundw
                  case rel =>
                    first
                      | exact ⟨k + 1, true, _, _, by omega, by go_num, rfl, rfl, rfl, HC4, HT4, HBE⟩
                      | ((repeat apply Exists.intro); refine ⟨⟨k + 1, true, _, _, by omega, by go_num, rfl, rfl, rfl, HC4, HT4, HBE⟩, ?_⟩; repeat (first | rfl | refine ⟨rfl, ?_⟩))
                  case measure => simp [intOf]; omega
                · by_cases hz9 : z = 0
                  · subst hz9
                    go_wp2
                    go_roundw
                    case rel =>
                      first
                        | exact ⟨k + 1, true, _, _, by omega, by go_num, rfl, rfl, rfl, HC4, HT4, HBE⟩
                        | ((repeat apply Exists.intro); refine ⟨⟨k + 1, true, _, _, by omega, by go_num, rfl, rfl, rfl, HC4, HT4, HBE⟩, ?_⟩; repeat (first | rfl | refine ⟨rfl, ?_⟩))
                    case measure => simp [intOf]; omega
                  · have hz8 : (z == 0) = false := by rw [beq_eq_false_iff_ne]; exact hz9
                    clear hz9
                    go_wp2
                    go_roundw
                    case rel =>
                      first
                        | exact ⟨k + 1, true, _, _, by omega, by go_num, rfl, rfl, rfl, HC4, HT4, HBE⟩
                        | ((repeat apply Exists.intro); refine ⟨⟨k + 1, true, _, _, by omega, by go_num, rfl, rfl, rfl, HC4, HT4, HBE⟩, ?_⟩; repeat (first | rfl | refine ⟨rfl, ?_⟩))
                    case measure => simp [intOf]; omega
        · subst hs1
          go_wp2_with (at_builtin; refine wpList_append_two rfl (.tmp 105) (.tmp 106) rfl B e v _ _ rfl (HT.out.alloc _) ⟨wr.heap.size, 0, none⟩ 2 [92, 85] 2 rfl [.int .u8 92, .int .u8 85] rfl rfl (cells_new _ _ _ _ rfl) (by have := HUL.out; omega) ?_; intro e3 w3 hT3 hB3)
          have HT3 := hide hT3
          have HB3 := hide ((HBr.out.alloc HT.out.bs _).trans hB3)
          clear hT3 hB3 HBr hcz
          go_loopw [24, 30] (fun s24 s wi => ∃ (t : Nat) (y : Int) (e4 : Value), t ≤ 8 ∧ e4 = s24 ∧ s = .int .i64 y ∧ Hid (y = 28 - 4 * (t : Int)) ∧ Hid (Two wi B e4 (uniL P sh k ++ [92, 85] ++ digsTo (P k) 8 t) v (wantL ne P k).1) ∧ Hid (Below B w2 wi)) (fun _ s _ => (intOf s + 4).toNat)
          case atStart => exact ⟨0, 28, e3, by omega, rfl, rfl, rfl, (by rw [show digsTo (P k) 8 0 = [] from rfl, List.append_nil]; exact HT3.out), HB3.out⟩
          case round =>
            obtain ⟨t, y, e4, ht, rfl, rfl, HY, HTi, HBi⟩ := hrel
            clear HT3 HB3 HT
            have HLi := hide (show (uniL P sh k ++ [92, 85] ++ digsTo (P k) 8 t).length ≤ 900000 by simp only [List.length_append, digsTo_len, List.length_cons, List.length_nil]; have := HUL.out; omega)
            by_cases htw : t < 8
            · have hy0 : 0 ≤ y := by have := HY.out; omega
              have hy1 : y ≤ 28 := by have := HY.out; omega
              obtain ⟨c, hc⟩ : ∃ c, c = hexc (P k / 16 ^ (8 - 1 - t) % 16) false := ⟨_, rfl⟩
              have hcb : c < 256 := by have := hexc_bd (P k / 16 ^ (8 - 1 - t) % 16) false (Nat.mod_lt _ (by decide)); omega
              have HTs : Hid (uniL P sh k ++ [92, 85] ++ digsTo (P k) 8 (t + 1) = uniL P sh k ++ [92, 85] ++ digsTo (P k) 8 t ++ [c.toUInt8]) := by
                rw [digsTo_succ, hc, ← List.append_assoc]
                rfl
              have HX := hide (hexC (z / 2 ^ y.toNat % 256) c wr (Int.emod_nonneg _ (by decide)) (Int.emod_lt_of_pos _ (by decide)) (by rw [hc, shiftDig (P k) z y 8 t HZ.out.symm htw (by have := HY.out; omega)]))
              clear hc
              go_wp2_with fail
              refine HX.out.mono ?_
              rintro r w' ⟨rfl, rfl⟩
              go_wp2_with (at_builtin; refine wpList_append_two rfl (.tmp 112) (.tmp 119) rfl B e4 v _ _ rfl (HTi.out.alloc _) ⟨wr.heap.size, 0, none⟩ 1 [c.toUInt8] 1 rfl [.int .u8 (c : Int)] rfl (by simp only [Lib.byteCells, List.map_cons, List.map_nil]; rw [cell8 c hcb]) (cells_new _ _ _ _ rfl) (by have := HLi.out; omega) ?_; intro e5 w5 hT5 hB5)
              have HT5 : Hid (Two w5 B e5 (uniL P sh k ++ [92, 85] ++ digsTo (P k) 8 (t + 1)) v (wantL ne P k).1) := by rw [HTs.out]; exact hT5
              have HB5 : Hid (Below B w2 w5) := (HBi.out.alloc HTi.out.bs _).trans hB5
              have HY5 : Hid (y - 4 = 28 - 4 * ((t + 1 : Nat) : Int)) := by have := HY.out; show _ = _; omega
              clear hT5 hB5 HTs
              go_wp2
              go_roundw
              case rel =>
                first
                  | exact ⟨t + 1, y - 4, e5, by omega, rfl, by go_num, HY5, HT5, HB5⟩
                  | ((repeat apply Exists.intro); refine ⟨⟨t + 1, y - 4, e5, by omega, rfl, by go_num, HY5, HT5, HB5⟩, ?_⟩; repeat (first | rfl | refine ⟨rfl, ?_⟩))
              case measure => simp [intOf]; omega
            · obtain rfl : t = 8 := by omega
              obtain rfl : y = -4 := by have := HY.out; omega
              have HTE : Hid (Two wr B e4 (uniL P sh (k + 1)) v (wantL ne P k).1) := by
                show Two wr B e4 (uniL P sh k ++ piece (P k) (sh k)) v (wantL ne P k).1
                rw [HSk.out]
                have := HTi.out
                rw [List.append_assoc] at this
                exact this
              have HBE := hide HBi.out
              clear HTi HBi HY htw ht HLi
              cases cb
              · by_cases hnz : ne = true ∧ z = 0
                · obtain ⟨rfl, rfl⟩ := hnz
                  have hw1 : wantL true P (k + 1) = ((wantL true P k).1, true) := wantL_cut true P k rfl (by have := HZ.out; omega) (k + 1) (by omega)
                  have HT4 : Hid (Two wr B e4 (uniL P sh (k + 1)) v (wantL true P (k + 1)).1) := by rw [hw1]; exact HTE.out
                  have HC4 : Hid (true = (wantL true P (k + 1)).2) := by rw [hw1]; rfl
                  clear hw1 HTE
                  go_wp2
                  go_roundw
                  case rel =>
                    first
                      | exact ⟨k + 1, true, _, _, by omega, by go_num, rfl, rfl, rfl, HC4, HT4, HBE⟩
                      | ((repeat apply Exists.intro); refine ⟨⟨k + 1, true, _, _, by omega, by go_num, rfl, rfl, rfl, HC4, HT4, HBE⟩, ?_⟩; repeat (first | rfl | refine ⟨rfl, ?_⟩))
                  case measure => simp [intOf]; omega
                · have hw1 : wantL ne P (k + 1) = ((wantL ne P k).1 ++ Lib.encodeRune (P k), false) := wantL_go ne P k HCB.out.symm (fun h => hnz ⟨h.1, by have := HZ.out; omega⟩)
                  rw [HZ.out] at hw1
                  have HW1 := hide hw1
                  have hlw : (wantL ne P k).1.length ≤ 3000000 := by have := wantL_len ne P k; omega
                  have HA27 := hide (appendUTF8_any B z v e4 _ _ wr HTE.out.swap hz1 hz0 hlw)
                  have hnz2 : ne = false ∨ (ne = true ∧ (z == 0) = false) := by
                    cases ne
                    · exact .inl rfl
                    · refine .inr ⟨rfl, ?_⟩
                      rw [beq_eq_false_iff_ne]
                      exact fun h => hnz ⟨rfl, h⟩
                  clear hw1 hnz hlw
                  rcases hnz2 with rfl | ⟨rfl, hnz3⟩
                  · go_wp2_with fail
                    refine HA27.out.mono ?_
                    rintro r w5 ⟨v5, rfl, ht5, hb5⟩
                    have HT4 : Hid (Two w5 B e4 (uniL P sh (k + 1)) v5 (wantL false P (k + 1)).1) := by rw [HW1.out]; exact ht5.swap
                    have HC4 : Hid (false = (wantL false P (k + 1)).2) := by rw [HW1.out]; rfl
                    have HB5 : Hid (Below B w2 w5) := HBE.out.trans hb5
                    clear ht5 hb5
                    go_wp2
                    go_roundw
                    case rel =>
                      first
                        | exact ⟨k + 1, false, _, _, by omega, by go_num, rfl, rfl, rfl, HC4, HT4, HB5⟩
                        | ((repeat apply Exists.intro); refine ⟨⟨k + 1, false, _, _, by omega, by go_num, rfl, rfl, rfl, HC4, HT4, HB5⟩, ?_⟩; repeat (first | rfl | refine ⟨rfl, ?_⟩))
                    case measure => simp [intOf]; omega
                  · go_wp2_with fail
                    refine HA27.out.mono ?_
                    rintro r w5 ⟨v5, rfl, ht5, hb5⟩
                    have HT4 : Hid (Two w5 B e4 (uniL P sh (k + 1)) v5 (wantL true P (k + 1)).1) := by rw [HW1.out]; exact ht5.swap
                    have HC4 : Hid (false = (wantL true P (k + 1)).2) := by rw [HW1.out]; rfl
                    have HB5 : Hid (Below B w2 w5) := HBE.out.trans hb5
                    clear ht5 hb5
                    go_wp2
                    go_roundw
                    case rel =>
                      first
                        | exact ⟨k + 1, false, _, _, by omega, by go_num, rfl, rfl, rfl, HC4, HT4, HB5⟩
                        | ((repeat apply Exists.intro); refine ⟨⟨k + 1, false, _, _, by omega, by go_num, rfl, rfl, rfl, HC4, HT4, HB5⟩, ?_⟩; repeat (first | rfl | refine ⟨rfl, ?_⟩))
                    case measure => simp [intOf]; omega
              · have hw1 : wantL ne P (k + 1) = ((wantL ne P k).1, true) := by
                  show (if ((wantL ne P k).2 || (ne && decide (P k = 0))) = true then _ else _) = _
                  rw [← HCB.out]; rfl
                have HT4 : Hid (Two wr B e4 (uniL P sh (k + 1)) v (wantL ne P (k + 1)).1) := by rw [hw1]; exact HTE.out
                have HC4 : Hid (true = (wantL ne P (k + 1)).2) := by rw [hw1]; rfl
                clear hw1 HTE
                cases ne
                · go_wp2
                  go_roundw
                  case rel =>
                    first
                      | exact ⟨k + 1, true, _, _, by omega, by go_num, rfl, rfl, rfl, HC4, HT4, HBE⟩
                      | ((repeat apply Exists.intro); refine ⟨⟨k + 1, true, _, _, by omega, by go_num, rfl, rfl, rfl, HC4, HT4, HBE⟩, ?_⟩; repeat (first | rfl | refine ⟨rfl, ?_⟩))
                  case measure => simp [intOf]; omega
                · by_cases hz9 : z = 0
                  · subst hz9
                    go_wp2
                    go_roundw
                    case rel =>
                      first
                        | exact ⟨k + 1, true, _, _, by omega, by go_num, rfl, rfl, rfl, HC4, HT4, HBE⟩
                        | ((repeat apply Exists.intro); refine ⟨⟨k + 1, true, _, _, by omega, by go_num, rfl, rfl, rfl, HC4, HT4, HBE⟩, ?_⟩; repeat (first | rfl | refine ⟨rfl, ?_⟩))
                    case measure => simp [intOf]; omega
                  · have hz8 : (z == 0) = false := by rw [beq_eq_false_iff_ne]; exact hz9
                    clear hz9
                    go_wp2
                    go_roundw
                    case rel =>
                      first
                        | exact ⟨k + 1, true, _, _, by omega, by go_num, rfl, rfl, rfl, HC4, HT4, HBE⟩
                        | ((repeat apply Exists.intro); refine ⟨⟨k + 1, true, _, _, by omega, by go_num, rfl, rfl, rfl, HC4, HT4, HBE⟩, ?_⟩; repeat (first | rfl | refine ⟨rfl, ?_⟩))
                    case measure => simp [intOf]; omega
    · obtain rfl : k = N := by omega
      have hcv := conv_own_any HT.out.a
      obtain ⟨S, hS⟩ : ∃ S : ByteArray, S = ⟨(uniL P sh k).toArray⟩ := ⟨_, rfl⟩
      rw [← hS] at hcv
      have hPb : ∀ i, P i < 4294967296 := fun i => by have h1 := HPf.out i; have h2 := (HF.out i).2; omega
      have henc : UniEnc S k P sh := by
        rw [hS]
        refine uniL_enc P sh k (fun i _ => hPb i) (fun i _ hs => ?_)
        rw [HSh.out i] at hs
        simp at hs
        have := HPf.out i
        omega
      have hlk3 : Look wr r has d := by
        have h2 : Look w2 r has d := HL.out.block (fun b hb => HBel2.out.block b (HL.out.lt b hb))
        exact h2.block (fun b hb => HBr.out.block b (by rw [HBd.out]; exact h2.lt b hb))
      obtain ⟨fl, hfl⟩ : ∃ fl : Fl, fl = ⟨r, has, d, oc, zo, cc, sc, ne⟩ := ⟨_, rfl⟩
      have hwe : WE S fl (wantL ne P k).1 false := by
        intro w' B b E hst
        have := weUni B b E k fl S P sh w' hst henc hA (by rw [hfl]; exact HU1.out) (by rw [hfl]; exact HU2.out)
        rw [show fl.ne = ne from by rw [hfl]] at this
        exact this
      obtain ⟨W, hW⟩ : ∃ W : ByteArray, W = ⟨(wantL ne P k).1.toArray⟩ := ⟨_, rfl⟩
      have hzz : Calls Try.prog 22 #[.string S, .map r, .bool oc, .bool zo, .bool cc, .bool sc, .bool ne] wr fun e w' => e = .returned (.tuple #[.string W, .bool false]) ∧ Below wr.heap.size wr w' := by
        have h22 := zz_any S fl _ false wr (by rw [hfl]; exact hlk3) hwe
        rw [hfl] at h22
        refine h22.mono ?_
        rintro e w' ⟨rfl, hb, _⟩
        exact ⟨by rw [hW], hb⟩
      have HZZ := hide hzz
      have HW := hide hW
      have HBf := hide (HB.out.trans ((HBel2.out.trans (HBr.out.mono (by rw [HBd.out]; exact HBel2.out.size))).mono HB.out.size))
      clear hS henc hlk3 hfl hwe hzz hW hPb
      go_wp2_with fail
      refine HZZ.out.mono ?_
      rintro e w5 ⟨rfl, hb5⟩
      have hcv2 : (convert 31 9 v).run Try.prog w5 = .ok (.string W) w5 := by
        rw [HW.out]; exact conv_own_any (own_below HT.out.b hb5)
      have HB5 := hide (HBf.out.trans (hb5.mono HBf.out.size))
      clear hb5 hcv
      go_wp2
      go_ret
      exact ⟨rfl, HB5.out⟩

end Go.Proofs.Qxb6601022a.Esc
