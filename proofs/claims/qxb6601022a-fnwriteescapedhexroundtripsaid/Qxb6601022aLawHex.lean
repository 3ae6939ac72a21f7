/-
  The walk of the law FnWriteEscapedHexRoundTrip.
-/
import Derived.Test.Qxb6601022aLawOct
import Derived.Test.Qxb6601022aEscHex
set_option linter.unusedVariables false
set_option linter.unusedSimpArgs false
namespace Go.Proofs.Qxb6601022a.Esc
open Go.RowKit

theorem bytes19_any (p : ByteArray) (up : Bool) (ks vs : ByteArray) (oc zo cc sc ne : Bool) (w : World) (h1 : p.size ≤ 9223372036854775807) (h2 : ks.size ≤ 9223372036854775807) (h3 : vs.size ≤ 9223372036854775807) :
    Calls Try.prog 19 #[.string p, .bool up, .string ks, .string vs, .bool oc, .bool zo, .bool cc, .bool sc, .bool ne] w fun r w' => SomeBool r ∧ w = w' := by
  go_enter Try.func19, Try.ntmps19
  go_wp2
  all_goals
    go_ret
    exact ⟨⟨_, rfl⟩, rfl⟩

/-- The text that the law makes of P 0, .., P (k-1). -/
def hexL (P : Nat → Nat) (up : Bool) : Nat → List UInt8
  | 0 => []
  | k + 1 => hexL P up k ++ [92, 120, (hexc (P k / 16) up).toUInt8, (hexc (P k % 16) up).toUInt8]
theorem hexL_cells (P : Nat → Nat) (up : Bool) (k c x y : Nat) (hc : c = P k) (h : c < 256) (hx : x = hexc (c / 16 % 16) up) (hy : y = hexc (c % 16 % 16) up) : Lib.byteCells (hexL P up (k + 1)) = Lib.byteCells (hexL P up k) ++ [.int .u8 92, .int .u8 120, .int .u8 (x : Int), .int .u8 (y : Int)] := by
  subst hc
  subst hx
  subst hy
  have h1 : P k / 16 % 16 = P k / 16 := by omega
  have h2 : P k % 16 % 16 = P k % 16 := by omega
  have b1 := hexc_bd (P k / 16) up (by omega)
  have b2 := hexc_bd (P k % 16) up (by omega)
  rw [h1, h2]
  simp only [hexL, Lib.byteCells_append]
  congr 1
  simp only [Lib.byteCells, List.map_cons, List.map_nil]
  rw [cell8 _ (by omega), cell8 _ (by omega)]
  rfl
theorem hexL_len (P : Nat → Nat) (up : Bool) (k : Nat) : (hexL P up k).length = 4 * k := by
  induction k with
  | zero => rfl
  | succ k ih => simp [hexL, ih]; omega
theorem hexL_at (P : Nat → Nat) (up : Bool) (n k : Nat) (hk : k < n) (hb : ∀ j, j < n → P j < 256) :
    ((hexL P up n).getD (4 * k) 0).toNat = 92 ∧ ((hexL P up n).getD (4 * k + 1) 0).toNat = 120 ∧ ((hexL P up n).getD (4 * k + 2) 0).toNat = hexc (P k / 16) up ∧ ((hexL P up n).getD (4 * k + 3) 0).toNat = hexc (P k % 16) up := by
  induction n with
  | zero => omega
  | succ n ih =>
    have hl := hexL_len P up n
    simp only [hexL]
    by_cases e : k = n
    · subst e
      have hp := hb k (by omega)
      have t8 : ∀ x, x < 256 → x.toUInt8.toNat = x := fun x h => by simp [Nat.toUInt8, UInt8.toNat_ofNat, Nat.mod_eq_of_lt h]
      have b1 := hexc_bd (P k / 16) up (by omega)
      have b2 := hexc_bd (P k % 16) up (by omega)
      refine ⟨?_, ?_, ?_, ?_⟩
      · rw [List.getD, List.getElem?_append_right (by omega), hl, Nat.sub_self]; rfl
      · rw [List.getD, List.getElem?_append_right (by omega), hl, show 4 * k + 1 - 4 * k = 1 from by omega]; rfl
      · rw [List.getD, List.getElem?_append_right (by omega), hl, show 4 * k + 2 - 4 * k = 2 from by omega]; exact t8 _ (by omega)
      · rw [List.getD, List.getElem?_append_right (by omega), hl, show 4 * k + 3 - 4 * k = 3 from by omega]; exact t8 _ (by omega)
    · have := ih (by omega) (fun j hj => hb j (by omega))
      simp only [List.getD] at this ⊢
      rw [List.getElem?_append_left (by omega), List.getElem?_append_left (by omega), List.getElem?_append_left (by omega), List.getElem?_append_left (by omega)]
      exact this
theorem hexL_enc (P : Nat → Nat) (up : Bool) (n : Nat) (hb : ∀ j, j < n → P j < 256) : HexEnc ⟨(hexL P up n).toArray⟩ n P up := by
  have h := fun k hk => hexL_at P up n k hk hb
  exact ⟨by show (hexL P up n).toArray.size = _; simp [hexL_len], hb, fun k hk => by rw [by_list]; exact (h k hk).1, fun k hk => by rw [by_list]; exact (h k hk).2.1, fun k hk => by rw [by_list]; exact (h k hk).2.2.1, fun k hk => by rw [by_list]; exact (h k hk).2.2.2⟩

set_option maxRecDepth 100000 in
set_option maxHeartbeats 2000000 in
theorem hexLaw (p : ByteArray) (up : Bool) (ks vs : ByteArray) (oc zo cc sc ne : Bool) (w : World) (h1 : p.size ≤ 9223372036854775807) (h2 : ks.size ≤ 9223372036854775807) (h3 : vs.size ≤ 9223372036854775807) :
    Calls Try.prog 5 #[.string p, .bool up, .string ks, .string vs, .bool oc, .bool zo, .bool cc, .bool sc, .bool ne] w fun r w' => r = .returned (.bool true) ∧ Below w.heap.size w w' := by
  obtain ⟨i5, hi5, z50, z51, z52⟩ := info_parts info5
  go_enter Try.func5, Try.ntmps5
  go_wp2_with fail
  refine (bytes19_any p up ks vs oc zo cc sc ne w h1 h2 h3).mono ?_
  rintro r w' ⟨⟨b, rfl⟩, rfl⟩
  cases b
  · go_wp2
    go_ret
    exact ⟨rfl, Below.refl _ _⟩
  by_cases hA : p.size ≤ 65536
  rotate_left
  · go_wp2
    go_ret
    exact ⟨rfl, Below.refl _ _⟩
  by_cases hB : ks.size ≤ 65536
  rotate_left
  · go_wp2
    go_ret
    exact ⟨rfl, Below.refl _ _⟩
  by_cases hC : vs.size ≤ 65536
  rotate_left
  · go_wp2
    go_ret
    exact ⟨rfl, Below.refl _ _⟩
  clear h1 h2 h3
  go_wp2_with fail
  refine (escMap_any ks vs w hB hC).mono ?_
  rintro e w1 ⟨r, has, d, rfl, hl, hb1⟩
  have HL := hide hl
  have HB := hide hb1
  have hlk : (Instr.lookup 40 (.map r) (.int .u8 120) true).run Try.prog w1 = .ok (.tuple #[.int .u8 ((d 120 : Nat) : Int), .bool (has 120)]) w1 := hl.run 120 (by decide)
  clear hl hb1
  cases hh : has 120
  rotate_left
  · rw [hh] at hlk
    go_wp2
    go_ret
    exact ⟨rfl, HB.out⟩
  have HNO := hide hh
  rw [hh] at hlk
  clear hh
  go_wp2_with (at_make; refine wpList_make_own _ rfl _ _ 31 rfl w1.heap.size 5 i5 _ 1 Try.underlying31 hi5 z50 z51 .i64 .i64 _ (4 * p.size) rfl rfl (by omega) (by rw [z52]; omega) (by unfold maxLen; omega) (Nat.le_refl _) ?_; intro w2 hown hg)
  have hB2 : Below w1.heap.size w1 w2 := (Below.refl _ _).grown hg (Nat.le_refl _) (fun j hj => by cases hj)
  have HOwn := hide hown
  have HB2 := hide hB2
  clear hown hg hB2 hlk
  go_loopw [22, 23, 24] (fun v i _ wr => ∃ (k m g cap : Nat), k ≤ p.size ∧ i = .int .i64 (k : Int) ∧ v = .slice (some ⟨g, 0, none⟩) m cap ∧ m ≤ 262144 ∧ Hid (m = 4 * k) ∧ Hid (wr.ownsRow w1.heap.size 5 1 (.slice (some ⟨g, 0, none⟩) m cap) m (Lib.byteCells (hexL (by_ p) up k))) ∧ Hid (Below w1.heap.size w1 wr)) (fun _ i _ _ => p.size - (intOf i).toNat)
  case atStart => exact ⟨0, 0, w1.heap.size, 4 * p.size, Nat.zero_le _, rfl, rfl, by omega, rfl, HOwn.out, HB2.out⟩
  case round =>
    obtain ⟨k, m, g, cap, hk, rfl, rfl, hm, HM, HO, HBr⟩ := hrel
    clear HOwn HB2
    by_cases hlt : k < p.size
    · have hb := by_at p k hlt
      have hc := by_lt p k
      obtain ⟨c, hcd⟩ : ∃ c, c = by_ p k := ⟨_, rfl⟩
      rw [← hcd] at hb hc
      have HC := hide hcd
      clear hcd
      have hmm : m + 4 ≤ 262144 := by have := HM.out; omega
      obtain ⟨x, hx⟩ : ∃ x, x = hexc (c / 16 % 16) up := ⟨_, rfl⟩
      obtain ⟨y, hy⟩ : ∃ y, y = hexc (c % 16 % 16) up := ⟨_, rfl⟩
      have h21 := hexDigit_any (c / 16) up wr (by omega)
      have h22 := hexDigit_any (c % 16) up wr (by omega)
      rw [← hx, show ((c / 16 : Nat) : Int) = (c : Int) / 16 from by omega] at h21
      rw [← hy, show ((c % 16 : Nat) : Int) = (c : Int) % 16 from by omega] at h22
      have HX := hide h21
      have HY := hide h22
      have HXe := hide hx
      have HYe := hide hy
      clear h21 h22 hx hy
      go_wp2_with fail
      refine HX.out.mono ?_
      rintro e w' ⟨rfl, rfl⟩
      go_wp2_with fail
      refine HY.out.mono ?_
      rintro e w' ⟨rfl, rfl⟩
      go_wp2_with (at_builtin; refine wpList_append_some rfl (.tmp 74) (.tmp 83) 31 rfl w1.heap.size 5 i5 _ 1 1 Try.underlying31 hi5 z50 z51 z52 rfl (by decide) (.slice (some ⟨g, 0, none⟩) m cap) m _ rfl (HO.out.alloc _) ⟨wr.heap.size, 0, none⟩ 4 4 [.int .u8 92, .int .u8 120, .int .u8 (x : Int), .int .u8 (y : Int)] rfl rfl (cells_new _ _ _ _ rfl) (by simp [Value.oneCell']) (by unfold maxLen; omega) (by omega) (by have := HBr.out.size; simp; omega) (by omega) ?_; intro g3 cap3 w3 hown3 hg3)
      have hO3 : Hid (w3.ownsRow w1.heap.size 5 1 (.slice (some ⟨g3, 0, none⟩) (m + 4) cap3) (m + 4) (Lib.byteCells (hexL (by_ p) up (k + 1)))) := by
        rw [hexL_cells (by_ p) up k c x y HC.out hc HXe.out HYe.out]; exact hown3
      have hB3 : Hid (Below w1.heap.size w1 w3) := below_append (HBr.out.alloc HBr.out.size _) (by have := HBr.out.size; simp; omega) (HO.out.alloc _) hg3
      clear hown3 hg3
      go_wp2
      go_roundw
      case rel =>
        first
          | exact ⟨k + 1, m + 4, g3, cap3, by omega, by go_num, rfl, by omega, (show _ = _ by rw [HM.out]; omega), hO3, hB3⟩
          | ((repeat apply Exists.intro); refine ⟨⟨k + 1, m + 4, g3, cap3, by omega, by go_num, rfl, by omega, (show _ = _ by rw [HM.out]; omega), hO3, hB3⟩, ?_⟩; repeat (first | rfl | refine ⟨rfl, ?_⟩))
      case measure => simp [intOf]; omega
    · obtain rfl : k = p.size := by omega
      have hcv := conv_own HO.out
      obtain ⟨S, hS⟩ : ∃ S : ByteArray, S = ⟨(hexL (by_ p) up p.size).toArray⟩ := ⟨_, rfl⟩
      rw [← hS] at hcv
      have henc : HexEnc S p.size (by_ p) up := by rw [hS]; exact hexL_enc (by_ p) up p.size (fun j _ => by_lt p j)
      have hlk2 : Look wr r has d := HL.out.block (fun b hb => HBr.out.block b (HL.out.lt b hb))
      obtain ⟨f, hf⟩ : ∃ f : Fl, f = ⟨r, has, d, oc, zo, cc, sc, ne⟩ := ⟨_, rfl⟩
      have hwe : WE S f (outOf ne (by_ p) p.size) false := by
        intro w' B b E hst
        have := weHex B b E p.size f S (by_ p) up w' hst henc hA (by rw [hf]; exact HNO.out)
        rw [show f.ne = ne from by rw [hf]] at this
        exact this
      have hzz : Calls Try.prog 22 #[.string S, .map r, .bool oc, .bool zo, .bool cc, .bool sc, .bool ne] wr fun e w' => e = .returned (.tuple #[.string (outS ne p), .bool false]) ∧ Below wr.heap.size wr w' := by
        have h22 := zz_any S f _ false wr (by rw [hf]; exact hlk2) hwe
        rw [hf] at h22
        refine h22.mono ?_
        rintro e w' ⟨rfl, hb, _⟩
        exact ⟨rfl, hb⟩
      have HZZ := hide hzz
      have HBf := hide (HB.out.trans (HBr.out.mono HB.out.size))
      clear hS henc hlk2 hf hwe hzz HO HM
      cases ne
      · rw [outS_false] at HZZ
        go_wp2_with fail
        refine HZZ.out.mono ?_
        rintro e w5 ⟨rfl, hb5⟩
        have HB5 := hide (HBf.out.trans (hb5.mono HBf.out.size))
        clear hb5
        go_wp2
        go_ret
        exact ⟨rfl, HB5.out⟩
      · rw [outS_true] at HZZ
        generalize hq : (⟨(cutN p.data.toList).toArray⟩ : ByteArray) = Q at HZZ
        have HBN := hide (fun w => beforeNUL_any p w hA)
        rw [hq] at HBN
        clear hq
        go_wp2_with fail
        refine HZZ.out.mono ?_
        rintro e w5 ⟨rfl, hb5⟩
        have HB5 := hide (HBf.out.trans (hb5.mono HBf.out.size))
        clear hb5
        go_wp2_with fail
        refine (HBN.out _).mono ?_
        rintro e w' ⟨rfl, rfl⟩
        go_wp2
        go_ret
        exact ⟨rfl, HB5.out⟩

end Go.Proofs.Qxb6601022a.Esc
