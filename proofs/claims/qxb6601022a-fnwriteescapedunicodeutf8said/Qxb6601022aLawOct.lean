/-
  The walk of the law FnWriteEscapedOctalRoundTrip.
-/
import Derived.Test.Qxb6601022aEscZZ
import Derived.Test.Qxb6601022aEscOct
set_option linter.unusedVariables false
set_option linter.unusedSimpArgs false
namespace Go.Proofs.Qxb6601022a.Esc
open Go.RowKit

def SomeBool (r : Ending) : Prop := ∃ b : Bool, r = .returned (.bool b)

theorem bytes24_any (p ks vs : ByteArray) (zo cc sc ne : Bool) (w : World) (h1 : p.size ≤ 9223372036854775807) (h2 : ks.size ≤ 9223372036854775807) (h3 : vs.size ≤ 9223372036854775807) :
    Calls Try.prog 24 #[.string p, .string ks, .string vs, .bool zo, .bool cc, .bool sc, .bool ne] w fun r w' => SomeBool r ∧ w = w' := by
  go_enter Try.func24, Try.ntmps24
  go_wp2
  all_goals
    go_ret
    exact ⟨⟨_, rfl⟩, rfl⟩

theorem info5 : (Try.prog.info? 5).map (fun i => (i.zero, i.size, i.bytes)) = some (some (.int .u8 0), 1, 1) := by kernel_rfl

theorem cell8 (x : Nat) (h : x < 256) : Value.int .u8 ((x.toUInt8.toNat : Nat) : Int) = .int .u8 (x : Int) := by
  have : x.toUInt8.toNat = x := by simp [Nat.toUInt8, UInt8.toNat_ofNat, Nat.mod_eq_of_lt h]
  rw [this]
/-- The text that the law makes of P 0, .., P (k-1). -/
def octL (P : Nat → Nat) : Nat → List UInt8
  | 0 => []
  | k + 1 => octL P k ++ [92, (48 + P k / 64).toUInt8, (48 + P k / 8 % 8).toUInt8, (48 + P k % 8).toUInt8]
theorem octL_cells (P : Nat → Nat) (k c : Nat) (hc : c = P k) (h : c < 256) : Lib.byteCells (octL P (k + 1)) = Lib.byteCells (octL P k) ++ [.int .u8 92, .int .u8 (48 + (c : Int) / 64), .int .u8 (48 + (c : Int) / 8 % 8), .int .u8 (48 + (c : Int) % 8)] := by
  subst hc
  simp only [octL, Lib.byteCells_append]
  congr 1
  simp only [Lib.byteCells, List.map_cons, List.map_nil]
  rw [cell8 _ (by omega), cell8 _ (by omega), cell8 _ (by omega)]
  rfl
theorem octL_len (P : Nat → Nat) (k : Nat) : (octL P k).length = 4 * k := by
  induction k with
  | zero => rfl
  | succ k ih => simp [octL, ih]; omega

theorem by_list (l : List UInt8) (i : Nat) : by_ ⟨l.toArray⟩ i = (l.getD i 0).toNat := by simp [by_]
theorem octL_at (P : Nat → Nat) (n k : Nat) (hk : k < n) (hb : ∀ j, j < n → P j < 256) :
    ((octL P n).getD (4 * k) 0).toNat = 92 ∧ ((octL P n).getD (4 * k + 1) 0).toNat = 48 + P k / 64 ∧ ((octL P n).getD (4 * k + 2) 0).toNat = 48 + P k / 8 % 8 ∧ ((octL P n).getD (4 * k + 3) 0).toNat = 48 + P k % 8 := by
  induction n with
  | zero => omega
  | succ n ih =>
    have hl := octL_len P n
    simp only [octL]
    by_cases e : k = n
    · subst e
      have hp := hb k (by omega)
      have t8 : ∀ x, x < 256 → x.toUInt8.toNat = x := fun x h => by simp [Nat.toUInt8, UInt8.toNat_ofNat, Nat.mod_eq_of_lt h]
      refine ⟨?_, ?_, ?_, ?_⟩
      · rw [List.getD, List.getElem?_append_right (by omega), hl, Nat.sub_self]; rfl
      · rw [List.getD, List.getElem?_append_right (by omega), hl, show 4 * k + 1 - 4 * k = 1 from by omega]; exact t8 _ (by omega)
      · rw [List.getD, List.getElem?_append_right (by omega), hl, show 4 * k + 2 - 4 * k = 2 from by omega]; exact t8 _ (by omega)
      · rw [List.getD, List.getElem?_append_right (by omega), hl, show 4 * k + 3 - 4 * k = 3 from by omega]; exact t8 _ (by omega)
    · have := ih (by omega) (fun j hj => hb j (by omega))
      simp only [List.getD] at this ⊢
      rw [List.getElem?_append_left (by omega), List.getElem?_append_left (by omega), List.getElem?_append_left (by omega), List.getElem?_append_left (by omega)]
      exact this
theorem octL_enc (P : Nat → Nat) (n : Nat) (hb : ∀ j, j < n → P j < 256) : OctEnc ⟨(octL P n).toArray⟩ n P := by
  have h := fun k hk => octL_at P n k hk hb
  exact ⟨by show (octL P n).toArray.size = _; simp [octL_len], hb, fun k hk => by rw [by_list]; exact (h k hk).1, fun k hk => by rw [by_list]; exact (h k hk).2.1, fun k hk => by rw [by_list]; exact (h k hk).2.2.1, fun k hk => by rw [by_list]; exact (h k hk).2.2.2⟩
theorem bytesTo_by (p : ByteArray) : bytesTo (by_ p) p.size = p.data.toList := by
  apply List.ext_getElem?
  intro i
  have hs : p.data.toList.length = p.size := by simp
  by_cases h : i < p.size
  · have hd : i < p.data.size := h
    simp [bytesTo, h, by_, List.getD, hd]
  · rw [List.getElem?_eq_none (by rw [bytesTo_len]; omega), List.getElem?_eq_none (by omega)]
/-- What comes out, as a string. -/
def outS (ne : Bool) (p : ByteArray) : ByteArray := ⟨(outOf ne (by_ p) p.size).toArray⟩
theorem outS_false (p : ByteArray) : outS false p = p := by
  apply data_eq; show (outOf false (by_ p) p.size).toArray.toList = _
  simp [outOf, bytesTo_by]
theorem outS_true (p : ByteArray) : outS true p = ⟨(cutN p.data.toList).toArray⟩ := by
  apply data_eq; show (outOf true (by_ p) p.size).toArray.toList = _
  simp [outOf, bytesTo_by]

set_option maxRecDepth 100000 in
set_option maxHeartbeats 2000000 in
theorem octLaw (p ks vs : ByteArray) (zo cc sc ne : Bool) (w : World) (h1 : p.size ≤ 9223372036854775807) (h2 : ks.size ≤ 9223372036854775807) (h3 : vs.size ≤ 9223372036854775807) :
    Calls Try.prog 6 #[.string p, .string ks, .string vs, .bool zo, .bool cc, .bool sc, .bool ne] w fun r w' => r = .returned (.bool true) ∧ Below w.heap.size w w' := by
  obtain ⟨i5, hi5, z50, z51, z52⟩ := info_parts info5
  go_enter Try.func6, Try.ntmps6
  go_wp2_with fail
  refine (bytes24_any p ks vs zo cc sc ne w h1 h2 h3).mono ?_
  rintro r w' ⟨⟨b, rfl⟩, rfl⟩
  cases b
  · go_wp2
    go_ret
    exact ⟨rfl, Below.refl _ _⟩
  by_cases hA : p.size ≤ 65536
  rotate_left
  · go_wp2
    go_ret
    exact ⟨rfl, Below.refl _ _⟩
  by_cases hB : ks.size ≤ 65536
  rotate_left
  · go_wp2
    go_ret
    exact ⟨rfl, Below.refl _ _⟩
  by_cases hC : vs.size ≤ 65536
  rotate_left
  · go_wp2
    go_ret
    exact ⟨rfl, Below.refl _ _⟩
  clear h1 h2 h3
  go_wp2_with fail
  refine (escMap_any ks vs w hB hC).mono ?_
  rintro e w1 ⟨r, has, d, rfl, hl, hb1⟩
  have HL := hide hl
  have HB := hide hb1
  clear hl hb1
  go_wp2_with fail
  go_loop [16] (fun s => ∃ q : Nat, s = .int .u8 (q : Int) ∧ 48 ≤ q ∧ q ≤ 52 ∧ Hid (∀ j, 48 + j < q → has (48 + j) = false)) (fun s => 52 - (intOf s).toNat)
  case atStart => exact ⟨48, rfl, by omega, by omega, fun j hj => absurd hj (by omega)⟩
  case round =>
    obtain ⟨q, rfl, hq0, hq1, HQ⟩ := hrel
    by_cases hq : q ≤ 51
    · have hlk := HL.out.run q (by omega)
      cases hh : has q
      · rw [hh] at hlk
        go_wp2
        go_round
        case rel =>
          refine ⟨q + 1, by go_num, by omega, by omega, fun j hj => ?_⟩
          by_cases e : 48 + j = q
          · rw [e]; exact hh
          · exact HQ.out j (by omega)
        case measure => simp [intOf]; omega
      · rw [hh] at hlk
        go_wp2
        go_ret
        exact ⟨rfl, HB.out⟩
    · have hno : ∀ j, j < 4 → has (48 + j) = false := fun j hj => HQ.out j (by omega)
      have HNO := hide hno
      clear hno
      go_wp2_with (at_make; refine wpList_make_own _ rfl _ _ 31 rfl w1.heap.size 5 i5 _ 1 Try.underlying31 hi5 z50 z51 .i64 .i64 _ (4 * p.size) rfl rfl (by omega) (by rw [z52]; omega) (by unfold maxLen; omega) (Nat.le_refl _) ?_; intro w2 hown hg)
      have hB2 : Below w1.heap.size w1 w2 := (Below.refl _ _).grown hg (Nat.le_refl _) (fun j hj => by cases hj)
      have HOwn := hide hown
      have HB2 := hide hB2
      clear hown hg hB2 HQ hq hq0 hq1
      go_loopw [19, 20, 21] (fun v i _ wr => ∃ (k m g cap : Nat), k ≤ p.size ∧ i = .int .i64 (k : Int) ∧ v = .slice (some ⟨g, 0, none⟩) m cap ∧ m ≤ 262144 ∧ Hid (m = 4 * k) ∧ Hid (wr.ownsRow w1.heap.size 5 1 (.slice (some ⟨g, 0, none⟩) m cap) m (Lib.byteCells (octL (by_ p) k))) ∧ Hid (Below w1.heap.size w1 wr)) (fun _ i _ _ => p.size - (intOf i).toNat)
      case atStart => exact ⟨0, 0, w1.heap.size, 4 * p.size, Nat.zero_le _, rfl, rfl, by omega, rfl, HOwn.out, HB2.out⟩
      case round =>
        obtain ⟨k, m, g, cap, hk, rfl, rfl, hm, HM, HO, HBr⟩ := hrel
        clear HOwn HB2
        by_cases hlt : k < p.size
        · have hb := by_at p k hlt
          have hc := by_lt p k
          obtain ⟨c, hcd⟩ : ∃ c, c = by_ p k := ⟨_, rfl⟩
          rw [← hcd] at hb hc
          have HC := hide hcd
          clear hcd
          have hmm : m + 4 ≤ 262144 := by have := HM.out; omega
          go_wp2_with (at_builtin; refine wpList_append_some rfl (.tmp 74) (.tmp 85) 31 rfl w1.heap.size 5 i5 _ 1 1 Try.underlying31 hi5 z50 z51 z52 rfl (by decide) (.slice (some ⟨g, 0, none⟩) m cap) m _ rfl (HO.out.alloc _) ⟨wr.heap.size, 0, none⟩ 4 4 [.int .u8 92, .int .u8 (48 + (c : Int) / 64), .int .u8 (48 + (c : Int) / 8 % 8), .int .u8 (48 + (c : Int) % 8)] rfl rfl (cells_new _ _ _ _ rfl) (by simp [Value.oneCell']) (by unfold maxLen; omega) (by omega) (by have := HBr.out.size; simp; omega) (by omega) ?_; intro g3 cap3 w3 hown3 hg3)
          have hO3 : Hid (w3.ownsRow w1.heap.size 5 1 (.slice (some ⟨g3, 0, none⟩) (m + 4) cap3) (m + 4) (Lib.byteCells (octL (by_ p) (k + 1)))) := by
            rw [octL_cells (by_ p) k c HC.out hc]; exact hown3
          have hB3 : Hid (Below w1.heap.size w1 w3) := below_append (HBr.out.alloc HBr.out.size _) (by have := HBr.out.size; simp; omega) (HO.out.alloc _) hg3
          clear hown3 hg3
          go_wp2
          go_roundw
          case rel =>
            first
              | exact ⟨k + 1, m + 4, g3, cap3, by omega, by go_num, rfl, by omega, (show _ = _ by rw [HM.out]; omega), hO3, hB3⟩
              | ((repeat apply Exists.intro); refine ⟨⟨k + 1, m + 4, g3, cap3, by omega, by go_num, rfl, by omega, (show _ = _ by rw [HM.out]; omega), hO3, hB3⟩, ?_⟩; repeat (first | rfl | refine ⟨rfl, ?_⟩))
          case measure => simp [intOf]; omega
        · obtain rfl : k = p.size := by omega
          have hcv := conv_own HO.out
          obtain ⟨S, hS⟩ : ∃ S : ByteArray, S = ⟨(octL (by_ p) p.size).toArray⟩ := ⟨_, rfl⟩
          rw [← hS] at hcv
          have henc : OctEnc S p.size (by_ p) := by rw [hS]; exact octL_enc (by_ p) p.size (fun j _ => by_lt p j)
          have hlk2 : Look wr r has d := HL.out.block (fun b hb => HBr.out.block b (HL.out.lt b hb))
          obtain ⟨f, hf⟩ : ∃ f : Fl, f = ⟨r, has, d, true, zo, cc, sc, ne⟩ := ⟨_, rfl⟩
          have hwe : WE S f (outOf ne (by_ p) p.size) false := by
            intro w' B b E hst
            have := weOct B b E p.size f S (by_ p) w' hst henc hA (by rw [hf]) (by rw [hf]; exact HNO.out)
            rw [show f.ne = ne from by rw [hf]] at this
            exact this
          have hzz : Calls Try.prog 22 #[.string S, .map r, .bool true, .bool zo, .bool cc, .bool sc, .bool ne] wr fun e w' => e = .returned (.tuple #[.string (outS ne p), .bool false]) ∧ Below wr.heap.size wr w' := by
            have h22 := zz_any S f _ false wr (by rw [hf]; exact hlk2) hwe
            rw [hf] at h22
            refine h22.mono ?_
            rintro e w' ⟨rfl, hb, _⟩
            exact ⟨rfl, hb⟩
          have HZZ := hide hzz
          have HBf := hide (HB.out.trans (HBr.out.mono HB.out.size))
          clear hS henc hlk2 hf hwe hzz HO HM
          cases ne
          · rw [outS_false] at HZZ
            go_wp2_with fail
            refine HZZ.out.mono ?_
            rintro e w5 ⟨rfl, hb5⟩
            have HB5 := hide (HBf.out.trans (hb5.mono HBf.out.size))
            clear hb5
            go_wp2
            go_ret
            exact ⟨rfl, HB5.out⟩
          · rw [outS_true] at HZZ
            generalize hq : (⟨(cutN p.data.toList).toArray⟩ : ByteArray) = Q at HZZ
            have HBN := hide (fun w => beforeNUL_any p w hA)
            rw [hq] at HBN
            clear hq
            go_wp2_with fail
            refine HZZ.out.mono ?_
            rintro e w5 ⟨rfl, hb5⟩
            have HB5 := hide (HBf.out.trans (hb5.mono HBf.out.size))
            clear hb5
            go_wp2_with fail
            refine (HBN.out _).mono ?_
            rintro e w' ⟨rfl, rfl⟩
            go_wp2
            go_ret
            exact ⟨rfl, HB5.out⟩

end Go.Proofs.Qxb6601022a.Esc
