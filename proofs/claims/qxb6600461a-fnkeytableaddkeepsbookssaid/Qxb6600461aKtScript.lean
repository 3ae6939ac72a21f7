/-
  The walk of zzKeyScript: a fresh table, then the keys in turn.
-/
import Derived.Test.Qxb6600461aKtAdd
import Derived.Deep.LoopGhost
import Derived.Deep.RegionWith
set_option linter.unusedVariables false
set_option linter.unusedSimpArgs false
namespace Go.Proofs.Qxb6600461a.Kt
open Go.RowKit

/-- How many slots the index has behind n keys. -/
def sz (e : Nat) : Nat → Nat
  | 0 => 2 ^ e
  | n + 1 => grow (sz e n) n
theorem sz_pow (e n : Nat) : ∃ k, sz e n = 2 ^ (e + k) := by
  induction n with
  | zero => exact ⟨0, rfl⟩
  | succ n ih =>
    obtain ⟨k, hk⟩ := ih
    simp only [sz, grow]
    split
    · exact ⟨k + 1, by rw [hk, ← Nat.add_assoc, Nat.pow_succ, Nat.mul_comm]⟩
    · exact ⟨k, hk⟩
theorem sz_pos (e n : Nat) : 0 < sz e n := by
  obtain ⟨k, hk⟩ := sz_pow e n
  rw [hk]; exact Nat.two_pow_pos _
theorem sz_34 (e n : Nat) : 4 * n ≤ 3 * sz e n := by
  induction n with
  | zero => omega
  | succ n ih =>
    have := sz_pos e n
    simp only [sz, grow]
    split <;> omega
theorem sz_le (e n : Nat) (he : e ≤ 12) (hn : n ≤ 1024) : sz e n ≤ 4096 := by
  induction n with
  | zero =>
    show 2 ^ e ≤ 2 ^ 12
    exact Nat.pow_le_pow_right (by decide) he
  | succ n ih =>
    have := ih (by omega)
    simp only [sz, grow]
    split <;> omega

/-- A slice of strings that came in. -/
structure StrArg (w : World) (a : Option Addr) (n b o : Nat) (K : Nat → ByteArray) : Prop where
  adr : 0 < n → a = some ⟨b, o, none⟩
  cell : ∀ i, i < n → w.cell? ⟨b, o + i, none⟩ = some (.string (K i))
/-- A slice of uint64 that came in. -/
structure U64Arg (w : World) (a : Option Addr) (n b o : Nat) (hs : Nat → Nat) : Prop where
  adr : 0 < n → a = some ⟨b, o, none⟩
  cell : ∀ i, i < n → w.cell? ⟨b, o + i, none⟩ = some (.int .u64 ((hs i : Nat) : Int))
  bd : ∀ i, hs i < 18446744073709551616
def strs (K : Nat → ByteArray) (n : Nat) : List Value := (List.range n).map fun i => .string (K i)
theorem strs_succ (K : Nat → ByteArray) (n : Nat) : strs K (n + 1) = strs K n ++ [.string (K n)] := by simp [strs, List.range_succ]

set_option maxHeartbeats 1000000 in
theorem newTable_any (M per : Nat) (own : Bool) (hs : Nat → Nat) (w : World) (hM2 : M ≤ 4096) :
    Calls Try.prog 26 #[.int .i64 (M : Int), .bool own] w fun e w' => ∃ T, e = .returned (.pointer (some ⟨T, 0, none⟩)) ∧ Holds w' w.heap.size T M 0 per own [] hs ∧ Below w.heap.size w w' := by
  obtain ⟨i6, hi6, z60, z61, z62⟩ := info_parts info62
  go_enter Try.func26, Try.ntmps26
  go_wp2_with (at_make; refine wpList_make_full _ rfl _ _ 57 rfl w.heap.size 62 i6 _ 2 Try.underlying57 hi6 z60 z61 .i64 .i64 _ _ M rfl rfl rfl rfl (by rw [z62]; omega) (by unfold maxLen; omega) (Nat.le_refl _) ?_; intro w1 hown hg)
  have hS1 : Slots w1 w.heap.size M (fun _ => 0) (fun _ => 0) := Slots.made hown
  have hlt : w.heap.size < w1.heap.size := hS1.lt
  have hB1 : Below w.heap.size w w1 := (Below.refl _ _).grown hg (Nat.le_refl _) (fun j hj => by cases hj)
  clear hown hg
  go_ret
  refine ⟨_, rfl, ⟨w.heap.size, _, _, none, none, none, 0, 0, 0, ⟨⟨?_, Nat.le_of_lt hlt, Nat.le_refl _, hS1.block (Below.heap_alloc _ _ _ hlt)⟩, World.ownsRow_nil _ _ _ _, ?_, ?_⟩, TI.start M hs⟩, hB1.alloc (Nat.le_of_lt hlt) _⟩
  · have h0 : rlen own 0 = 0 := by cases own <;> rfl
    rw [Nat.zero_mul, h0]; exact heap_alloc_new w1 _
  · rw [Nat.zero_mul]; exact World.ownsRow_nil _ _ _ _
  · have : rlen own 0 = 0 := by cases own <;> rfl
    rw [this]; exact World.ownsRow_nil _ _ _ _

theorem Holds.drew {w : World} {B T M n per : Nat} {own : Bool} {ks : List Value} {hs : Nat → Nat} (h : Holds w B T M n per own ks hs) : Holds w.drew B T M n per own ks hs := by
  obtain ⟨S, H, A, ka, ba, ra, kc, bc, rc, k, i⟩ := h
  exact ⟨S, H, A, ka, ba, ra, kc, bc, rc, ⟨k.tab.drew, k.kr.drew, k.br.drew, k.rr.drew⟩, i⟩

set_option maxHeartbeats 1000000 in
theorem script_any (c e nk nh kb ko hb ho kc hc : Nat) (own : Bool) (ka ha : Option Addr) (K : Nat → ByteArray) (hs : Nat → Nat) (nn : Int) (w : World) (he : e ≤ 12) (hk : StrArg w ka nk kb ko K) (hh : U64Arg w ha nh hb ho hs) (hnk : nk ≤ 1024) (hnh : nh ≤ 131072) (hnn : nn ≤ 65536) (hcm : c = min nk nh) (hb2 : c * nn.toNat ≤ 65536) :
    Calls Try.prog 18 #[.int .u8 (e : Int), .bool own, .slice ka nk kc, .slice ha nh hc, .int .i64 nn] w fun r w' => ∃ T, r = .returned (.tuple #[.pointer (some ⟨T, 0, none⟩), .int .i64 ((c : Nat) : Int), .bool true]) ∧
      Holds w' w.heap.size T (sz e c) c nn.toNat own (strs K c) hs ∧ Below w.heap.size w w' := by
  have hp2 : wrap64 ((2 : Int) ^ e) = ((2 ^ e : Nat) : Int) := by
    have h1 : 2 ^ e ≤ 2 ^ 12 := Nat.pow_le_pow_right (by decide) he
    have h2 : ((2 ^ e : Nat) : Int) = (2 : Int) ^ e := by simp
    rw [← h2]
    generalize 2 ^ e = q at h1 ⊢
    exact IntWalk.wrap64_in _ ⟨by omega, by omega⟩
  have hM0 : 2 ^ e ≤ 4096 := Nat.pow_le_pow_right (n := 2) (by decide) he
  have HP2 := hide hp2
  have HM0 := hide hM0
  have HK := hide hk
  have HH := hide hh
  have HB := hide hb2
  have hc1 : c ≤ nk := by omega
  have hc2 : c ≤ nh := by omega
  have HCM := hide hcm
  clear hp2 hM0 hk hh hb2 hcm
  go_enter Try.func18, Try.ntmps18
  go_upto_if 21 with fail
  go_cut [13] from 16 (fun s wx => s = .int .i64 ((c : Nat) : Int) ∧ wx = w)
  case first =>
    by_cases hlt : nh < nk
    · have hmn : c = nh := by have := HCM.out; omega
      have HMN := hide hmn
      clear hmn
      go_wp2
      go_meet
      case rel => rw [HMN.out]; exact ⟨rfl, rfl⟩
    · have hmn : c = nk := by have := HCM.out; omega
      have HMN := hide hmn
      clear hmn
      go_wp2
      go_meet
      case rel => rw [HMN.out]; exact ⟨rfl, rfl⟩
  case rest =>
    obtain ⟨rfl, rfl⟩ := hcut
    go_wp2_with fail
    rw [HP2.out]
    refine (newTable_any (2 ^ e) nn.toNat own hs _ HM0.out).mono ?_
    rintro r w1 ⟨T, rfl, hT, hbel⟩
    have HT := hide hT
    clear hT
    go_wp2_with fail
    go_loopg [15] c (fun g i wr => ∃ k : Nat, k + g = c ∧ i = .int .i64 k ∧ Hid (Holds wr wc.heap.size T (sz e k) k nn.toNat own (strs K k) hs) ∧ Hid (Below wc.heap.size wc wr))
    case atStart => exact ⟨0, by omega, rfl, HT.out, hbel⟩
    case round =>
      obtain ⟨k, hkc, rfl, HHo, HBe⟩ := hrel
      by_cases hlt : k < c
      · have hck : wr.cell? ⟨kb, ko + k, none⟩ = some (.string (K k)) := by
          have := HK.out.cell k (by omega)
          exact (HBe.out.cell (cell_lt this)).trans this
        have hch : wr.cell? ⟨hb, ho + k, none⟩ = some (.int .u64 ((hs k : Nat) : Int)) := by
          have := HH.out.cell k (by omega)
          exact (HBe.out.cell (cell_lt this)).trans this
        obtain rfl := HK.out.adr (by omega)
        obtain rfl := HH.out.adr (by omega)
        go_upto_region 8 with fail
        go_cut [45] from 28 to 47 (fun s wx => s = .bool false ∧ Hid (Holds wx wc.heap.size T (sz e (k + 1)) (k + 1) nn.toNat own (strs K (k + 1)) hs) ∧ Hid (Below wc.heap.size wc wx))
        case first =>
          obtain ⟨m, hm⟩ := sz_pow e k
          have hs34 := sz_34 e k
          have hszl := sz_le e k he (by omega)
          have hbb : (k + 1) * nn.toNat ≤ 65536 := Nat.le_trans (Nat.mul_le_mul_right _ (by omega)) HB.out
          have HC := hide (fun (wx : World) (hx : Holds wx wc.heap.size T (sz e k) k nn.toNat own (strs K k) hs) => zzAdd_any wc.heap.size T (sz e k) (e + m) k nn.toNat hs own (strs K k) (K k) nn wx hm hszl (by omega) rfl hnn hbb (HH.out.bd k) hs34 hx)
          clear hm hs34 hszl hbb
          go_region_with (go_at_call 27; refine (HC.out _ ?_).mono ?_; exact HHo.out.drew; rintro r w2 ⟨rfl, hh2, hb2⟩)
          all_goals
            have hfin : Hid (Holds w2 wc.heap.size T (sz e (k + 1)) (k + 1) nn.toNat own (strs K (k + 1)) hs) := by rw [strs_succ]; exact hh2
            have hfin2 : Hid (Below wc.heap.size wc w2) := HBe.out.drew.trans hb2
            clear hh2 hb2
            go_wp2_with fail
            go_meet
            case rel => exact ⟨rfl, hfin, hfin2⟩
        case rest =>
          obtain ⟨rfl, HHo2, HBe2⟩ := hcut
          go_wp2
          go_roundg (c - (k + 1))
          case measure => omega
          case rel => exact ⟨k + 1, by omega, by go_num, HHo2, HBe2⟩
      · obtain rfl : k = c := by omega
        go_wp2
        go_ret3
        exact ⟨T, rfl, HHo.out, HBe.out⟩

end Go.Proofs.Qxb6600461a.Kt
