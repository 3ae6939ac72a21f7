/-
  The walk of the admit law.
-/
import Derived.Test.Qxb6600461aAdmWalks
import Derived.WalkSpells
import Derived.Laws.CopyOwn
import Derived.Deep.Cut
import Derived.Deep.CutRange
import Derived.OpenShut
namespace Go.Proofs.Qxb6600461a.Adm
open Go.RowKit

theorem cell_lt {w : World} {a : Addr} {v : Value} (h : w.cell? a = some v) : a.block < w.heap.size := by
  rcases Nat.lt_or_ge a.block w.heap.size with h' | h'
  · exact h'
  · simp [World.cell?, Array.getElem?_eq_none h'] at h

theorem row_of_own {w : World} {base : Nat} {e : TypeId} {g N : Nat} {xs : List Value} (h : w.ownsRow base e 1 (.slice (some ⟨g, 0, none⟩) N N) N xs) : w.heap[g]? = some (.cells xs.toArray e (0, 0)) := by
  rcases h.2 with ⟨h', _⟩ | ⟨g', cap', cur, h', _, hg, _, _, hs, ht⟩
  · simp at h'
  · simp only [Value.slice.injEq, Option.some.injEq, Addr.mk.injEq, and_true, true_and] at h'
    obtain ⟨rfl, rfl⟩ := h'
    rw [hg, ← ht, List.take_of_length_le (by simp [hs])]

theorem splice_all {α : Type} (L cs : List α) (h : L.length = cs.length) : splice L 0 cs = cs := by
  unfold splice
  rw [List.drop_eq_nil_of_le (by omega)]
  simp

/-- What the law knows of the slice that came in. -/
def Came (w : World) (a : Option Addr) (len cap : Nat) (zs : List Int) : Prop :=
  (a = none ∧ len = 0 ∧ cap = 0) ∨ ∃ x, a = some x ∧ len ≤ cap ∧ ∀ i, i < len → w.cell? (x.add i) = some (.int .i64 (zs.getD i 0))

set_option maxRecDepth 100000 in
set_option maxHeartbeats 1000000 in
theorem law_any (a0 : Option Addr) (N cap : Nat) (zs : List Int) (n : Int) (take : Bool) (w : World) (h0 : Came w a0 N cap zs) (hcap : N ≤ 9223372036854775807) (hz : ∀ i, -9223372036854775808 ≤ zs.getD i 0 ∧ zs.getD i 0 ≤ 9223372036854775807) (hn : -9223372036854775808 ≤ n ∧ n ≤ 9223372036854775807) :
    Calls Try.prog 5 #[.slice a0 N cap, .int .i64 n, .bool take] w fun e w' => e = .returned (.bool true) ∧ Below w.heap.size w w' := by
  by_cases hN : N ≤ 131072
  · have hN2 : decide (N ≤ 1048576) = true := by simp; omega
    have hnil := fun (w : World) (a : Option Addr) (n c n' c' : Nat) => run_neq_slice_nil_any (P := Try.prog) w 24 3 a n c n' c' Try.underlying24
    obtain ⟨i3, hi3, z30, z31, z32⟩ := info_parts info3
    generalize hf : (fun i => zs.getD i 0) = f
    have hz' : ∀ i, -9223372036854775808 ≤ f i ∧ f i ≤ 9223372036854775807 := by subst hf; exact hz
    have HZ := hide hz'
    have H0 := hide h0
    have HF := hide hf
    clear hz' h0 hf hz
    go_enter Try.func5, Try.ntmps5
    go_upto_if 24 with (go_at_call 13; refine (bytes_any _ _ _ _ _ _ hcap).mono ?_; rintro e w' ⟨rfl, rfl⟩)
    clear hN2
    go_cut [0] from 15 (fun s0 w1 => ∃ a b, s0 = .slice a N N ∧ Hid (0 < N → a = some ⟨b, 0, none⟩) ∧ Hid (0 < N → b < w1.heap.size) ∧ Hid (∀ i, i < N → w1.cell? ⟨b, i, none⟩ = some (.int .i64 (f i))) ∧ Below w.heap.size w w1)
    case first =>
      have HN := hide hN
      clear hN
      rcases H0.out with ⟨rfl, rfl, rfl⟩ | ⟨x, rfl, hle, hc⟩
      · go_wp2
        go_meet
        case rel => exact ⟨none, 0, rfl, (fun h => absurd h (by omega)), (fun h => absurd h (by omega)), (fun i h => absurd h (by omega)), Below.refl _ _⟩
      · have hN := HN.out
        have HC := hide hc
        clear hc
        obtain ⟨cs, hcs⟩ : ∃ cs : List Value, cs = (List.range N).map (fun i => .int .i64 (f i)) := ⟨_, rfl⟩
        have hcl : cs.length = N := by rw [hcs]; simp
        have hc1 : ∀ v ∈ cs, v.oneCell' = true := by rw [hcs]; intro v hv; simp at hv; obtain ⟨i, _, rfl⟩ := hv; rfl
        have hcv : ∀ j v, cs[j]? = some v → j < N ∧ v = .int .i64 (f j) := by
          intro j v hj
          have hj' : j < N := by have := (List.getElem?_eq_some_iff.1 hj).1; omega
          rw [hcs, List.getElem?_map, List.getElem?_range hj'] at hj
          exact ⟨hj', by simpa using hj.symm⟩
        have HCS := hide hcs
        have HCL := hide hcl
        have HCV := hide hcv
        clear hcs hcl hcv
        go_wp2_with (first
          | (at_make; refine wpList_make_full _ rfl _ _ 24 rfl w.heap.size 3 i3 _ 1 Try.underlying24 hi3 z30 z31 .i64 .i64 _ _ N rfl rfl rfl rfl (by rw [z32]; omega) (by unfold maxLen; omega) (Nat.le_refl _) ?_; intro w1 hown hg)
          | (refine wpList_copy_splice rfl (.tmp 28) (.tmp 29) 24 24 rfl 3 Try.underlying24 (by rw [hi3]; simp [z31]) _ _ _ _ _ _ rfl rfl w.heap.size 0 _ 3 (row_of_own hown) cs ?q1 ?q2 ?q3 hc1 w.heap.size w ((Below.refl _ _).grown hg (Nat.le_refl _) (fun j hj => by cases hj)) (Nat.le_refl _) ?_))
        · rw [HCL.out]; exact (Nat.min_self N).symm
        · intro _ j v hj
          obtain ⟨hjN, rfl⟩ := HCV.out j v hj
          have hcw := HC.out j hjN
          rw [((Below.refl _ _).grown hg (Nat.le_refl _) (fun j hj => by cases hj) : Below w.heap.size w w1).cell (cell_lt hcw), hcw, ← HF.out]
        · rw [HCL.out]; simp [madeCells]
        · intro w3 hrow hbel
          have hrow2 : w3.heap[w.heap.size]? = some (.cells cs.toArray 3 (0, 0)) := by
            rw [← splice_all (madeCells #[Value.int .i64 0] N).toList cs (by rw [HCL.out]; simp [madeCells])]; exact hrow.out
          have HR := hide hrow2
          clear hrow2 hrow hown hg
          go_wp2
          go_meet
          case rel =>
            refine ⟨_, w.heap.size, rfl, fun _ => rfl, fun _ => ?_, fun i hi => ?_, hbel⟩
            · rcases Nat.lt_or_ge w.heap.size w3.heap.size with h' | h'
              · exact h'
              · have := HR.out; rw [Array.getElem?_eq_none h'] at this; cases this
            · rw [cell_of_row w3 w.heap.size i _ 3 (0, 0) HR.out, HCS.out]
              simp [hi]
    case rest =>
      obtain ⟨a, b, rfl, HA, HB, HC, hbel⟩ := hcut
      clear H0 HF
      go_upto_region 11 with (go_at_call 14; refine (zzAdmit_any a b N N f n take _ hN hn HZ.out HA.out HB.out HC.out).mono ?_; rintro e w2 ⟨b', rfl, hI, hb', hbel2⟩)
      have hcT : ∀ i, i < N → w2.cell? ⟨b, i, none⟩ = some (.int .i64 (f i)) := fun i hi => (hbel2.cell (p := ⟨b, i, none⟩) (HB.out (by omega))).trans (HC.out i hi)
      have hfin : Below w.heap.size w w2 := hbel.trans (hbel2.mono hbel.size)
      have HT := hide hcT
      have HI := hide hI
      clear hcT hI hb' hbel2 hbel HB HC
      go_cut [10, 46] from 15 (fun s10 s wx => s10 = .bool (decide (1 ≤ n)) ∧ s = .bool (decide (1 ≤ n ∧ 0 < N)) ∧ wx = w2)
      case first =>
        by_cases hn1 : 1 ≤ n
        · go_wp2
          go_meet
          case rel => exact ⟨by simp [hn1], by simp [hn1], rfl⟩
        · go_wp2
          go_meet
          case rel => exact ⟨by simp [hn1], by simp; omega, rfl⟩
      case rest =>
        obtain ⟨rfl, rfl, rfl⟩ := hcut
        go_upto_if 46 with fail
        go_cut [10, 11, 12] from 15 (fun s10 _ _ wx => s10 = .bool (okTo n f N) ∧ wx = wc)
        case first =>
          by_cases hn1 : 1 ≤ n ∧ 0 < N
          · obtain ⟨hn1, hN1⟩ := hn1
            obtain rfl := HA.out hN1
            have hc0 := HT.out 0 hN1
            go_wp2
            go_loop [11, 12] (fun m i => ∃ (k : Nat) (z : Int), 1 ≤ k ∧ k ≤ N ∧ i = .int .i64 k ∧ m = .int .i64 z ∧ Hid (Least f k z)) (fun _ i => N - (intOf i).toNat)
            case atStart => exact ⟨1, f 0, by omega, by omega, rfl, rfl, Least_one f⟩
            case round =>
              obtain ⟨k, z, hk1, hk, rfl, rfl, HL⟩ := hrel
              clear hc0
              by_cases hlt : k < N
              · have hc := HT.out k hlt
                go_wp2
                · go_round
                  case rel => exact ⟨k + 1, f k, by omega, by omega, by go_num, rfl, Least_lt HL.out (by assumption)⟩
                  case measure => simp [intOf]; omega
                · go_round
                  case rel => exact ⟨k + 1, z, by omega, by omega, by go_num, rfl, Least_ge HL.out (by omega)⟩
                  case measure => simp [intOf]; omega
              · obtain rfl : k = N := by omega
                go_wp2
                go_meet
                case rel => exact ⟨by rw [Least_ok HL.out hn1], rfl⟩
          · have hfin2 : decide (1 ≤ n) = okTo n f N := by
              by_cases h1 : 1 ≤ n
              · obtain rfl : N = 0 := by omega
                rw [okTo_zero]
              · simp [okTo, h1]
            have HN1 := hide hfin2
            clear hfin2
            go_wp2
            go_meet
            case rel => exact ⟨by rw [HN1.out], rfl⟩
        case rest =>
          obtain ⟨rfl, rfl⟩ := hcut
          have hout : ∀ k, k < N → wc.cell? ⟨b', k, none⟩ = some (.int .i64 (aft n f N take k)) := HI.out.at1
          have HO := hide hout
          clear hout
          by_cases hot : okTo n f N = true ∧ take = true
          · obtain ⟨ho, rfl⟩ := hot
            have HK := hide (okTo_true ho)
            have HY := hide (fun k => aft_yes ho k)
            go_wp2
            go_loop [13, 14] (fun i _ => ∃ (k : Nat), k ≤ N ∧ i = .int .i64 k) (fun i _ => N - (intOf i).toNat)
            case atStart => exact ⟨0, by omega, rfl⟩
            case round =>
              obtain ⟨k, hk, rfl⟩ := hrel
              by_cases hlt : k < N
              · obtain rfl := HA.out (by omega)
                have hc := HT.out k hlt
                have hd := HO.out k hlt
                rw [HY.out] at hd
                have h1 := HK.out.1
                have h2 := HK.out.2 k hlt
                have h3 := HZ.out k
                go_wp2
                go_round
                case rel => exact ⟨k + 1, by omega, by go_num⟩
                case measure => simp [intOf]; omega
              · go_wp2
                go_ret
                exact ⟨rfl, hfin⟩
          · have hno : (okTo n f N && take) = false := by cases h1 : okTo n f N <;> cases take <;> simp_all
            have HN1 := hide (fun k => aft_no hno k)
            have HN2 := hide hno
            clear hno hot
            obtain ⟨o, ho⟩ : ∃ o, o = okTo n f N := ⟨_, rfl⟩
            rw [← ho] at HN2 ⊢
            have HO2 := hide ho
            clear ho
            cases o
            · go_wp2
              go_loop [13, 14] (fun i _ => ∃ (k : Nat), k ≤ N ∧ i = .int .i64 k) (fun i _ => N - (intOf i).toNat)
              case atStart => exact ⟨0, by omega, rfl⟩
              case round =>
                obtain ⟨k, hk, rfl⟩ := hrel
                by_cases hlt : k < N
                · obtain rfl := HA.out (by omega)
                  have hc := HT.out k hlt
                  have hd := HO.out k hlt
                  rw [HN1.out] at hd
                  go_wp2
                  go_round
                  case rel => exact ⟨k + 1, by omega, by go_num⟩
                  case measure => simp [intOf]; omega
                · go_wp2
                  go_ret
                  exact ⟨rfl, hfin⟩
            · obtain rfl : take = false := by simpa using HN2.out
              go_wp2
              go_loop [13, 14] (fun i _ => ∃ (k : Nat), k ≤ N ∧ i = .int .i64 k) (fun i _ => N - (intOf i).toNat)
              case atStart => exact ⟨0, by omega, rfl⟩
              case round =>
                obtain ⟨k, hk, rfl⟩ := hrel
                by_cases hlt : k < N
                · obtain rfl := HA.out (by omega)
                  have hc := HT.out k hlt
                  have hd := HO.out k hlt
                  rw [HN1.out] at hd
                  go_wp2
                  go_round
                  case rel => exact ⟨k + 1, by omega, by go_num⟩
                  case measure => simp [intOf]; omega
                · go_wp2
                  go_ret
                  exact ⟨rfl, hfin⟩
  · by_cases hN3 : N ≤ 1048576
    · have hN2 : decide (N ≤ 1048576) = true := by simp; omega
      go_enter Try.func5, Try.ntmps5
      go_wp2_with (go_at_call 13; refine (bytes_any _ _ _ _ _ _ hcap).mono ?_; rintro e w' ⟨rfl, rfl⟩)
      go_ret
      exact ⟨rfl, Below.refl _ _⟩
    · have hN2 : decide (N ≤ 1048576) = false := by simp; omega
      go_enter Try.func5, Try.ntmps5
      go_wp2_with (go_at_call 13; refine (bytes_any _ _ _ _ _ _ hcap).mono ?_; rintro e w' ⟨rfl, rfl⟩)
      go_ret
      exact ⟨rfl, Below.refl _ _⟩

end Go.Proofs.Qxb6600461a.Adm
