/-
  The walk of the law FnKeyTableAddKeepsBooks.
-/
import Derived.Test.Qxb6600461aKtBytes
import Derived.Test.Qxb6600461aKtBuckets
set_option linter.unusedVariables false
set_option linter.unusedSimpArgs false
namespace Go.Proofs.Qxb6600461a.Kt
open Go.RowKit

/-- The law's own way to the number of slots: from 2^e, doubled while it is more than three quarters full. -/
theorem sz_form (e n : Nat) : ∃ J, sz e n = 2 ^ e * 2 ^ J ∧ (J = 0 ∨ 3 * (2 ^ e * 2 ^ (J - 1)) < 4 * n) := by
  induction n with
  | zero => exact ⟨0, by simp [sz], .inl rfl⟩
  | succ n ih =>
    obtain ⟨J, hJ, hm⟩ := ih
    simp only [sz, grow]
    split
    · rename_i h
      refine ⟨J + 1, ?_, .inr ?_⟩
      · rw [hJ, Nat.pow_succ]; ac_rfl
      · rw [Nat.add_sub_cancel, ← hJ]; exact h
    · exact ⟨J, hJ, by rcases hm with h | h; exact .inl h; exact .inr (by omega)⟩
theorem dbl (P j : Nat) : P * 2 ^ j * 2 = P * 2 ^ (j + 1) := by rw [Nat.pow_succ, Nat.mul_assoc]
theorem mono_dbl (P i j : Nat) (h : i ≤ j) : P * 2 ^ i ≤ P * 2 ^ j := Nat.mul_le_mul_left _ (Nat.pow_le_pow_right (by decide) h)
theorem want_step {P J M X c : Nat} (hM : M = P * 2 ^ J) (h34 : 4 * c ≤ 3 * M) (hX : ∃ j, X = P * 2 ^ j ∧ j ≤ J) (hlt : 3 * X < 4 * c) : (∃ j, X * 2 = P * 2 ^ j ∧ j ≤ J) ∧ X * 2 ≤ M := by
  obtain ⟨j, rfl, hj⟩ := hX
  have hne : j ≠ J := by rintro rfl; omega
  rw [dbl]
  exact ⟨⟨j + 1, rfl, by omega⟩, by rw [hM]; exact mono_dbl P _ _ (by omega)⟩
theorem want_end {P J M X c : Nat} (hM : M = P * 2 ^ J) (hm : J = 0 ∨ 3 * (P * 2 ^ (J - 1)) < 4 * c) (hX : ∃ j, X = P * 2 ^ j ∧ j ≤ J) (hge : ¬ 3 * X < 4 * c) : X = M := by
  obtain ⟨j, rfl, hj⟩ := hX
  have : j = J := by
    rcases hm with h | h
    · omega
    · by_cases e : j = J
      · exact e
      · have := mono_dbl P j (J - 1) (by omega)
        omega
  rw [this, hM]
theorem KT.below {w w' : World} {B T S M : Nat} {H A : Nat → Nat} {ka ba ra : Option Addr} {kc bc rc : Nat} {own : Bool} {n nb nr : Nat} {ks : List Value} (h : KT w B T S M H A ka ba ra kc bc rc own n nb nr ks) (hb : Below w.heap.size w w') : KT w' B T S M H A ka ba ra kc bc rc own n nb nr ks := by
  have k : KeepT [60, 62, 9, 50, 42] w w' := fun i c e f hi _ => hb.block i (lt_of_some hi)
  exact ⟨h.tab.keep k (by decide) (by decide), k.row h.kr (by decide), k.row h.br (by decide), k.row h.rr (by decide)⟩
theorem wrap_pow (e : Nat) (h : 2 ^ e ≤ 4096) : wrap64 ((2 : Int) ^ e) = ((2 ^ e : Nat) : Int) := by
  have h2 : ((2 ^ e : Nat) : Int) = (2 : Int) ^ e := by simp
  rw [← h2]
  generalize 2 ^ e = q at h ⊢
  exact IntWalk.wrap64_in _ ⟨by omega, by omega⟩
theorem strs_at (K : Nat → ByteArray) (n i : Nat) (hi : i < n) : (strs K n)[i]? = some (.string (K i)) := by simp [strs, hi]

set_option maxRecDepth 100000 in
set_option maxHeartbeats 2000000 in
theorem books_any (e nk nh kb ko hb ho kc hc : Nat) (own : Bool) (ka ha : Option Addr) (K : Nat → ByteArray) (hs : Nat → Nat) (nn : Int) (w : World) (he : e ≤ 255) (hk : StrArg w ka nk kb ko K) (hh : U64Arg w ha nh hb ho hs) (hnk : nk ≤ 9223372036854775807) (hnh : nh ≤ 9223372036854775807) (hnn : -9223372036854775808 ≤ nn ∧ nn ≤ 9223372036854775807) :
    Calls Try.prog 8 #[.int .u8 (e : Int), .bool own, .slice ka nk kc, .slice ha nh hc, .int .i64 nn] w fun r w' => r = .returned (.bool true) ∧ Below w.heap.size w w' := by
  have HK := hide hk
  have HH := hide hh
  clear hk hh
  go_enter Try.func8, Try.ntmps8
  go_wp2_with fail
  refine (bytes17_any (e : Int) nk nh kb ko kc hc own ka ha K nn w HK.out hnk hnh).mono ?_
  rintro r w' ⟨⟨b, rfl⟩, rfl⟩
  cases b
  · go_wp2
    go_ret
    exact ⟨rfl, Below.refl _ _⟩
  by_cases hA : nk ≤ 1024
  rotate_left
  · go_wp2
    go_ret
    exact ⟨rfl, Below.refl _ _⟩
  by_cases hB : nh ≤ 131072
  rotate_left
  · go_wp2
    go_ret
    exact ⟨rfl, Below.refl _ _⟩
  clear hnk hnh
  go_wp2
  go_loop [11, 12] (fun z i => ∃ (k : Nat) (q : Int), k ≤ nk ∧ i = .int .i64 k ∧ z = .int .i64 q ∧ 0 ≤ q ∧ q ≤ 1064960 + k * 1048576) (fun _ i => nk - (intOf i).toNat)
  case atStart => exact ⟨0, _, by omega, rfl, rfl, by omega, by omega⟩
  case round =>
    obtain ⟨k, q, hk, rfl, rfl, hq0, hq1⟩ := hrel
    by_cases hlt : k < nk
    · obtain rfl := HK.out.adr (by omega)
      have hcc := HK.out.cell k hlt
      obtain ⟨s, hs⟩ : ∃ s, s = K k := ⟨_, rfl⟩
      rw [← hs] at hcc
      clear hs
      by_cases h2 : s.size ≤ 1048576
      · go_wp2
        go_round
        case rel => exact ⟨k + 1, q + s.size, by omega, by go_num, rfl, by omega, by omega⟩
        case measure => simp [intOf]; omega
      · go_wp2
        go_ret
        exact ⟨rfl, Below.refl _ _⟩
    · by_cases h3 : q ≤ 1048576
      rotate_left
      · go_wp2
        go_ret
        exact ⟨rfl, Below.refl _ _⟩
      by_cases h4 : e ≤ 12
      rotate_left
      · go_wp2
        go_ret
        exact ⟨rfl, Below.refl _ _⟩
      by_cases h5 : nn ≤ 65536
      rotate_left
      · go_wp2
        go_ret
        exact ⟨rfl, Below.refl _ _⟩
      clear hq1
      obtain ⟨c, hcm⟩ : ∃ c, c = min nk nh := ⟨_, rfl⟩
      have hc1 : c ≤ nk := by omega
      have hc2 : c ≤ nh := by omega
      have HCM := hide hcm
      clear hcm
      obtain ⟨per, hper⟩ : ∃ per, per = nn.toNat := ⟨_, rfl⟩
      have hper2 : per ≤ 65536 := by omega
      have HPER := hide hper
      clear hper
      go_upto_if 80 with fail
      go_cut [13] from 29 (fun s wx => s = .int .i64 (per : Int) ∧ wx = w)
      case first =>
        by_cases hneg : nn < 0
        · have hz : per = 0 := by have := HPER.out; omega
          have HZ := hide hz
          clear hz
          go_wp2
          go_meet
          case rel => rw [HZ.out]; exact ⟨rfl, rfl⟩
        · have hz : (per : Int) = nn := by have := HPER.out; omega
          have HZ := hide hz
          clear hz
          go_wp2
          go_meet
          case rel => rw [HZ.out]; exact ⟨rfl, rfl⟩
      case rest =>
        obtain ⟨rfl, rfl⟩ := hcut
        go_upto_if 86 with fail
        go_cut [14] from 29 (fun s wx => s = .int .i64 (c : Int) ∧ wx = wc)
        case first =>
          by_cases hl2 : nh < nk
          · have hmn : c = nh := by have := HCM.out; omega
            have HMN := hide hmn
            clear hmn
            go_wp2
            go_meet
            case rel => rw [HMN.out]; exact ⟨rfl, rfl⟩
          · have hmn : c = nk := by have := HCM.out; omega
            have HMN := hide hmn
            clear hmn
            go_wp2
            go_meet
            case rel => rw [HMN.out]; exact ⟨rfl, rfl⟩
        case rest =>
          obtain ⟨rfl, rfl⟩ := hcut
          have hmulb : c * per ≤ 1024 * 65536 := Nat.mul_le_mul (by omega) hper2
          have hm1 : (c : Int) * (per : Int) ≤ 67108864 := by rw [← Int.natCast_mul]; omega
          have hm0 : 0 ≤ (c : Int) * (per : Int) := by rw [← Int.natCast_mul]; omega
          clear hmulb
          rename World => w0
          by_cases h6 : (c : Int) * (per : Int) ≤ 65536
          rotate_left
          · go_wp2
            go_ret
            exact ⟨rfl, Below.refl _ _⟩
          go_wp2_with fail
          refine (script_any c e nk nh kb ko hb ho kc hc own ka ha K hs nn w0 h4 HK.out HH.out hA hB h5 HCM.out (by rw [← HPER.out]; omega)).mono ?_
          rintro r w1 ⟨T, rfl, ⟨S, H, A, ka', ba', ra', kc', bc', rc', hKT, hTI⟩, hbel⟩
          rw [← HPER.out] at hKT
          have hM2 := sz_le e c h4 (by omega)
          have hMp := sz_pos e c
          have h34 := sz_34 e c
          have HSF := hide (sz_form e c)
          have HP2 := hide (show 2 ^ e ≤ 4096 from Nat.pow_le_pow_right (n := 2) (by decide) h4)
          generalize sz e c = M at *
          have hT1 : w1.cell? ⟨T, 1, none⟩ = some (.slice ka' c kc') := hKT.tab.cell 1
          obtain ⟨nb, hnb⟩ : ∃ nb, nb = c * per := ⟨_, rfl⟩
          rw [← hnb] at hKT
          have hne : (((nb : Nat) : Int) != (c : Int) * (per : Int)) = false := by rw [hnb, Int.natCast_mul]; simp
          have hnb2 : nb ≤ 65536 := by rw [hnb]; rw [← Int.natCast_mul] at h6; omega
          have HKT := hide hKT
          have HB1 := hide hbel
          have HMU := hide (And.intro hm0 h6)
          have HNE := hide hne
          clear hTI hKT hbel hm0 hm1 h6 HCM HPER h3 h5 hq0 hlt hk he hnn hnb hne
          go_upto_if 109 with fail
          go_cut [] from 29 (fun wx => wx = w1)
          case first =>
            go_wp2
            go_meet
            case rel => exact rfl
          case rest =>
            subst hcut
            go_wp2_with fail
            refine (keys_any T _ _ hT1).mono ?_
            rintro r w' ⟨rfl, rfl⟩
            clear hT1
            go_wp2_with fail
            go_loopw [19] (fun i wr => ∃ k : Nat, k ≤ c ∧ i = .int .i64 k ∧ Hid (Below wc.heap.size wc wr)) (fun i _ => c - (intOf i).toNat)
            case atStart => exact ⟨0, Nat.zero_le _, rfl, Below.refl _ _⟩
            case round =>
              obtain ⟨k, hk, rfl, HBr⟩ := hrel
              by_cases hlt : k < c
              · obtain ⟨g, rfl, hgB, hgl, hgc⟩ := own_row HKT.out.kr (by omega)
                have hg0 : wr.cell? ⟨g, k, none⟩ = some (.string (K k)) := by
                  rw [HBr.out.cell (p := ⟨g, k, none⟩) hgl, hgc _ (by omega), strs_at K c k hlt]
                have hk0 := HK.out.cell k (by omega)
                have hkl := cell_lt hk0
                have hk1 : wr.cell? ⟨kb, ko + k, none⟩ = some (.string (K k)) := by
                  rw [HBr.out.cell (p := ⟨kb, ko + k, none⟩) (Nat.lt_of_lt_of_le hkl HB1.out.size), HB1.out.cell (p := ⟨kb, ko + k, none⟩) hkl, hk0]
                obtain rfl := HK.out.adr (by omega)
                obtain ⟨s, hsK⟩ : ∃ s, s = K k := ⟨_, rfl⟩
                rw [← hsK] at hg0 hk1
                clear hgc hk0 hkl hsK
                go_wp2
                go_region
                all_goals
                  go_wp2
                  go_roundw
                  case rel =>
                    first
                      | exact ⟨k + 1, by omega, by go_num, HBr.out.drew⟩
                      | ((repeat apply Exists.intro); refine ⟨⟨k + 1, by omega, by go_num, HBr.out.drew⟩, ?_⟩; repeat (first | rfl | refine ⟨rfl, ?_⟩))
                  case measure => simp [intOf]; omega
              · obtain rfl : k = c := by omega
                have hK2 := HKT.out.below HBr.out
                have hT2 : wr.cell? ⟨T, 2, none⟩ = some (.slice ba' nb bc') := hK2.tab.cell 2
                have HK2 := hide hK2
                have HBB := hide (HB1.out.trans (HBr.out.mono HB1.out.size))
                clear HKT HBr HB1 hK2
                go_wp2_with fail
                refine (buckets_any _ T nb bc' ba' _ hnb2 hT2 HK2.out.br).mono ?_
                rintro r w2 ⟨b1, b2, b3, rfl, hR1, hR2, hR3, hb1, hb2, hb3, hbel2⟩
                clear hT2
                have HK3 := hide (HK2.out.below hbel2)
                have HB3 := hide (HBB.out.trans (hbel2.mono HBB.out.size))
                have HR1 := hide hR1
                have HR2 := hide hR2
                have HR3 := hide hR3
                clear HK2 HBB hbel2 hR1 hR2 hR3
                have hm0 := HMU.out.1
                have h6 := HMU.out.2
                have hne := HNE.out
                go_wp2_with fail
                clear hm0 h6 hne
                go_loop [23] (fun i => ∃ j : Nat, j ≤ nb ∧ i = .int .i64 j) (fun i => nb - (intOf i).toNat)
                case atStart => exact ⟨0, Nat.zero_le _, rfl⟩
                case round =>
                  obtain ⟨j, hj, rfl⟩ := hrel
                  by_cases hjt : j < nb
                  · have hd1 := HR1.out.cell j hjt
                    have hd2 := HR2.out.cell j hjt
                    have hd3 := HR3.out.cell j hjt
                    go_wp2
                    go_round
                    case rel =>
                      first
                        | exact ⟨j + 1, by omega, by go_num⟩
                        | ((repeat apply Exists.intro); refine ⟨⟨j + 1, by omega, by go_num⟩, ?_⟩; repeat (first | rfl | refine ⟨rfl, ?_⟩))
                    case measure => simp [intOf]; omega
                  · clear HR1 HR2 HR3
                    have hT3 : w2.cell? ⟨T, 3, none⟩ = some (.slice ra' (rlen own k) rc') := HK3.out.tab.cell 3
                    go_wp2_with fail
                    refine (rates_any T _ _ hT3).mono ?_
                    rintro r w' ⟨rfl, rfl⟩
                    clear hT3
                    go_upto_if 185 with fail
                    go_cut [25] from 29 (fun _ wx => wx = w2)
                    case first =>
                      cases own
                      · have h0 : rlen false k = 0 := rfl
                        rw [h0]
                        clear h0
                        go_wp2
                        go_meet
                        case rel => exact rfl
                      · have h0 : rlen true k = k := rfl
                        rw [h0]
                        have HRR := HK3.out.rr
                        rw [h0] at HRR
                        have HRR2 := hide HRR
                        clear h0 HRR
                        go_wp2_with fail
                        go_loop [25] (fun i => ∃ j : Nat, j ≤ k ∧ i = .int .i64 j) (fun i => k - (intOf i).toNat)
                        case atStart => exact ⟨0, Nat.zero_le _, rfl⟩
                        case round =>
                          obtain ⟨j', hj', rfl⟩ := hrel
                          by_cases hjt2 : j' < k
                          · obtain ⟨g, rfl, _, hgl, hgc⟩ := own_row HRR2.out (by omega)
                            have hg0 : w2.cell? ⟨g, j', none⟩ = some (.pointer none) := by
                              rw [hgc _ (by omega)]; simp [hjt2]
                            clear hgc
                            go_wp2
                            go_round
                            case rel =>
                              first
                                | exact ⟨j' + 1, by omega, by go_num⟩
                                | ((repeat apply Exists.intro); refine ⟨⟨j' + 1, by omega, by go_num⟩, ?_⟩; repeat (first | rfl | refine ⟨rfl, ?_⟩))
                            case measure => simp [intOf]; omega
                          · go_wp2
                            go_meet
                            case rel => exact rfl
                    case rest =>
                      subst hcut
                      go_wp2_with fail
                      obtain ⟨J, hJ, hJm⟩ := HSF.out
                      have HJ := hide hJ
                      have HJM := hide hJm
                      clear hJ hJm
                      rw [wrap_pow e HP2.out]
                      have hP0 : 0 < 2 ^ e := Nat.two_pow_pos e
                      have hst : 2 ^ e ≤ M := by rw [HJ.out]; exact Nat.le_mul_of_pos_right _ (Nat.two_pow_pos J)
                      have HX0 := hide (show ∃ j, 2 ^ e = 2 ^ e * 2 ^ j ∧ j ≤ J from ⟨0, by simp, by omega⟩)
                      generalize 2 ^ e = P at *
                      go_loop [26] (fun s => ∃ X : Nat, s = .int .i64 (X : Int) ∧ 0 < X ∧ X ≤ M ∧ Hid (∃ j, X = P * 2 ^ j ∧ j ≤ J)) (fun s => M - (intOf s).toNat)
                      case atStart => exact ⟨P, rfl, hP0, hst, HX0.out⟩
                      case round =>
                        obtain ⟨X, rfl, hX0, hXM, HX⟩ := hrel
                        clear HX0 hst hP0
                        by_cases hw : 3 * X < 4 * k
                        · obtain ⟨s1, s2⟩ := want_step HJ.out h34 HX.out hw
                          have HS1 := hide s1
                          clear s1
                          go_wp2
                          go_round
                          case rel =>
                            first
                              | exact ⟨X * 2, by go_num, by omega, s2, HS1.out⟩
                              | ((repeat apply Exists.intro); refine ⟨⟨X * 2, by go_num, by omega, s2, HS1.out⟩, ?_⟩; repeat (first | rfl | refine ⟨rfl, ?_⟩))
                          case measure => simp [intOf]; omega
                        · have hXe := want_end HJ.out HJM.out HX.out hw
                          subst hXe
                          have hT0 : wc.cell? ⟨T, 0, none⟩ = some (.slice (some ⟨S, 0, none⟩) X X) := HK3.out.tab.cell 0
                          have HFIN := HB3.out
                          have HFIN2 := hide HFIN
                          clear HFIN
                          go_wp2_with fail
                          refine (slots_any T S X H A _ hM2 hT0 HK3.out.tab.sl).mono ?_
                          rintro r w5 ⟨d1, d2, rfl, _, _, _, _, hbel5⟩
                          clear hT0
                          go_wp2
                          go_ret
                          exact ⟨rfl, HFIN2.out.trans (hbel5.mono HFIN2.out.size)⟩

end Go.Proofs.Qxb6600461a.Kt
