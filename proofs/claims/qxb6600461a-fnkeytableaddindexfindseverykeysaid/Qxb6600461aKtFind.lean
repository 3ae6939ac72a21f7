/-
  The walk of the law FnKeyTableAddIndexFindsEveryKey.
-/
import Derived.Test.Qxb6600461aKtBytes
import Derived.Test.Qxb6600461aKtSlots
set_option linter.unusedVariables false
set_option linter.unusedSimpArgs false
namespace Go.Proofs.Qxb6600461a.Kt
open Go.RowKit

theorem info4 : (Try.prog.info? 4).map (fun i => (i.zero, i.size, i.bytes)) = some (some (.bool false), 1, 1) := by kernel_rfl

theorem pow_and (M m : Nat) (hM : M = 2 ^ m) (hM2 : M ≤ 4096) : bits .and .i64 (M : Int) ((M : Int) - 1) = 0 := by
  have hp : 0 < M := by rw [hM]; exact Nat.two_pow_pos m
  have h1 : (BitVec.ofInt 64 (M : Int)).toNat = M := by rw [BitVec.toNat_ofInt]; omega
  have h2 : (BitVec.ofInt 64 ((M : Int) - 1)).toNat = 2 ^ m - 1 := by rw [BitVec.toNat_ofInt]; omega
  have key : (BitVec.ofInt 64 (M : Int) &&& BitVec.ofInt 64 ((M : Int) - 1)).toNat = 0 := by
    rw [BitVec.toNat_and, h1, h2, Nat.and_two_pow_sub_one_eq_mod, hM, Nat.mod_self]
  show IntKind.i64.wrap ((BitVec.ofInt 64 (M : Int) &&& BitVec.ofInt 64 ((M : Int) - 1)).toNat : Nat) = 0
  rw [key]; rfl

/-- Has key i been met among the first p slots? -/
def seenB (A : Nat → Nat) : Nat → Nat → Bool
  | 0, _ => false
  | p + 1, i => seenB A p i || decide (A p = i + 1)
theorem seenB_true (A : Nat → Nat) (p i : Nat) (h : seenB A p i = true) : ∃ q, q < p ∧ A q = i + 1 := by
  induction p with
  | zero => simp [seenB] at h
  | succ p ih =>
    simp only [seenB, Bool.or_eq_true, decide_eq_true_eq] at h
    rcases h with h | h
    · obtain ⟨q, hq, e⟩ := ih h
      exact ⟨q, by omega, e⟩
    · exact ⟨p, by omega, h⟩
def seenv (A : Nat → Nat) (p : Nat) (i : Nat) : Value := .bool (seenB A p i)
theorem seenv_zero (A : Nat → Nat) {N : Nat} : ∀ i, i < N → Value.bool false = seenv A 0 i := fun _ _ => rfl
theorem seenv_skip (A : Nat → Nat) (p : Nat) (h : A p = 0) {N : Nat} : ∀ i, i < N → seenv A p i = seenv A (p + 1) i := by
  intro i _
  have : ¬ A p = i + 1 := by omega
  simp [seenv, seenB, this]
theorem seenv_set (A : Nat → Nat) (p k : Nat) (h : A p = k + 1) {N : Nat} : ∀ i, i < N → (if i = k then Value.bool true else seenv A p i) = seenv A (p + 1) i := by
  intro i _
  by_cases e : i = k
  · subst e; simp [seenv, seenB, h]
  · have : ¬ A p = i + 1 := by omega
    simp [seenv, seenB, this, e]
theorem used_skip (A : Nat → Nat) (p : Nat) (h : A p = 0) : used A (p + 1) = used A p := by simp [used, h]
theorem used_step (A : Nat → Nat) (p : Nat) (h : A p ≠ 0) : used A (p + 1) = used A p + 1 := by simp [used, h]
theorem probe_inj (h t d M : Nat) (ht : t < M) (hd : d < M) (e : (h + t) % M = (h + d) % M) : t = d := by
  have h1 := dist_eq h t M ht
  have h2 := dist_eq h d M hd
  rw [e, h2] at h1
  exact h1.symm

theorem Row.drew {w : World} {b N : Nat} {f : Nat → Value} (h : Row w b N f) : Row w.drew b N f := ⟨h.cell, h.free⟩
/-- Where the probing loop stands. -/
def Prb (h M d : Nat) (i s : Value) : Prop := ∃ t ii : Nat, t ≤ d ∧ i = .int .u32 (ii : Int) ∧ s = .int .i64 (t : Int) ∧ ii < M ∧ ii = (h + t) % M

set_option maxRecDepth 100000 in
set_option maxHeartbeats 2000000 in
theorem find_any (e nk nh kb ko hb ho kc hc : Nat) (own : Bool) (ka ha : Option Addr) (K : Nat → ByteArray) (hs : Nat → Nat) (nn : Int) (w : World) (he : e ≤ 255) (hk : StrArg w ka nk kb ko K) (hh : U64Arg w ha nh hb ho hs) (hnk : nk ≤ 9223372036854775807) (hnh : nh ≤ 9223372036854775807) (hnn : -9223372036854775808 ≤ nn ∧ nn ≤ 9223372036854775807) :
    Calls Try.prog 9 #[.int .u8 (e : Int), .bool own, .slice ka nk kc, .slice ha nh hc, .int .i64 nn] w fun r w' => r = .returned (.bool true) ∧ Below w.heap.size w w' := by
  have HK := hide hk
  have HH := hide hh
  clear hk hh
  go_enter Try.func9, Try.ntmps9
  go_wp2_with fail
  refine (bytes23_any (e : Int) nk nh kb ko kc hc own ka ha K nn w HK.out hnk hnh).mono ?_
  rintro r w' ⟨⟨b, rfl⟩, rfl⟩
  cases b
  · go_wp2
    go_ret
    exact ⟨rfl, Below.refl _ _⟩
  by_cases hA : nk ≤ 1024
  rotate_left
  · go_wp2
    go_ret
    exact ⟨rfl, Below.refl _ _⟩
  by_cases hB : nh ≤ 131072
  rotate_left
  · go_wp2
    go_ret
    exact ⟨rfl, Below.refl _ _⟩
  clear hnk hnh
  go_wp2
  go_loop [11, 12] (fun z i => ∃ (k : Nat) (q : Int), k ≤ nk ∧ i = .int .i64 k ∧ z = .int .i64 q ∧ 0 ≤ q ∧ q ≤ 1064960 + k * 1048576) (fun _ i => nk - (intOf i).toNat)
  case atStart => exact ⟨0, _, by omega, rfl, rfl, by omega, by omega⟩
  case round =>
    obtain ⟨k, q, hk, rfl, rfl, hq0, hq1⟩ := hrel
    by_cases hlt : k < nk
    · obtain rfl := HK.out.adr (by omega)
      have hcc := HK.out.cell k hlt
      obtain ⟨s, hs⟩ : ∃ s, s = K k := ⟨_, rfl⟩
      rw [← hs] at hcc
      clear hs
      by_cases h2 : s.size ≤ 1048576
      · go_wp2
        go_round
        case rel => exact ⟨k + 1, q + s.size, by omega, by go_num, rfl, by omega, by omega⟩
        case measure => simp [intOf]; omega
      · go_wp2
        go_ret
        exact ⟨rfl, Below.refl _ _⟩
    · by_cases h3 : q ≤ 1048576
      rotate_left
      · go_wp2
        go_ret
        exact ⟨rfl, Below.refl _ _⟩
      by_cases h4 : e ≤ 12
      rotate_left
      · go_wp2
        go_ret
        exact ⟨rfl, Below.refl _ _⟩
      by_cases h5 : nn ≤ 65536
      rotate_left
      · go_wp2
        go_ret
        exact ⟨rfl, Below.refl _ _⟩
      clear hq1
      obtain ⟨c, hcm⟩ : ∃ c, c = min nk nh := ⟨_, rfl⟩
      have hc1 : c ≤ nk := by omega
      have hc2 : c ≤ nh := by omega
      have HCM := hide hcm
      clear hcm
      obtain ⟨per, hper⟩ : ∃ per, per = nn.toNat := ⟨_, rfl⟩
      have hper2 : per ≤ 65536 := by omega
      have HPER := hide hper
      clear hper
      go_upto_if 80 with fail
      go_cut [13] from 29 (fun s wx => s = .int .i64 (per : Int) ∧ wx = w)
      case first =>
        by_cases hneg : nn < 0
        · have hz : per = 0 := by have := HPER.out; omega
          have HZ := hide hz
          clear hz
          go_wp2
          go_meet
          case rel => rw [HZ.out]; exact ⟨rfl, rfl⟩
        · have hz : (per : Int) = nn := by have := HPER.out; omega
          have HZ := hide hz
          clear hz
          go_wp2
          go_meet
          case rel => rw [HZ.out]; exact ⟨rfl, rfl⟩
      case rest =>
        obtain ⟨rfl, rfl⟩ := hcut
        go_upto_if 86 with fail
        go_cut [14] from 29 (fun s wx => s = .int .i64 (c : Int) ∧ wx = wc)
        case first =>
          by_cases hl2 : nh < nk
          · have hmn : c = nh := by have := HCM.out; omega
            have HMN := hide hmn
            clear hmn
            go_wp2
            go_meet
            case rel => rw [HMN.out]; exact ⟨rfl, rfl⟩
          · have hmn : c = nk := by have := HCM.out; omega
            have HMN := hide hmn
            clear hmn
            go_wp2
            go_meet
            case rel => rw [HMN.out]; exact ⟨rfl, rfl⟩
        case rest =>
          obtain ⟨rfl, rfl⟩ := hcut
          have hmulb : c * per ≤ 1024 * 65536 := Nat.mul_le_mul (by omega) hper2
          have hm1 : (c : Int) * (per : Int) ≤ 67108864 := by rw [← Int.natCast_mul]; omega
          have hm0 : 0 ≤ (c : Int) * (per : Int) := by rw [← Int.natCast_mul]; omega
          clear hmulb
          rename World => w0
          by_cases h6 : (c : Int) * (per : Int) ≤ 65536
          rotate_left
          · go_wp2
            go_ret
            exact ⟨rfl, Below.refl _ _⟩
          go_wp2_with fail
          refine (script_any c e nk nh kb ko hb ho kc hc own ka ha K hs nn w0 h4 HK.out HH.out hA hB h5 HCM.out (by rw [← HPER.out]; omega)).mono ?_
          rintro r w1 ⟨T, rfl, ⟨S, H, A, ka', ba', ra', kc', bc', rc', hKT, hTI⟩, hbel⟩
          obtain ⟨m, hm⟩ := sz_pow e c
          have hM2 := sz_le e c h4 (by omega)
          have hMp := sz_pos e c
          generalize sz e c = M at *
          have hT0 : w1.cell? ⟨T, 0, none⟩ = some (.slice (some ⟨S, 0, none⟩) M M) := hKT.tab.cell 0
          have hSl := hKT.tab.sl
          have hand := pow_and M (e + m) hm hM2
          have HE := hide hm
          have HTI := hide hTI
          have HSl := hide hSl
          have HB1 := hide hbel
          clear hm hTI hKT hSl hbel hm0 hm1 h6 HK HCM HPER hper2 h3 h5 hq0 hlt hk he hnn
          go_wp2_with fail
          refine (slots_any T S M H A w1 hM2 hT0 HSl.out).mono ?_
          rintro r w2 ⟨b1, b2, rfl, hR1, hR2, hb1, hb2, hbel2⟩
          have hfin : Below w0.heap.size w0 w2 := HB1.out.trans (hbel2.mono HB1.out.size)
          have HB2 := hide hfin
          have HR1 := hide hR1
          have HR2 := hide hR2
          clear hT0 HSl HB1 hR1 hR2 hbel2 hfin
          obtain ⟨i4, hi4, z40, z41, z42⟩ := info_parts info4
          go_wp2_with (at_make; refine wpList_make_full _ rfl _ _ 47 rfl w2.heap.size 4 i4 _ 1 Try.underlying47 hi4 z40 z41 .i64 .i64 _ _ c rfl rfl rfl rfl (by rw [z42]; omega) (by unfold maxLen; omega) (Nat.le_refl _) ?_; intro w3 hown hg)
          have hR3 : Row w3 w2.heap.size c (fun _ => .bool false) := Row.made hown
          have hB3 : Below w2.heap.size w2 w3 := (Below.refl _ _).grown hg (Nat.le_refl _) (fun j hj => by cases hj)
          clear hown hg hand hi4 z40 z41 z42
          have HR3 := hide hR3
          have HB3 := hide hB3
          clear hR3 hB3
          have HMASK := hide (fun (x : Int) h0 h1 => and_mask x M (e + m) HE.out h0 h1 hM2)
          go_loopw [23, 24] (fun u i wr => ∃ p : Nat, p ≤ M ∧ i = .int .i64 p ∧ u = .int .i64 ((used A p : Nat) : Int) ∧ Hid (Row wr w2.heap.size c (seenv A p)) ∧ Hid (Below w2.heap.size w2 wr)) (fun _ i _ => M - (intOf i).toNat)
          case atStart => exact ⟨0, Nat.zero_le _, rfl, rfl, HR3.out.congr (seenv_zero A), HB3.out⟩
          case round =>
            obtain ⟨p, hp, rfl, rfl, HQ, HB⟩ := hrel
            clear HR3 HB3
            have hul := used_le A p
            by_cases hpt : p < M
            · have hcA : wr.cell? ⟨b2, p, none⟩ = some (.int .u32 ((A p : Nat) : Int)) := (HR2.out.below HB.out hb2).cell p hpt
              by_cases hz : A p = 0
              · rw [hz] at hcA
                have HZ := hide hz
                clear hz
                go_wp2
                go_roundw
                case rel => exact ⟨p + 1, by omega, by go_num, by rw [used_skip A p HZ.out], HQ.out.congr (seenv_skip A p HZ.out), HB⟩
                case measure => simp [intOf]; omega
              · obtain ⟨kk, hkk⟩ : ∃ kk, A p = kk + 1 := ⟨A p - 1, by omega⟩
                have hr := HTI.out.rng p hpt hz
                have hkc : kk < c := by omega
                have hHp : H p = hs kk % 4294967296 := by rw [hr.2, hkk]; rfl
                obtain ⟨d, hd, hpe, hnz⟩ := HTI.out.reach p hpt hz
                rw [hHp] at hpe hnz
                have hcA' : wr.cell? ⟨b2, p, none⟩ = some (.int .u32 ((kk : Int) + 1)) := by rw [hcA, hkk]; rfl
                have hcH : wr.cell? ⟨b1, p, none⟩ = some (.int .u32 ((hs kk : Int) % 4294967296)) := by
                  rw [(HR1.out.below HB.out hb1).cell p hpt]
                  show some (Value.int .u32 ((H p : Nat) : Int)) = _
                  rw [hHp]; rfl
                have hns : seenB A p kk = false := by
                  cases hsb : seenB A p kk
                  · rfl
                  · obtain ⟨q', hq', e'⟩ := seenB_true A p kk hsb
                    have := HTI.out.uniq p q' hpt (by omega) hz (by omega)
                    omega
                have hseen : wr.cell? ⟨w2.heap.size, kk, none⟩ = some (.bool false) := by
                  rw [HQ.out.cell kk hkc]
                  show some (Value.bool (seenB A p kk)) = _
                  rw [hns]
                have hfz := HQ.out.free kk
                have hch0 := HH.out.cell kk (by omega)
                have hbl : hb < w0.heap.size := cell_lt hch0
                have hbl2 : hb < w2.heap.size := Nat.lt_of_lt_of_le hbl HB2.out.size
                have hch : wr.cell? ⟨hb, ho + kk, none⟩ = some (.int .u64 ((hs kk : Nat) : Int)) := by
                  rw [HB.out.cell (p := ⟨hb, ho + kk, none⟩) hbl2, HB2.out.cell (p := ⟨hb, ho + kk, none⟩) hbl, hch0]
                have hhb := HH.out.bd kk
                obtain rfl := HH.out.adr (by omega)
                have HKK := hide hkk
                have HPE := hide hpe
                have HNZ := hide hnz
                have HZ := hide hz
                have HAC := hide (fun j (hj : j < M) => (HR2.out.below HB.out hb2).cell j hj)
                clear hkk hpe hnz hz hr hHp hns hch0 hcA hbl
                go_wp2
                go_region
                go_wp2_with fail
                rw [HMASK.out _ (by omega) (by omega)]
                have hh0 : ((hs kk : Int) % 4294967296).toNat % M = (hs kk % 4294967296 + 0) % M := by
                  rw [show ((hs kk : Int) % 4294967296).toNat = hs kk % 4294967296 from by omega]; rfl
                have HH0 := hide hh0
                clear hh0
                go_loop [27, 28] (fun i s => Prb (hs kk % 4294967296) M d i s) (fun _ s => d - (intOf s).toNat)
                case atStart => exact ⟨0, _, Nat.zero_le _, rfl, rfl, Nat.mod_lt _ hMp, HH0.out⟩
                case round =>
                  obtain ⟨t, ii, ht, rfl, rfl, hii, hII⟩ := hrel
                  have HII := hide hII
                  clear hII
                  have hcI : wr.cell? ⟨b2, ii, none⟩ = some (.int .u32 ((A ii : Nat) : Int)) := HAC.out ii hii
                  by_cases htd : t < d
                  · have hne : (((ii : Nat) : Int) != (p : Int)) = true := by
                      rw [bne_iff_ne]
                      intro hx
                      have h1 : ii = p := by omega
                      rw [HPE.out, HII.out] at h1
                      have := probe_inj _ t d M (by omega) hd h1
                      omega
                    have hnz : (((A ii : Nat) : Int) == 0) = false := by
                      have := HNZ.out t htd
                      rw [← HII.out] at this
                      rw [beq_eq_false_iff_ne]
                      omega
                    have hprb : Prb (hs kk % 4294967296) M d (.int .u32 (bits .and .u32 ((ii : Int) + 1) ((M : Int) - 1))) (.int .i64 ((t : Int) + 1)) :=
                      ⟨t + 1, (ii + 1) % M, by omega, (by rw [HMASK.out _ (by omega) (by omega)]; rfl), by go_num, Nat.mod_lt _ hMp, by rw [HII.out]; exact next_eq _ t M⟩
                    have HPRB := hide hprb
                    clear hprb
                    go_wp2
                    go_round
                    case rel =>
                      first
                        | exact HPRB.out
                        | ((repeat apply Exists.intro); refine ⟨HPRB.out, ?_⟩; repeat (first | rfl | refine ⟨rfl, ?_⟩))
                    case measure => simp [intOf]; omega
                  · obtain rfl : t = d := by omega
                    obtain rfl : ii = p := by rw [HII.out]; exact HPE.out.symm
                    go_wp2
                    go_roundw
                    case rel => exact ⟨ii + 1, by omega, by go_num, by rw [used_step A ii HZ.out]; rfl, ((HQ.out.set kk hkc (.bool true)).congr (seenv_set A ii kk HKK.out)).drew, (HB.out.setCell (Nat.le_refl _) _).drew⟩
                    case measure => simp [intOf]; omega
            · obtain rfl : p = M := by omega
              have huc : used A p = c := HTI.out.cnt
              have HUC := hide huc
              clear huc
              go_wp2
              go_ret
              exact ⟨by rw [HUC.out]; simp, HB2.out.trans (HB.out.mono HB2.out.size)⟩

end Go.Proofs.Qxb6600461a.Kt
