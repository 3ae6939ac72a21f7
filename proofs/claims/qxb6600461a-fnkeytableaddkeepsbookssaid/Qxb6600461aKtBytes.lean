/-
  The walks of the two bounds on lengths: each answers some bool and leaves the world as it was.
-/
import Derived.Test.Qxb6600461aKtScript
set_option linter.unusedVariables false
set_option linter.unusedSimpArgs false
namespace Go.Proofs.Qxb6600461a.Kt
open Go.RowKit

def SomeBool (r : Ending) : Prop := ∃ b : Bool, r = .returned (.bool b)

set_option maxHeartbeats 1000000 in
theorem bytes23_any (e : Int) (nk nh kb ko kc hc : Nat) (own : Bool) (ka ha : Option Addr) (K : Nat → ByteArray) (nn : Int) (w : World) (hk : StrArg w ka nk kb ko K) (hnk : nk ≤ 9223372036854775807) (hnh : nh ≤ 9223372036854775807) :
    Calls Try.prog 23 #[.int .u8 e, .bool own, .slice ka nk kc, .slice ha nh hc, .int .i64 nn] w fun r w' => SomeBool r ∧ w = w' := by
  have HK := hide hk
  clear hk
  by_cases h1 : nk ≤ 1048576
  · go_enter Try.func23, Try.ntmps23
    go_wp2
    go_loop [11, 12] (fun z i => ∃ (k : Nat) (q : Int), k ≤ nk ∧ i = .int .i64 k ∧ z = .int .i64 q ∧ 0 ≤ q ∧ q ≤ 1048576) (fun _ i => nk - (intOf i).toNat)
    case atStart => exact ⟨0, nk, by omega, rfl, rfl, by omega, by omega⟩
    case round =>
      obtain ⟨k, q, hk, rfl, rfl, hq0, hq1⟩ := hrel
      by_cases hlt : k < nk
      · obtain rfl := HK.out.adr (by omega)
        have hc := HK.out.cell k hlt
        obtain ⟨s, hs⟩ : ∃ s, s = K k := ⟨_, rfl⟩
        rw [← hs] at hc
        clear hs
        by_cases h2 : s.size ≤ 1048576
        · by_cases h3 : q + s.size ≤ 1048576
          · go_wp2
            go_round
            case rel => exact ⟨k + 1, q + s.size, by omega, by go_num, rfl, by omega, by omega⟩
            case measure => simp [intOf]; omega
          · go_wp2
            go_ret
            exact ⟨⟨_, rfl⟩, rfl⟩
        · go_wp2
          go_ret
          exact ⟨⟨_, rfl⟩, rfl⟩
      · by_cases h2 : nh ≤ 1048576
        · by_cases h3 : q + nh ≤ 1048576
          · go_wp2
            go_ret
            exact ⟨⟨_, rfl⟩, rfl⟩
          · go_wp2
            go_ret
            exact ⟨⟨_, rfl⟩, rfl⟩
        · go_wp2
          go_ret
          exact ⟨⟨_, rfl⟩, rfl⟩
  · go_enter Try.func23, Try.ntmps23
    go_wp2
    go_ret
    exact ⟨⟨_, rfl⟩, rfl⟩

set_option maxHeartbeats 1000000 in
theorem bytes17_any (e : Int) (nk nh kb ko kc hc : Nat) (own : Bool) (ka ha : Option Addr) (K : Nat → ByteArray) (nn : Int) (w : World) (hk : StrArg w ka nk kb ko K) (hnk : nk ≤ 9223372036854775807) (hnh : nh ≤ 9223372036854775807) :
    Calls Try.prog 17 #[.int .u8 e, .bool own, .slice ka nk kc, .slice ha nh hc, .int .i64 nn] w fun r w' => SomeBool r ∧ w = w' := by
  have HK := hide hk
  clear hk
  by_cases h1 : nk ≤ 1048576
  · go_enter Try.func17, Try.ntmps17
    go_wp2
    go_loop [11, 12] (fun z i => ∃ (k : Nat) (q : Int), k ≤ nk ∧ i = .int .i64 k ∧ z = .int .i64 q ∧ 0 ≤ q ∧ q ≤ 1048576) (fun _ i => nk - (intOf i).toNat)
    case atStart => exact ⟨0, nk, by omega, rfl, rfl, by omega, by omega⟩
    case round =>
      obtain ⟨k, q, hk, rfl, rfl, hq0, hq1⟩ := hrel
      by_cases hlt : k < nk
      · obtain rfl := HK.out.adr (by omega)
        have hc := HK.out.cell k hlt
        obtain ⟨s, hs⟩ : ∃ s, s = K k := ⟨_, rfl⟩
        rw [← hs] at hc
        clear hs
        by_cases h2 : s.size ≤ 1048576
        · by_cases h3 : q + s.size ≤ 1048576
          · go_wp2
            go_round
            case rel => exact ⟨k + 1, q + s.size, by omega, by go_num, rfl, by omega, by omega⟩
            case measure => simp [intOf]; omega
          · go_wp2
            go_ret
            exact ⟨⟨_, rfl⟩, rfl⟩
        · go_wp2
          go_ret
          exact ⟨⟨_, rfl⟩, rfl⟩
      · by_cases h2 : nh ≤ 1048576
        · by_cases h3 : q + nh ≤ 1048576
          · go_wp2
            go_ret
            exact ⟨⟨_, rfl⟩, rfl⟩
          · go_wp2
            go_ret
            exact ⟨⟨_, rfl⟩, rfl⟩
        · go_wp2
          go_ret
          exact ⟨⟨_, rfl⟩, rfl⟩
  · go_enter Try.func17, Try.ntmps17
    go_wp2
    go_ret
    exact ⟨⟨_, rfl⟩, rfl⟩

end Go.Proofs.Qxb6600461a.Kt
