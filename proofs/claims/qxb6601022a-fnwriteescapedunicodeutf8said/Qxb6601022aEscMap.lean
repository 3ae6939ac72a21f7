/-
  The map of one-letter escapes: told by what a look-up answers; and the walk of escMap.
-/
import Derived.Test.Qxb6601022aEscWalks
import Derived.Maps.Own
import Derived.Maps.OwnOps
import Derived.Maps.OwnSet
import Derived.Deep.Cut
import Derived.Deep.CutRange
import Derived.Deep.LoopGhost
set_option linter.unusedVariables false
set_option linter.unusedSimpArgs false
namespace Go.Proofs.Qxb6601022a.Esc
open Go.RowKit Go.Maps

theorem law : Keyed Try.prog 5 := int_keyed Try.underlying5
theorem zero5 (w : World) : (zeroValue 5).run Try.prog w = .ok (.int .u8 0) w := by kernel_rfl
theorem wf8 (k : Nat) (h : k < 256) : (Lit.int .u8 (k : Int)).wf = true := WalkArith.wf_u8 (by omega)
theorem keyAt (k : Nat) (h : k < 256) : keyOf Try.prog 5 (.int .u8 (k : Int)) = some (.int .u8 (k : Int)) := keyOf_int_mk Try.underlying5 (wf8 k h)

/-- A map[byte]byte, nil or the call's own, of which a look-up at k answers d k and has k. -/
def Look (w : World) (r : Option Nat) (has : Nat → Bool) (d : Nat → Nat) : Prop :=
  (∀ k, d k < 256) ∧ ((r = none ∧ ∀ k, has k = false ∧ d k = 0) ∨
   ∃ b n D, r = some b ∧ w.ownsMap Try.prog 5 (plainElem (H := Unit) Try.prog 5) b n D ∧ ∀ k, k < 256 → has k = Maps.has D (.int .u8 (k : Int)) ∧ D.atKey (.int .u8 (k : Int)) (.lit (.int .u8 0)) = .lit (.int .u8 ((d k : Nat) : Int)))

theorem Look.run {w : World} {r : Option Nat} {has : Nat → Bool} {d : Nat → Nat} (h : Look w r has d) (k : Nat) (hk : k < 256) :
    (Instr.lookup 40 (.map r) (.int .u8 (k : Int)) true).run Try.prog w = .ok (.tuple #[.int .u8 ((d k : Nat) : Int), .bool (has k)]) w := by
  rcases h.2 with ⟨rfl, h0⟩ | ⟨b, n, D, rfl, ho, hd⟩
  · have := Maps.look_nil (P := Try.prog) (w := w) true law Try.underlying40 (zero5 w) (keyAt k hk)
    rw [this, (h0 k).1, (h0 k).2]; rfl
  · obtain ⟨v, ps, hrun, hv⟩ := ho.look_ok law Try.underlying40 (zero5 w) (plainElem_int Try.underlying5 (wf8 0 (by decide))) (keyAt k hk)
    obtain ⟨a, rfl, hz, _⟩ := plainElem_int_inv Try.underlying5 hv
    have hd' := hd k hk
    simp only [Prod.mk.injEq] at hz
    have e := hz.1
    rw [hd'.2] at e
    simp at e
    rw [hrun, hd'.1, e]
theorem Look.block {w w' : World} {r : Option Nat} {has : Nat → Bool} {d : Nat → Nat} (h : Look w r has d) (e : ∀ b, r = some b → w'.heap[b]? = w.heap[b]?) : Look w' r has d := by
  refine ⟨h.1, ?_⟩
  rcases h.2 with h0 | ⟨b, n, D, rfl, ho, hd⟩
  · exact .inl h0
  · obtain ⟨es, clock, hb, F, hs, hD⟩ := ho
    exact .inr ⟨b, n, D, rfl, ⟨es, clock, (e b rfl).trans hb, F, hs, hD⟩, hd⟩
theorem Look.lt {w : World} {r : Option Nat} {has : Nat → Bool} {d : Nat → Nat} (h : Look w r has d) (b : Nat) (e : r = some b) : b < w.heap.size := by
  rcases h.2 with ⟨rfl, h0⟩ | ⟨b', n, D, rfl, ho, hd⟩
  · cases e
  · cases e; exact ho.lt

/-- A map that escMap is filling. -/
def Fill (w : World) (B : Nat) (r : Option Nat) (n : Nat) : Prop := r = none ∨ ∃ b D, r = some b ∧ B ≤ b ∧ w.ownsMap Try.prog 5 (plainElem (H := Unit) Try.prog 5) b n D

/-- Whatever is owned has bytes for elements. -/
theorem elems_bytes {w : World} {b n : Nat} {D : DataW Unit} (h : w.ownsMap Try.prog 5 (plainElem (H := Unit) Try.prog 5) b n D) (k : Nat) (hk : k < 256) : ∃ a, a < 256 ∧ D.atKey (.int .u8 (k : Int)) (.lit (.int .u8 0)) = .lit (.int .u8 ((a : Nat) : Int)) := by
  obtain ⟨v, ps, hrun, hv⟩ := h.look_ok law Try.underlying40 (zero5 w) (plainElem_int Try.underlying5 (wf8 0 (by decide))) (keyAt k hk)
  obtain ⟨a, rfl, hz, hw⟩ := plainElem_int_inv Try.underlying5 hv
  simp only [Prod.mk.injEq] at hz
  have hb : 0 ≤ a ∧ a ≤ 255 := by
    simp only [Lit.wf, Bool.and_eq_true, decide_eq_true_eq] at hw
    have m1 : IntKind.u8.min = 0 := rfl
    have m2 : IntKind.u8.max = 255 := rfl
    omega
  refine ⟨a.toNat, by omega, ?_⟩
  have e := hz.1
  rw [e, Int.toNat_of_nonneg hb.1]

theorem Look.of_owned {w : World} {b n : Nat} {D : DataW Unit} (h : w.ownsMap Try.prog 5 (plainElem (H := Unit) Try.prog 5) b n D) : ∃ has d, Look w (some b) has d := by
  have hx := fun k => elems_bytes h (k % 256) (Nat.mod_lt _ (by decide))
  refine ⟨fun k => Maps.has D (.int .u8 (k : Int)), fun k => Classical.choose (hx k), fun k => (Classical.choose_spec (hx k)).1, .inr ⟨b, n, D, rfl, h, fun k hk => ⟨rfl, ?_⟩⟩⟩
  have := (Classical.choose_spec (hx k)).2
  rw [← this, Nat.mod_eq_of_lt hk]

theorem Fill.look {w : World} {B : Nat} {r : Option Nat} {n : Nat} (h : Fill w B r n) : ∃ has d, Look w r has d := by
  rcases h with rfl | ⟨b, D, rfl, hB, ho⟩
  · exact ⟨fun _ => false, fun _ => 0, (fun _ => show 0 < 256 by decide), .inl ⟨rfl, fun _ => ⟨rfl, rfl⟩⟩⟩
  · exact Look.of_owned ho

/-- What escMap hands back. -/
def MapOut (w w' : World) (e : Ending) : Prop := ∃ r has d, e = .returned (.map r) ∧ Look w' r has d ∧ Below w.heap.size w w'

set_option maxHeartbeats 1000000 in
theorem escMap_any (ks vs : ByteArray) (w : World) (hks : ks.size ≤ 65536) (hvs : vs.size ≤ 65536) :
    Calls Try.prog 20 #[.string ks, .string vs] w fun e w' => MapOut w w' e := by
  have hnil := fun (w : World) (r : Option Nat) => run_eql_map_nil (P := Try.prog) w 40 5 5 r Try.underlying40
  have hmm := @run_makeMap Try.prog
  obtain ⟨n, hn⟩ : ∃ n, n = min ks.size vs.size := ⟨_, rfl⟩
  have hn1 : n ≤ ks.size := by omega
  have hn2 : n ≤ vs.size := by omega
  have HN := hide hn
  clear hn
  go_enter Try.func20, Try.ntmps20
  go_upto_if 13 with fail
  go_cut [6] from 8 (fun s wx => s = .int .i64 (n : Int) ∧ wx = w)
  case first =>
    by_cases hlt : vs.size < ks.size
    · have hmn : n = vs.size := by have := HN.out; omega
      have HMN := hide hmn
      clear hmn
      go_wp2
      go_meet
      case rel => rw [HMN.out]; exact ⟨rfl, rfl⟩
    · have hmn : n = ks.size := by have := HN.out; omega
      have HMN := hide hmn
      clear hmn
      go_wp2
      go_meet
      case rel => rw [HMN.out]; exact ⟨rfl, rfl⟩
  case rest =>
    obtain ⟨rfl, rfl⟩ := hcut
    go_wp2
    go_loopw [5, 7] (fun m i wr => ∃ (k : Nat) (r : Option Nat), k ≤ n ∧ i = .int .i64 k ∧ m = .map r ∧ Hid (Fill wr wc.heap.size r k) ∧ Hid (Below wc.heap.size wc wr)) (fun _ i _ => n - (intOf i).toNat)
    case atStart => exact ⟨0, none, Nat.zero_le _, rfl, rfl, .inl rfl, Below.refl _ _⟩
    case round =>
      obtain ⟨k, r, hk, rfl, rfl, HF, HB⟩ := hrel
      by_cases hlt : k < n
      · have hk1 : k < ks.size := by omega
        have hk2 : k < vs.size := by omega
        have hb1 := by_at ks k hk1
        have hb2 := by_at vs k hk2
        have hl1 := by_lt ks k
        have hl2 := by_lt vs k
        generalize by_ ks k = x at hb1 hl1
        generalize by_ vs k = y at hb2 hl2
        rcases HF.out with rfl | ⟨b, D, rfl, hbB, ho⟩
        · obtain ⟨w2, hrun, ho2, htu⟩ := ((World.ownsMap_made wr Try.prog 5 (plainElem (H := Unit) Try.prog 5)).drew).store law Try.underlying40 (by decide) (keyAt x hl1) (plainElem_int Try.underlying5 (wf8 y hl2))
          have hf2 : Hid (Fill w2 wc.heap.size (some wr.heap.size) (k + 1)) := .inr ⟨_, _, rfl, HB.out.size, ho2.mono (by omega)⟩
          have hB2 : Hid (Below wc.heap.size wc w2) := (HB.out.alloc HB.out.size _).drew.grown htu.grown (by have := HB.out.size; simp; omega) (fun j hj => by cases hj; exact HB.out.size)
          clear ho2 htu
          go_wp2
          go_region
          all_goals
            go_wp2
            go_roundw
            case rel =>
              first
                | exact ⟨k + 1, some wr.heap.size, by omega, by go_num, rfl, hf2, hB2⟩
                | ((repeat apply Exists.intro); refine ⟨⟨k + 1, some wr.heap.size, by omega, by go_num, rfl, hf2, hB2⟩, ?_⟩; repeat (first | rfl | refine ⟨rfl, ?_⟩))
            case measure => simp [intOf]; omega
        · obtain ⟨w2, hrun, ho2, htu⟩ := (ho.drew).store law Try.underlying40 (by unfold maxLen; omega) (keyAt x hl1) (plainElem_int Try.underlying5 (wf8 y hl2))
          have hf2 : Hid (Fill w2 wc.heap.size (some b) (k + 1)) := .inr ⟨_, _, rfl, hbB, ho2⟩
          have hB2 : Hid (Below wc.heap.size wc w2) := HB.out.drew.grown htu.grown HB.out.size (fun j hj => by cases hj; exact hbB)
          clear ho2 htu ho
          go_wp2
          go_region
          all_goals
            go_wp2
            go_roundw
            case rel =>
              first
                | exact ⟨k + 1, some b, by omega, by go_num, rfl, hf2, hB2⟩
                | ((repeat apply Exists.intro); refine ⟨⟨k + 1, some b, by omega, by go_num, rfl, hf2, hB2⟩, ?_⟩; repeat (first | rfl | refine ⟨rfl, ?_⟩))
            case measure => simp [intOf]; omega
      · obtain ⟨has, d, hl⟩ := HF.out.look
        have HL := hide hl
        clear hl
        go_wp2
        go_ret
        exact ⟨r, has, d, rfl, HL.out, HB.out⟩

end Go.Proofs.Qxb6601022a.Esc
