/-
  The statement FnKeyTableAddKeepsBooksSaid, proved: the frame of the guide (Below) over the walk of Qxb6600461aKtBooks.
-/
import Derived.Test.Qxb6600461aRows
import Derived.Test.Qxb6600461aKtBooks
import Derived.WalkKit
import Derived.ProofKit
import Derived.OpenShut
import Derived.ShutString
import Derived.ChangeOld
import Derived.Below
import Derived.SliceStrings
namespace Go.Proofs.Qxb6600461a.fnKeyTableAddKeepsBooks
open Go.ChangeShapes Go.WideShapes Go.ChangeAt Go.RowKit
open Go.ChangeMaps (open_string shut_string)
set_option linter.unusedVariables false

theorem own : ownKnob Try.prog.godebug = none := by kernel_rfl
theorem laidOut : laidOutB Try.prog = true := by kernel_rfl

/-- A slice of uint64 that came in: nil, or a row of cells. -/
def IsRow (w : World) (a : Option Addr) (len : Nat) (zs : List Int) : Prop :=
  (a = none ∧ len = 0) ∨ ∃ x, a = some x ∧ len ≤ zs.length ∧ len ≤ maxLen ∧ (∀ i, i < zs.length → w.cell? (x.add i) = some (.int .u64 (zs.getD i 0))) ∧ ∀ n ∈ zs, (Lit.int .u64 n).wf = true
/-- A slice of strings that came in: nil, or a row of cells. -/
def IsStrs (w : World) (a : Option Addr) (len : Nat) (ss : List ByteArray) : Prop :=
  (a = none ∧ len = 0) ∨ ∃ x, a = some x ∧ len ≤ ss.length ∧ len ≤ maxLen ∧ ∀ i, i < ss.length → w.cell? (x.add i) = some (.string (ss.getD i ByteArray.empty))

theorem toNat_bd (zs : List Int) (h : ∀ n ∈ zs, (Lit.int .u64 n).wf = true) (i : Nat) : 0 ≤ zs.getD i 0 ∧ zs.getD i 0 < 18446744073709551616 := by
  by_cases hi : i < zs.length
  · rw [List.getD_eq_getElem?_getD, List.getElem?_eq_getElem hi]
    have := bounds_u64 (h _ (List.getElem_mem hi))
    simp only [Option.getD_some]
    omega
  · rw [List.getD_eq_getElem?_getD, List.getElem?_eq_none (by omega)]
    simp

theorem row_arg {w : World} {a : Option Addr} {len : Nat} {zs : List Int} (h : IsRow w a len zs) : len ≤ 9223372036854775807 ∧ ∃ b o hs, Kt.U64Arg w a len b o hs := by
  rcases h with ⟨rfl, rfl⟩ | ⟨x, rfl, hl, hm, hc, hw⟩
  · exact ⟨by omega, 0, 0, fun _ => 0, fun h => absurd h (by omega), fun i hi => absurd hi (by omega), fun _ => by omega⟩
  · unfold maxLen at hm
    refine ⟨by omega, ?_⟩
    by_cases hz : 0 < len
    · obtain ⟨b, o, rfl, hc'⟩ := ints_at hc (by omega)
      refine ⟨b, o, fun i => (zs.getD i 0).toNat, fun _ => rfl, fun i hi => ?_, fun i => ?_⟩
      · rw [hc' i (by omega)]
        have := toNat_bd zs hw i
        rw [Int.toNat_of_nonneg this.1]
      · have := toNat_bd zs hw i
        show (zs.getD i 0).toNat < _
        omega
    · exact ⟨0, 0, fun _ => 0, fun h => absurd h (by omega), fun i hi => absurd hi (by omega), fun _ => by omega⟩

theorem strs_arg {w : World} {a : Option Addr} {len : Nat} {ss : List ByteArray} (h : IsStrs w a len ss) : len ≤ 9223372036854775807 ∧ ∃ b o K, Kt.StrArg w a len b o K := by
  rcases h with ⟨rfl, rfl⟩ | ⟨x, rfl, hl, hm, hc⟩
  · exact ⟨by omega, 0, 0, fun _ => ByteArray.empty, fun h => absurd h (by omega), fun i hi => absurd hi (by omega)⟩
  · unfold maxLen at hm
    refine ⟨by omega, ?_⟩
    by_cases hz : 0 < len
    · obtain ⟨b, o, spot⟩ := x
      have hspot : spot = none := by simpa [Addr.add] using World.cell?_spot (hc 0 (by omega))
      subst hspot
      exact ⟨b, o, fun i => ss.getD i ByteArray.empty, fun _ => rfl, fun i hi => by rw [← Go.WideShapes.add_plain]; exact hc i (by omega)⟩
    · exact ⟨0, 0, fun _ => ByteArray.empty, fun h => absurd h (by omega), fun i hi => absurd hi (by omega)⟩

theorem walk (a0 : Int) (a1 : Bool) (a2 : Option Addr) (len2 cap2 : Nat) (z2 : List ByteArray) (a3 : Option Addr) (len3 cap3 : Nat) (z3 : List Int) (a4 : Int) (w : World) (w0 : (Lit.int .u8 a0).wf = true) (w2 : IsStrs w a2 len2 z2) (w3 : IsRow w a3 len3 z3) (w4 : (Lit.int .i64 a4).wf = true) :
    Calls Try.prog 8 #[.int .u8 a0, .bool a1, .slice a2 len2 cap2, .slice a3 len3 cap3, .int .i64 a4] w fun e w' => e = .returned (.bool true) ∧ Below w.heap.size w w' := by
  have b0 := bounds_u8 w0
  obtain ⟨e, rfl⟩ := Int.eq_ofNat_of_zero_le b0.1
  obtain ⟨h2, b, o, K, hK⟩ := strs_arg w2
  obtain ⟨h3, hb, ho, hs, hH⟩ := row_arg w3
  exact Kt.books_any e len2 len3 b o hb ho cap2 cap3 a1 a2 a3 K hs a4 w (by omega) hK hH h2 h3 (bounds_i64 w4)

set_option maxRecDepth 100000 in
theorem lifted (os : Os) (started : os.Started) (H : Type) (enc : TypeId × Value → H) :
    ReturnsInHanded {} Try.checked os 8 .any (Rows.fnKeyTableAddKeepsBooksSpec.pre6 enc Try.prog Try.f8 Rows.fnKeyTableAddKeepsBooksRow.domain false) (Rows.fnKeyTableAddKeepsBooksSpec.post enc Try.prog Try.f8 false true false false) := by
  refine returnsInHanded_of_change (C := Try.checked) own started (by kernel_rfl) Try.func8
    (ChangeSpec.witness6 (enc := enc) (C := Try.checked) false ⟨#[], #[.int .u8 0, .bool false, .slice none 0 0, .slice none 0 0, .int .i64 0], []⟩ 8 (by kernel_rfl) (by kernel_rfl) (by kernel_rfl) (by kernel_rfl)) ?_
  intro W base args ds gs before hval0 hW hcnd _
  have hval : ∀ (j : Nat) t v, Try.f8.params[j]? = some t → args[j]? = some v → Value.okWide Try.prog W .any base t v := hval0
  have hW' := hW
  obtain ⟨p, q, hA0, hV, rfl, hfz, hnd⟩ := hW
  have hA : DataW.TrodAll enc Try.prog W 0 (fun _ => true) true Try.f8.params.toList args.toList ds p := hA0
  rw [Try.params8] at hA hval
  obtain ⟨v0, vs0, d0, ds0, p0, q0, hargs, rfl, rfl, h0, r0⟩ := trodAll_cons hA
  obtain ⟨v1, vs1, d1, ds1, p1, q1, rfl, rfl, rfl, h1, r1⟩ := trodAll_cons r0
  obtain ⟨v2, vs2, d2, ds2, p2, q2, rfl, rfl, rfl, h2, r2⟩ := trodAll_cons r1
  obtain ⟨v3, vs3, d3, ds3, p3, q3, rfl, rfl, rfl, h3, r3⟩ := trodAll_cons r2
  obtain ⟨v4, vs4, d4, ds4, p4, q4, rfl, rfl, rfl, h4, r4⟩ := trodAll_cons r3
  obtain ⟨rfl, rfl, rfl⟩ := trodAll_nil r4
  obtain rfl : args = #[v0, v1, v2, v3, v4] := by cases args; simp_all
  obtain ⟨rfl, rfl⟩ := trodVars_none hV
  obtain ⟨a0, rfl, rfl, rfl, w0⟩ := open_int Try.underlying5 (hval 0 5 v0 rfl rfl) h0
  obtain ⟨a1, rfl, rfl, rfl⟩ := open_bool Try.underlying4 (hval 1 4 v1 rfl rfl) h1
  obtain ⟨a2, len2, cap2, rfl⟩ := okWide_slice Try.underlying29 (hval 2 29 v2 rfl rfl)
  have k2 := h2
  have lt2 : ∀ x ∈ p2, x.block < W.heap.size := by obtain ⟨m, hm⟩ := k2; exact DataW.trod_lt m _ _ _ hm
  obtain ⟨z2, w2⟩ : ∃ ss, IsStrs W a2 len2 ss := by
    obtain ⟨fuel, hf⟩ := h2
    rcases open_strings Try.underlying29 Try.underlying9 (by kernel_rfl) hf with ⟨hcs, _⟩ | ⟨x, l, c, ss, hcs, _, hl, hm, hz, _, hcell, _⟩
    · simp [Value.cells] at hcs
      obtain ⟨rfl, rfl, rfl⟩ := hcs
      exact ⟨[], .inl ⟨rfl, rfl⟩⟩
    · simp [Value.cells] at hcs
      obtain ⟨rfl, rfl, rfl⟩ := hcs
      exact ⟨ss, .inr ⟨_, rfl, by simp at hz; omega, by omega, hcell⟩⟩
  obtain ⟨a3, len3, cap3, rfl⟩ := okWide_slice Try.underlying30 (hval 3 30 v3 rfl rfl)
  have k3 := h3
  have lt3 : ∀ x ∈ p3, x.block < W.heap.size := by obtain ⟨m, hm⟩ := k3; exact DataW.trod_lt m _ _ _ hm
  obtain ⟨z3, w3⟩ : ∃ zs, IsRow W a3 len3 zs := by
    obtain ⟨fuel, hf⟩ := h3
    rcases open_ints Try.underlying30 Try.underlying39 (by kernel_rfl) hf with ⟨hcs, _⟩ | ⟨x, l, c, zs, hcs, _, hl, hm, hz, _, hcell, hwz⟩
    · simp [Value.cells] at hcs
      obtain ⟨rfl, rfl, rfl⟩ := hcs
      exact ⟨[], .inl ⟨rfl, rfl⟩⟩
    · simp [Value.cells] at hcs
      obtain ⟨rfl, rfl, rfl⟩ := hcs
      exact ⟨zs, .inr ⟨_, rfl, by simp at hz; omega, by omega, hcell, hwz⟩⟩
  obtain ⟨a4, rfl, rfl, rfl, w4⟩ := open_int Try.underlying3 (hval 4 3 v4 rfl rfl) h4
  clear hA0 hval0
  refine (walk a0 a1 a2 len2 cap2 z2 a3 len3 cap3 z3 a4 W w0 w2 w3 w4).mono fun e W' ⟨he, bel⟩ => ?_
  subst he
  exact ⟨_, rfl, _, _, _, [], _, [], hW', trodAll_mk1 (shut_bool Try.underlying4 _), (trodAll_cons_mk (shut_int Try.underlying5 w0) (trodAll_cons_mk (shut_bool Try.underlying4 _) (trodAll_cons_mk (Below.trod laidOut (by kernel_rfl) (of_decide_eq_true (by kernel_rfl)) k2 bel lt2) (trodAll_cons_mk (Below.trod laidOut (by kernel_rfl) (of_decide_eq_true (by kernel_rfl)) k3 bel lt3) (trodAll_cons_mk (shut_int Try.underlying3 w4) trodAll_mk0))))), rfl, bel.frame _, fun h => by cases h⟩

theorem over : Rows.fnKeyTableAddKeepsBooksRow.holds Try.pinned (OpenSpec.ofChange Rows.fnKeyTableAddKeepsBooksSpec) :=
  OpenClaim.holds_of_wide 8 Try.f8 rfl rfl rfl rfl rfl rfl rfl ⟨rfl, rfl, rfl, rfl, rfl⟩ rfl rfl rfl rfl rfl (by kernel_rfl) Try.func8 (by kernel_rfl)
    (of_decide_eq_true (by kernel_rfl)) (by unfold Func.isWrapper; first | (rw [if_pos (by decide +kernel)]; kernel_rfl) | (rw [if_neg (by decide +kernel)]; exact ⟨rfl, rfl⟩))
    (fun os started H enc _ => lifted os started H enc)

theorem proved : Rows.FnKeyTableAddKeepsBooksSaid := over
end Go.Proofs.Qxb6600461a.fnKeyTableAddKeepsBooks
