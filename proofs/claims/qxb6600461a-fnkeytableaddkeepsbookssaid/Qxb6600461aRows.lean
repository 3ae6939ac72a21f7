/-
  No cell of these rows narrows 'for every input' (looked for: loops, veiled, ifaces, maps, wideKeys, modest, calm, conditions, laid).
  DERIVED. THE GIVEN ROWS OF THIS SEAT. 7 by the template 'for every input the law returns true; each argument reads behind the call as it read before'; 0 by the template 'total and deterministic' (their statements: Qxb6600461aTotals.lean).
  GIVEN WITH THE SEED: the statements are not yours to turn. If you find one false, say at which input.
  Laid BY PROGRAM, IN A SANDBOX (cutbox-rows.mjs): the forced cells as the released guide's own fill.sh prints them over the translation e760c27f296165b6… (all of the seat's roots in one cut). By AI agents, Wed Nov 11 2026. No macro, syntax, notation, axiom, sorry.
-/
import Derived.Test.Qxb6600461aChecked
import GoSem.Claim
import GoSem.ClaimJoined
import GoSem.ClaimMapViews
import Derived.JoinedTies
import Derived.KernelRfl
namespace Go.Proofs.Qxb6600461a
/- THE CELL 'sum', in the pinned program and in every row, IS THE sha256 OF THE DUMP (.gsa) THAT Qxb6600461aProg.lean LOADS. Nothing in Lean hashes anything: it is a label: what it is worth is what the hold of that sum in a sandbox is worth. -/
noncomputable def Try.pinned : Pinned := { name := "qxb6600461a", sum := "e760c27f296165b63bb68139b5f886694aef3aff4563096b277bfb944576b0f9", checked := Try.checked }
namespace Rows
def none {H : Type} : Left H := { results := [], args := [] }

/-- 'zzlaws_root_b1.FnIsDecimalMatchesCountModel': WHATEVER THE INPUT: true; the input reads as it did. -/
def fnIsDecimalMatchesCountModelSpec : ChangeSpec := { name := "fnIsDecimalMatchesCountModel", fn := fun _ => fun
  | [d1, d2] => { results := [.lit (.bool true)], args := [d1, d2] }
  | _ => none }
def fnIsDecimalMatchesCountModelRow : OpenClaim := { program := "qxb6600461a", sum := "e760c27f296165b63bb68139b5f886694aef3aff4563096b277bfb944576b0f9", func := "example.com/saguaro/saguaro/zzlaws_root_b1.FnIsDecimalMatchesCountModel", spec := "fnIsDecimalMatchesCountModel", apart := false }
def FnIsDecimalMatchesCountModelSaid : Prop := fnIsDecimalMatchesCountModelRow.holds Try.pinned (OpenSpec.ofChange fnIsDecimalMatchesCountModelSpec)

/-- ITS FALSE NEIGHBOUR: 'it returns false'. Refute it at one input. -/
def fnIsDecimalMatchesCountModelWrong : ChangeSpec := { name := "fnIsDecimalMatchesCountModel", fn := fun _ => fun
  | [d1, d2] => { results := [.lit (.bool false)], args := [d1, d2] }
  | _ => none }
def FnIsDecimalMatchesCountModelWrongFalsely : Prop := fnIsDecimalMatchesCountModelRow.holds Try.pinned (OpenSpec.ofChange fnIsDecimalMatchesCountModelWrong)

/-- 'zzlaws_root_b1.FnIsDecimalJoinsAtOnePoint': WHATEVER THE INPUT: true; the input reads as it did. -/
def fnIsDecimalJoinsAtOnePointSpec : ChangeSpec := { name := "fnIsDecimalJoinsAtOnePoint", fn := fun _ => fun
  | [d1, d2] => { results := [.lit (.bool true)], args := [d1, d2] }
  | _ => none }
def fnIsDecimalJoinsAtOnePointRow : OpenClaim := { program := "qxb6600461a", sum := "e760c27f296165b63bb68139b5f886694aef3aff4563096b277bfb944576b0f9", func := "example.com/saguaro/saguaro/zzlaws_root_b1.FnIsDecimalJoinsAtOnePoint", spec := "fnIsDecimalJoinsAtOnePoint", apart := false }
def FnIsDecimalJoinsAtOnePointSaid : Prop := fnIsDecimalJoinsAtOnePointRow.holds Try.pinned (OpenSpec.ofChange fnIsDecimalJoinsAtOnePointSpec)

/-- ITS FALSE NEIGHBOUR: 'it returns false'. Refute it at one input. -/
def fnIsDecimalJoinsAtOnePointWrong : ChangeSpec := { name := "fnIsDecimalJoinsAtOnePoint", fn := fun _ => fun
  | [d1, d2] => { results := [.lit (.bool false)], args := [d1, d2] }
  | _ => none }
def FnIsDecimalJoinsAtOnePointWrongFalsely : Prop := fnIsDecimalJoinsAtOnePointRow.holds Try.pinned (OpenSpec.ofChange fnIsDecimalJoinsAtOnePointWrong)

/-- 'zzlaws_root_b1.FnAdmitMatchesMinModel': WHATEVER THE INPUT: true; the input reads as it did. -/
def fnAdmitMatchesMinModelSpec : ChangeSpec := { name := "fnAdmitMatchesMinModel", fn := fun _ => fun
  | [d1, d2, d3] => { results := [.lit (.bool true)], args := [d1, d2, d3] }
  | _ => none }
def fnAdmitMatchesMinModelRow : OpenClaim := { program := "qxb6600461a", sum := "e760c27f296165b63bb68139b5f886694aef3aff4563096b277bfb944576b0f9", func := "example.com/saguaro/saguaro/zzlaws_root_b1.FnAdmitMatchesMinModel", spec := "fnAdmitMatchesMinModel", apart := false }
def FnAdmitMatchesMinModelSaid : Prop := fnAdmitMatchesMinModelRow.holds Try.pinned (OpenSpec.ofChange fnAdmitMatchesMinModelSpec)

/-- ITS FALSE NEIGHBOUR: 'it returns false'. Refute it at one input. -/
def fnAdmitMatchesMinModelWrong : ChangeSpec := { name := "fnAdmitMatchesMinModel", fn := fun _ => fun
  | [d1, d2, d3] => { results := [.lit (.bool false)], args := [d1, d2, d3] }
  | _ => none }
def FnAdmitMatchesMinModelWrongFalsely : Prop := fnAdmitMatchesMinModelRow.holds Try.pinned (OpenSpec.ofChange fnAdmitMatchesMinModelWrong)

/-- 'zzlaws_root_b1.FnAdmitTakeSplits': WHATEVER THE INPUT: true; the input reads as it did. -/
def fnAdmitTakeSplitsSpec : ChangeSpec := { name := "fnAdmitTakeSplits", fn := fun _ => fun
  | [d1, d2, d3] => { results := [.lit (.bool true)], args := [d1, d2, d3] }
  | _ => none }
def fnAdmitTakeSplitsRow : OpenClaim := { program := "qxb6600461a", sum := "e760c27f296165b63bb68139b5f886694aef3aff4563096b277bfb944576b0f9", func := "example.com/saguaro/saguaro/zzlaws_root_b1.FnAdmitTakeSplits", spec := "fnAdmitTakeSplits", apart := false }
def FnAdmitTakeSplitsSaid : Prop := fnAdmitTakeSplitsRow.holds Try.pinned (OpenSpec.ofChange fnAdmitTakeSplitsSpec)

/-- ITS FALSE NEIGHBOUR: 'it returns false'. Refute it at one input. -/
def fnAdmitTakeSplitsWrong : ChangeSpec := { name := "fnAdmitTakeSplits", fn := fun _ => fun
  | [d1, d2, d3] => { results := [.lit (.bool false)], args := [d1, d2, d3] }
  | _ => none }
def FnAdmitTakeSplitsWrongFalsely : Prop := fnAdmitTakeSplitsRow.holds Try.pinned (OpenSpec.ofChange fnAdmitTakeSplitsWrong)

/-- 'zzlaws_root_b1.FnAdmitSmallerCountPasses': WHATEVER THE INPUT: true; the input reads as it did. -/
def fnAdmitSmallerCountPassesSpec : ChangeSpec := { name := "fnAdmitSmallerCountPasses", fn := fun _ => fun
  | [d1, d2, d3] => { results := [.lit (.bool true)], args := [d1, d2, d3] }
  | _ => none }
def fnAdmitSmallerCountPassesRow : OpenClaim := { program := "qxb6600461a", sum := "e760c27f296165b63bb68139b5f886694aef3aff4563096b277bfb944576b0f9", func := "example.com/saguaro/saguaro/zzlaws_root_b1.FnAdmitSmallerCountPasses", spec := "fnAdmitSmallerCountPasses", apart := false }
def FnAdmitSmallerCountPassesSaid : Prop := fnAdmitSmallerCountPassesRow.holds Try.pinned (OpenSpec.ofChange fnAdmitSmallerCountPassesSpec)

/-- ITS FALSE NEIGHBOUR: 'it returns false'. Refute it at one input. -/
def fnAdmitSmallerCountPassesWrong : ChangeSpec := { name := "fnAdmitSmallerCountPasses", fn := fun _ => fun
  | [d1, d2, d3] => { results := [.lit (.bool false)], args := [d1, d2, d3] }
  | _ => none }
def FnAdmitSmallerCountPassesWrongFalsely : Prop := fnAdmitSmallerCountPassesRow.holds Try.pinned (OpenSpec.ofChange fnAdmitSmallerCountPassesWrong)

/-- 'zzlaws_root_b1.FnKeyTableAddKeepsBooks': WHATEVER THE INPUT: true; the input reads as it did. -/
def fnKeyTableAddKeepsBooksSpec : ChangeSpec := { name := "fnKeyTableAddKeepsBooks", fn := fun _ => fun
  | [d1, d2, d3, d4, d5] => { results := [.lit (.bool true)], args := [d1, d2, d3, d4, d5] }
  | _ => none }
def fnKeyTableAddKeepsBooksRow : OpenClaim := { program := "qxb6600461a", sum := "e760c27f296165b63bb68139b5f886694aef3aff4563096b277bfb944576b0f9", func := "example.com/saguaro/saguaro/zzlaws_root_b1.FnKeyTableAddKeepsBooks", spec := "fnKeyTableAddKeepsBooks", apart := false }
def FnKeyTableAddKeepsBooksSaid : Prop := fnKeyTableAddKeepsBooksRow.holds Try.pinned (OpenSpec.ofChange fnKeyTableAddKeepsBooksSpec)

/-- ITS FALSE NEIGHBOUR: 'it returns false'. Refute it at one input. -/
def fnKeyTableAddKeepsBooksWrong : ChangeSpec := { name := "fnKeyTableAddKeepsBooks", fn := fun _ => fun
  | [d1, d2, d3, d4, d5] => { results := [.lit (.bool false)], args := [d1, d2, d3, d4, d5] }
  | _ => none }
def FnKeyTableAddKeepsBooksWrongFalsely : Prop := fnKeyTableAddKeepsBooksRow.holds Try.pinned (OpenSpec.ofChange fnKeyTableAddKeepsBooksWrong)

/-- 'zzlaws_root_b1.FnKeyTableAddIndexFindsEveryKey': WHATEVER THE INPUT: true; the input reads as it did. -/
def fnKeyTableAddIndexFindsEveryKeySpec : ChangeSpec := { name := "fnKeyTableAddIndexFindsEveryKey", fn := fun _ => fun
  | [d1, d2, d3, d4, d5] => { results := [.lit (.bool true)], args := [d1, d2, d3, d4, d5] }
  | _ => none }
def fnKeyTableAddIndexFindsEveryKeyRow : OpenClaim := { program := "qxb6600461a", sum := "e760c27f296165b63bb68139b5f886694aef3aff4563096b277bfb944576b0f9", func := "example.com/saguaro/saguaro/zzlaws_root_b1.FnKeyTableAddIndexFindsEveryKey", spec := "fnKeyTableAddIndexFindsEveryKey", apart := false }
def FnKeyTableAddIndexFindsEveryKeySaid : Prop := fnKeyTableAddIndexFindsEveryKeyRow.holds Try.pinned (OpenSpec.ofChange fnKeyTableAddIndexFindsEveryKeySpec)

/-- ITS FALSE NEIGHBOUR: 'it returns false'. Refute it at one input. -/
def fnKeyTableAddIndexFindsEveryKeyWrong : ChangeSpec := { name := "fnKeyTableAddIndexFindsEveryKey", fn := fun _ => fun
  | [d1, d2, d3, d4, d5] => { results := [.lit (.bool false)], args := [d1, d2, d3, d4, d5] }
  | _ => none }
def FnKeyTableAddIndexFindsEveryKeyWrongFalsely : Prop := fnKeyTableAddIndexFindsEveryKeyRow.holds Try.pinned (OpenSpec.ofChange fnKeyTableAddIndexFindsEveryKeyWrong)

end Rows
end Go.Proofs.Qxb6600461a
