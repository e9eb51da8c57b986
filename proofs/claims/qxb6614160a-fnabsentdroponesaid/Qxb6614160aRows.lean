/-
  No cell of these rows narrows 'for every input' (looked for: loops, veiled, ifaces, maps, wideKeys, modest, calm, conditions, laid).
  DERIVED. THE GIVEN ROWS OF THIS SEAT. 4 by the template 'for every input the law returns true; each argument reads behind the call as it read before'; 0 by the template 'total and deterministic' (their statements: Qxb6614160aTotals.lean).
  GIVEN WITH THE SEED: the statements are not yours to turn. If you find one false, say at which input.
  Laid BY PROGRAM, IN A SANDBOX (cutbox-rows.mjs): the forced cells as the released guide's own fill.sh prints them over the translation b07f4c238a7fc7c7… (all of the seat's roots in one cut). By AI agents, Wed Nov 11 2026. No macro, syntax, notation, axiom, sorry.
-/
import Derived.Test.Qxb6614160aChecked
import GoSem.Claim
import GoSem.ClaimJoined
import GoSem.ClaimMapViews
import Derived.JoinedTies
import Derived.KernelRfl
namespace Go.Proofs.Qxb6614160a
/- THE CELL 'sum', in the pinned program and in every row, IS THE sha256 OF THE DUMP (.gsa) THAT Qxb6614160aProg.lean LOADS. Nothing in Lean hashes anything: it is a label: what it is worth is what the hold of that sum in a sandbox is worth. -/
noncomputable def Try.pinned : Pinned := { name := "qxb6614160a", sum := "b07f4c238a7fc7c7696b191c5db5b80144d0f4287c087e7ab4081930c9344ca4", checked := Try.checked }
namespace Rows
def none {H : Type} : Left H := { results := [], args := [] }

/-- 'zzlaws_root_b1.FnSkipSpaceAcrossJoin': WHATEVER THE INPUT: true; the input reads as it did. -/
def fnSkipSpaceAcrossJoinSpec : ChangeSpec := { name := "fnSkipSpaceAcrossJoin", fn := fun _ => fun
  | [d1, d2, d3] => { results := [.lit (.bool true)], args := [d1, d2, d3] }
  | _ => none }
def fnSkipSpaceAcrossJoinRow : OpenClaim := { program := "qxb6614160a", sum := "b07f4c238a7fc7c7696b191c5db5b80144d0f4287c087e7ab4081930c9344ca4", func := "example.com/orderless-verdict/orderless-verdict/zzlaws_root_b1.FnSkipSpaceAcrossJoin", spec := "fnSkipSpaceAcrossJoin", apart := false }
def FnSkipSpaceAcrossJoinSaid : Prop := fnSkipSpaceAcrossJoinRow.holds Try.pinned (OpenSpec.ofChange fnSkipSpaceAcrossJoinSpec)

/-- ITS FALSE NEIGHBOUR: 'it returns false'. Refute it at one input. -/
def fnSkipSpaceAcrossJoinWrong : ChangeSpec := { name := "fnSkipSpaceAcrossJoin", fn := fun _ => fun
  | [d1, d2, d3] => { results := [.lit (.bool false)], args := [d1, d2, d3] }
  | _ => none }
def FnSkipSpaceAcrossJoinWrongFalsely : Prop := fnSkipSpaceAcrossJoinRow.holds Try.pinned (OpenSpec.ofChange fnSkipSpaceAcrossJoinWrong)

/-- 'zzlaws_root_b1.FnSkipSpaceInsertedBlank': WHATEVER THE INPUT: true; the input reads as it did. -/
def fnSkipSpaceInsertedBlankSpec : ChangeSpec := { name := "fnSkipSpaceInsertedBlank", fn := fun _ => fun
  | [d1, d2, d3] => { results := [.lit (.bool true)], args := [d1, d2, d3] }
  | _ => none }
def fnSkipSpaceInsertedBlankRow : OpenClaim := { program := "qxb6614160a", sum := "b07f4c238a7fc7c7696b191c5db5b80144d0f4287c087e7ab4081930c9344ca4", func := "example.com/orderless-verdict/orderless-verdict/zzlaws_root_b1.FnSkipSpaceInsertedBlank", spec := "fnSkipSpaceInsertedBlank", apart := false }
def FnSkipSpaceInsertedBlankSaid : Prop := fnSkipSpaceInsertedBlankRow.holds Try.pinned (OpenSpec.ofChange fnSkipSpaceInsertedBlankSpec)

/-- ITS FALSE NEIGHBOUR: 'it returns false'. Refute it at one input. -/
def fnSkipSpaceInsertedBlankWrong : ChangeSpec := { name := "fnSkipSpaceInsertedBlank", fn := fun _ => fun
  | [d1, d2, d3] => { results := [.lit (.bool false)], args := [d1, d2, d3] }
  | _ => none }
def FnSkipSpaceInsertedBlankWrongFalsely : Prop := fnSkipSpaceInsertedBlankRow.holds Try.pinned (OpenSpec.ofChange fnSkipSpaceInsertedBlankWrong)

/-- 'zzlaws_root_b1.FnAbsentAcrossAnyCut': WHATEVER THE INPUT: true; the input reads as it did. -/
def fnAbsentAcrossAnyCutSpec : ChangeSpec := { name := "fnAbsentAcrossAnyCut", fn := fun _ => fun
  | [d1, d2, d3] => { results := [.lit (.bool true)], args := [d1, d2, d3] }
  | _ => none }
def fnAbsentAcrossAnyCutRow : OpenClaim := { program := "qxb6614160a", sum := "b07f4c238a7fc7c7696b191c5db5b80144d0f4287c087e7ab4081930c9344ca4", func := "example.com/orderless-verdict/orderless-verdict/zzlaws_root_b1.FnAbsentAcrossAnyCut", spec := "fnAbsentAcrossAnyCut", apart := false }
def FnAbsentAcrossAnyCutSaid : Prop := fnAbsentAcrossAnyCutRow.holds Try.pinned (OpenSpec.ofChange fnAbsentAcrossAnyCutSpec)

/-- ITS FALSE NEIGHBOUR: 'it returns false'. Refute it at one input. -/
def fnAbsentAcrossAnyCutWrong : ChangeSpec := { name := "fnAbsentAcrossAnyCut", fn := fun _ => fun
  | [d1, d2, d3] => { results := [.lit (.bool false)], args := [d1, d2, d3] }
  | _ => none }
def FnAbsentAcrossAnyCutWrongFalsely : Prop := fnAbsentAcrossAnyCutRow.holds Try.pinned (OpenSpec.ofChange fnAbsentAcrossAnyCutWrong)

/-- 'zzlaws_root_b1.FnAbsentDropOne': WHATEVER THE INPUT: true; the input reads as it did. -/
def fnAbsentDropOneSpec : ChangeSpec := { name := "fnAbsentDropOne", fn := fun _ => fun
  | [d1, d2, d3] => { results := [.lit (.bool true)], args := [d1, d2, d3] }
  | _ => none }
def fnAbsentDropOneRow : OpenClaim := { program := "qxb6614160a", sum := "b07f4c238a7fc7c7696b191c5db5b80144d0f4287c087e7ab4081930c9344ca4", func := "example.com/orderless-verdict/orderless-verdict/zzlaws_root_b1.FnAbsentDropOne", spec := "fnAbsentDropOne", apart := false }
def FnAbsentDropOneSaid : Prop := fnAbsentDropOneRow.holds Try.pinned (OpenSpec.ofChange fnAbsentDropOneSpec)

/-- ITS FALSE NEIGHBOUR: 'it returns false'. Refute it at one input. -/
def fnAbsentDropOneWrong : ChangeSpec := { name := "fnAbsentDropOne", fn := fun _ => fun
  | [d1, d2, d3] => { results := [.lit (.bool false)], args := [d1, d2, d3] }
  | _ => none }
def FnAbsentDropOneWrongFalsely : Prop := fnAbsentDropOneRow.holds Try.pinned (OpenSpec.ofChange fnAbsentDropOneWrong)

end Rows
end Go.Proofs.Qxb6614160a
