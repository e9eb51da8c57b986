/-
  No cell of these rows narrows 'for every input' (looked for: loops, veiled, ifaces, maps, wideKeys, modest, calm, conditions, laid).
  DERIVED. THE GIVEN ROWS OF THIS SEAT. 4 by the template 'for every input the law returns true; each argument reads behind the call as it read before'; 0 by the template 'total and deterministic' (their statements: Qxb6613518aTotals.lean).
  GIVEN WITH THE SEED: the statements are not yours to turn. If you find one false, say at which input.
  Laid BY PROGRAM, IN A SANDBOX (cutbox-rows.mjs): the forced cells as the released guide's own fill.sh prints them over the translation d84a88b3af311984… (all of the seat's roots in one cut). By AI agents, Wed Nov 11 2026. No macro, syntax, notation, axiom, sorry.
-/
import Derived.Test.Qxb6613518aChecked
import GoSem.Claim
import GoSem.ClaimJoined
import GoSem.ClaimMapViews
import Derived.JoinedTies
import Derived.KernelRfl
namespace Go.Proofs.Qxb6613518a
/- THE CELL 'sum', in the pinned program and in every row, IS THE sha256 OF THE DUMP (.gsa) THAT Qxb6613518aProg.lean LOADS. Nothing in Lean hashes anything: it is a label: what it is worth is what the hold of that sum in a sandbox is worth. -/
noncomputable def Try.pinned : Pinned := { name := "qxb6613518a", sum := "d84a88b3af3119842807a23d25b2384ccf66cffc893a825a8c069ce2501efe46", checked := Try.checked }
namespace Rows
def none {H : Type} : Left H := { results := [], args := [] }

/-- 'zzlaws_internal_kv_b1.FnBytesLenGrowsByOneByteAPutByte': WHATEVER THE INPUT: true; the input reads as it did. -/
def fnBytesLenGrowsByOneByteAPutByteSpec : ChangeSpec := { name := "fnBytesLenGrowsByOneByteAPutByte", fn := fun _ => fun
  | [d] => { results := [.lit (.bool true)], args := [d] }
  | _ => none }
def fnBytesLenGrowsByOneByteAPutByteRow : OpenClaim := { program := "qxb6613518a", sum := "d84a88b3af3119842807a23d25b2384ccf66cffc893a825a8c069ce2501efe46", func := "example.com/watchline/watchline/zzlaws_internal_kv_b1.FnBytesLenGrowsByOneByteAPutByte", spec := "fnBytesLenGrowsByOneByteAPutByte", apart := false }
def FnBytesLenGrowsByOneByteAPutByteSaid : Prop := fnBytesLenGrowsByOneByteAPutByteRow.holds Try.pinned (OpenSpec.ofChange fnBytesLenGrowsByOneByteAPutByteSpec)

/-- ITS FALSE NEIGHBOUR: 'it returns false'. Refute it at one input. -/
def fnBytesLenGrowsByOneByteAPutByteWrong : ChangeSpec := { name := "fnBytesLenGrowsByOneByteAPutByte", fn := fun _ => fun
  | [d] => { results := [.lit (.bool false)], args := [d] }
  | _ => none }
def FnBytesLenGrowsByOneByteAPutByteWrongFalsely : Prop := fnBytesLenGrowsByOneByteAPutByteRow.holds Try.pinned (OpenSpec.ofChange fnBytesLenGrowsByOneByteAPutByteWrong)

/-- 'zzlaws_internal_kv_b1.FnBytesLenOverAnyCut': WHATEVER THE INPUT: true; the input reads as it did. -/
def fnBytesLenOverAnyCutSpec : ChangeSpec := { name := "fnBytesLenOverAnyCut", fn := fun _ => fun
  | [d1, d2] => { results := [.lit (.bool true)], args := [d1, d2] }
  | _ => none }
def fnBytesLenOverAnyCutRow : OpenClaim := { program := "qxb6613518a", sum := "d84a88b3af3119842807a23d25b2384ccf66cffc893a825a8c069ce2501efe46", func := "example.com/watchline/watchline/zzlaws_internal_kv_b1.FnBytesLenOverAnyCut", spec := "fnBytesLenOverAnyCut", apart := false }
def FnBytesLenOverAnyCutSaid : Prop := fnBytesLenOverAnyCutRow.holds Try.pinned (OpenSpec.ofChange fnBytesLenOverAnyCutSpec)

/-- ITS FALSE NEIGHBOUR: 'it returns false'. Refute it at one input. -/
def fnBytesLenOverAnyCutWrong : ChangeSpec := { name := "fnBytesLenOverAnyCut", fn := fun _ => fun
  | [d1, d2] => { results := [.lit (.bool false)], args := [d1, d2] }
  | _ => none }
def FnBytesLenOverAnyCutWrongFalsely : Prop := fnBytesLenOverAnyCutRow.holds Try.pinned (OpenSpec.ofChange fnBytesLenOverAnyCutWrong)

/-- 'zzlaws_internal_kv_b1.FnKeySpaceExactAndKeyValueSwap': WHATEVER THE INPUT: true; the input reads as it did. -/
def fnKeySpaceExactAndKeyValueSwapSpec : ChangeSpec := { name := "fnKeySpaceExactAndKeyValueSwap", fn := fun _ => fun
  | [d1, d2, d3, d4, d5, d6] => { results := [.lit (.bool true)], args := [d1, d2, d3, d4, d5, d6] }
  | _ => none }
def fnKeySpaceExactAndKeyValueSwapRow : OpenClaim := { program := "qxb6613518a", sum := "d84a88b3af3119842807a23d25b2384ccf66cffc893a825a8c069ce2501efe46", func := "example.com/watchline/watchline/zzlaws_internal_kv_b1.FnKeySpaceExactAndKeyValueSwap", spec := "fnKeySpaceExactAndKeyValueSwap", apart := false }
def FnKeySpaceExactAndKeyValueSwapSaid : Prop := fnKeySpaceExactAndKeyValueSwapRow.holds Try.pinned (OpenSpec.ofChange fnKeySpaceExactAndKeyValueSwapSpec)

/-- ITS FALSE NEIGHBOUR: 'it returns false'. Refute it at one input. -/
def fnKeySpaceExactAndKeyValueSwapWrong : ChangeSpec := { name := "fnKeySpaceExactAndKeyValueSwap", fn := fun _ => fun
  | [d1, d2, d3, d4, d5, d6] => { results := [.lit (.bool false)], args := [d1, d2, d3, d4, d5, d6] }
  | _ => none }
def FnKeySpaceExactAndKeyValueSwapWrongFalsely : Prop := fnKeySpaceExactAndKeyValueSwapRow.holds Try.pinned (OpenSpec.ofChange fnKeySpaceExactAndKeyValueSwapWrong)

/-- 'zzlaws_internal_kv_b1.FnKeySpaceInsertedKeyByteCostsAtLeastAByte': WHATEVER THE INPUT: true; the input reads as it did. -/
def fnKeySpaceInsertedKeyByteCostsAtLeastAByteSpec : ChangeSpec := { name := "fnKeySpaceInsertedKeyByteCostsAtLeastAByte", fn := fun _ => fun
  | [d1, d2, d3, d4, d5, d6, d7, d8] => { results := [.lit (.bool true)], args := [d1, d2, d3, d4, d5, d6, d7, d8] }
  | _ => none }
def fnKeySpaceInsertedKeyByteCostsAtLeastAByteRow : OpenClaim := { program := "qxb6613518a", sum := "d84a88b3af3119842807a23d25b2384ccf66cffc893a825a8c069ce2501efe46", func := "example.com/watchline/watchline/zzlaws_internal_kv_b1.FnKeySpaceInsertedKeyByteCostsAtLeastAByte", spec := "fnKeySpaceInsertedKeyByteCostsAtLeastAByte", apart := false }
def FnKeySpaceInsertedKeyByteCostsAtLeastAByteSaid : Prop := fnKeySpaceInsertedKeyByteCostsAtLeastAByteRow.holds Try.pinned (OpenSpec.ofChange fnKeySpaceInsertedKeyByteCostsAtLeastAByteSpec)

/-- ITS FALSE NEIGHBOUR: 'it returns false'. Refute it at one input. -/
def fnKeySpaceInsertedKeyByteCostsAtLeastAByteWrong : ChangeSpec := { name := "fnKeySpaceInsertedKeyByteCostsAtLeastAByte", fn := fun _ => fun
  | [d1, d2, d3, d4, d5, d6, d7, d8] => { results := [.lit (.bool false)], args := [d1, d2, d3, d4, d5, d6, d7, d8] }
  | _ => none }
def FnKeySpaceInsertedKeyByteCostsAtLeastAByteWrongFalsely : Prop := fnKeySpaceInsertedKeyByteCostsAtLeastAByteRow.holds Try.pinned (OpenSpec.ofChange fnKeySpaceInsertedKeyByteCostsAtLeastAByteWrong)

end Rows
end Go.Proofs.Qxb6613518a
