/-
  No cell of these rows narrows 'for every input' (looked for: loops, veiled, ifaces, maps, wideKeys, modest, calm, conditions, laid).
  DERIVED. THE GIVEN ROWS OF THIS SEAT. 5 by the template 'for every input the law returns true; each argument reads behind the call as it read before'; 0 by the template 'total and deterministic' (their statements: Qxb6604045aTotals.lean).
  GIVEN WITH THE SEED: the statements are not yours to turn. If you find one false, say at which input.
  Laid BY PROGRAM, IN A SANDBOX (cutbox-rows.mjs): the forced cells as the released guide's own fill.sh prints them over the translation 2a5555cb57c3ab6f… (all of the seat's roots in one cut). By AI agents, Wed Nov 11 2026. No macro, syntax, notation, axiom, sorry.
-/
import Derived.Test.Qxb6604045aChecked
import GoSem.Claim
import GoSem.ClaimJoined
import GoSem.ClaimMapViews
import Derived.JoinedTies
import Derived.KernelRfl
namespace Go.Proofs.Qxb6604045a
/- THE CELL 'sum', in the pinned program and in every row, IS THE sha256 OF THE DUMP (.gsa) THAT Qxb6604045aProg.lean LOADS. Nothing in Lean hashes anything: it is a label: what it is worth is what the hold of that sum in a sandbox is worth. -/
noncomputable def Try.pinned : Pinned := { name := "qxb6604045a", sum := "2a5555cb57c3ab6f4fcbf1e7e527a20b5aacecea12b608512b186c96e18db734", checked := Try.checked }
namespace Rows
def none {H : Type} : Left H := { results := [], args := [] }

/-- 'zzlaws_internal_testinput_b1.FnMTUint32AgainstModel': WHATEVER THE INPUT: true; the input reads as it did. -/
def fnMTUint32AgainstModelSpec : ChangeSpec := { name := "fnMTUint32AgainstModel", fn := fun _ => fun
  | [d1, d2] => { results := [.lit (.bool true)], args := [d1, d2] }
  | _ => none }
def fnMTUint32AgainstModelRow : OpenClaim := { program := "qxb6604045a", sum := "2a5555cb57c3ab6f4fcbf1e7e527a20b5aacecea12b608512b186c96e18db734", func := "example.com/strewn/strewn/zzlaws_internal_testinput_b1.FnMTUint32AgainstModel", spec := "fnMTUint32AgainstModel", apart := false }
def FnMTUint32AgainstModelSaid : Prop := fnMTUint32AgainstModelRow.holds Try.pinned (OpenSpec.ofChange fnMTUint32AgainstModelSpec)

/-- ITS FALSE NEIGHBOUR: 'it returns false'. Refute it at one input. -/
def fnMTUint32AgainstModelWrong : ChangeSpec := { name := "fnMTUint32AgainstModel", fn := fun _ => fun
  | [d1, d2] => { results := [.lit (.bool false)], args := [d1, d2] }
  | _ => none }
def FnMTUint32AgainstModelWrongFalsely : Prop := fnMTUint32AgainstModelRow.holds Try.pinned (OpenSpec.ofChange fnMTUint32AgainstModelWrong)

/-- 'zzlaws_internal_testinput_b1.FnMTTwistIgnoresLowBitsOfWord0': WHATEVER THE INPUT: true; the input reads as it did. -/
def fnMTTwistIgnoresLowBitsOfWord0Spec : ChangeSpec := { name := "fnMTTwistIgnoresLowBitsOfWord0", fn := fun _ => fun
  | [d1, d2] => { results := [.lit (.bool true)], args := [d1, d2] }
  | _ => none }
def fnMTTwistIgnoresLowBitsOfWord0Row : OpenClaim := { program := "qxb6604045a", sum := "2a5555cb57c3ab6f4fcbf1e7e527a20b5aacecea12b608512b186c96e18db734", func := "example.com/strewn/strewn/zzlaws_internal_testinput_b1.FnMTTwistIgnoresLowBitsOfWord0", spec := "fnMTTwistIgnoresLowBitsOfWord0", apart := false }
def FnMTTwistIgnoresLowBitsOfWord0Said : Prop := fnMTTwistIgnoresLowBitsOfWord0Row.holds Try.pinned (OpenSpec.ofChange fnMTTwistIgnoresLowBitsOfWord0Spec)

/-- ITS FALSE NEIGHBOUR: 'it returns false'. Refute it at one input. -/
def fnMTTwistIgnoresLowBitsOfWord0Wrong : ChangeSpec := { name := "fnMTTwistIgnoresLowBitsOfWord0", fn := fun _ => fun
  | [d1, d2] => { results := [.lit (.bool false)], args := [d1, d2] }
  | _ => none }
def FnMTTwistIgnoresLowBitsOfWord0WrongFalsely : Prop := fnMTTwistIgnoresLowBitsOfWord0Row.holds Try.pinned (OpenSpec.ofChange fnMTTwistIgnoresLowBitsOfWord0Wrong)

/-- 'zzlaws_internal_testinput_b1.FnMTTwistUndone': WHATEVER THE INPUT: true; the input reads as it did. -/
def fnMTTwistUndoneSpec : ChangeSpec := { name := "fnMTTwistUndone", fn := fun _ => fun
  | [d] => { results := [.lit (.bool true)], args := [d] }
  | _ => none }
def fnMTTwistUndoneRow : OpenClaim := { program := "qxb6604045a", sum := "2a5555cb57c3ab6f4fcbf1e7e527a20b5aacecea12b608512b186c96e18db734", func := "example.com/strewn/strewn/zzlaws_internal_testinput_b1.FnMTTwistUndone", spec := "fnMTTwistUndone", apart := false }
def FnMTTwistUndoneSaid : Prop := fnMTTwistUndoneRow.holds Try.pinned (OpenSpec.ofChange fnMTTwistUndoneSpec)

/-- ITS FALSE NEIGHBOUR: 'it returns false'. Refute it at one input. -/
def fnMTTwistUndoneWrong : ChangeSpec := { name := "fnMTTwistUndone", fn := fun _ => fun
  | [d] => { results := [.lit (.bool false)], args := [d] }
  | _ => none }
def FnMTTwistUndoneWrongFalsely : Prop := fnMTTwistUndoneRow.holds Try.pinned (OpenSpec.ofChange fnMTTwistUndoneWrong)

/-- 'zzlaws_internal_testinput_b1.FnMTDistinctSeedsDistinctFirstBlock': WHATEVER THE INPUT: true; the input reads as it did. -/
def fnMTDistinctSeedsDistinctFirstBlockSpec : ChangeSpec := { name := "fnMTDistinctSeedsDistinctFirstBlock", fn := fun _ => fun
  | [d1, d2] => { results := [.lit (.bool true)], args := [d1, d2] }
  | _ => none }
def fnMTDistinctSeedsDistinctFirstBlockRow : OpenClaim := { program := "qxb6604045a", sum := "2a5555cb57c3ab6f4fcbf1e7e527a20b5aacecea12b608512b186c96e18db734", func := "example.com/strewn/strewn/zzlaws_internal_testinput_b1.FnMTDistinctSeedsDistinctFirstBlock", spec := "fnMTDistinctSeedsDistinctFirstBlock", apart := false }
def FnMTDistinctSeedsDistinctFirstBlockSaid : Prop := fnMTDistinctSeedsDistinctFirstBlockRow.holds Try.pinned (OpenSpec.ofChange fnMTDistinctSeedsDistinctFirstBlockSpec)

/-- ITS FALSE NEIGHBOUR: 'it returns false'. Refute it at one input. -/
def fnMTDistinctSeedsDistinctFirstBlockWrong : ChangeSpec := { name := "fnMTDistinctSeedsDistinctFirstBlock", fn := fun _ => fun
  | [d1, d2] => { results := [.lit (.bool false)], args := [d1, d2] }
  | _ => none }
def FnMTDistinctSeedsDistinctFirstBlockWrongFalsely : Prop := fnMTDistinctSeedsDistinctFirstBlockRow.holds Try.pinned (OpenSpec.ofChange fnMTDistinctSeedsDistinctFirstBlockWrong)

/-- 'zzlaws_internal_testinput_b1.FnMTSeedsAsPythonRandom': WHATEVER THE INPUT: true; the input reads as it did. -/
def fnMTSeedsAsPythonRandomSpec : ChangeSpec := { name := "fnMTSeedsAsPythonRandom", fn := fun _ => fun
  | [] => { results := [.lit (.bool true)], args := [] }
  | _ => none }
def fnMTSeedsAsPythonRandomRow : OpenClaim := { program := "qxb6604045a", sum := "2a5555cb57c3ab6f4fcbf1e7e527a20b5aacecea12b608512b186c96e18db734", func := "example.com/strewn/strewn/zzlaws_internal_testinput_b1.FnMTSeedsAsPythonRandom", spec := "fnMTSeedsAsPythonRandom", apart := false }
def FnMTSeedsAsPythonRandomSaid : Prop := fnMTSeedsAsPythonRandomRow.holds Try.pinned (OpenSpec.ofChange fnMTSeedsAsPythonRandomSpec)

/-- ITS FALSE NEIGHBOUR: 'it returns false'. Refute it at one input. -/
def fnMTSeedsAsPythonRandomWrong : ChangeSpec := { name := "fnMTSeedsAsPythonRandom", fn := fun _ => fun
  | [] => { results := [.lit (.bool false)], args := [] }
  | _ => none }
def FnMTSeedsAsPythonRandomWrongFalsely : Prop := fnMTSeedsAsPythonRandomRow.holds Try.pinned (OpenSpec.ofChange fnMTSeedsAsPythonRandomWrong)

end Rows
end Go.Proofs.Qxb6604045a
