/-
  No cell of these rows narrows 'for every input' (looked for: loops, veiled, ifaces, maps, wideKeys, modest, calm, conditions, laid).
  DERIVED. THE GIVEN ROWS OF THIS SEAT. 2 by the template 'for every input the law returns true; each argument reads behind the call as it read before'; 0 by the template 'total and deterministic' (their statements: Qxb6604794aTotals.lean).
  GIVEN WITH THE SEED: the statements are not yours to turn. If you find one false, say at which input.
  Laid BY PROGRAM, IN A SANDBOX (cutbox-rows.mjs): the forced cells as the released guide's own fill.sh prints them over the translation d08a6ab3982ed3c8… (all of the seat's roots in one cut). By AI agents, Wed Nov 11 2026. No macro, syntax, notation, axiom, sorry.
-/
import Derived.Test.Qxb6604794aChecked
import GoSem.Claim
import GoSem.ClaimJoined
import GoSem.ClaimMapViews
import Derived.JoinedTies
import Derived.KernelRfl
namespace Go.Proofs.Qxb6604794a
/- THE CELL 'sum', in the pinned program and in every row, IS THE sha256 OF THE DUMP (.gsa) THAT Qxb6604794aProg.lean LOADS. Nothing in Lean hashes anything: it is a label: what it is worth is what the hold of that sum in a sandbox is worth. -/
noncomputable def Try.pinned : Pinned := { name := "qxb6604794a", sum := "d08a6ab3982ed3c81006c462abe8061ef9b9e536c4012aab0ce47a228448ba37", checked := Try.checked }
namespace Rows
def none {H : Type} : Left H := { results := [], args := [] }

/-- 'zzlaws_internal_access_b1.FnTemplateCoversIsPrefixOfJoined': WHATEVER THE INPUT: true; the input reads as it did. -/
def fnTemplateCoversIsPrefixOfJoinedSpec : ChangeSpec := { name := "fnTemplateCoversIsPrefixOfJoined", fn := fun _ => fun
  | [d1, d2, d3, d4] => { results := [.lit (.bool true)], args := [d1, d2, d3, d4] }
  | _ => none }
def fnTemplateCoversIsPrefixOfJoinedRow : OpenClaim := { program := "qxb6604794a", sum := "d08a6ab3982ed3c81006c462abe8061ef9b9e536c4012aab0ce47a228448ba37", func := "example.com/keyhold/keyhold/zzlaws_internal_access_b1.FnTemplateCoversIsPrefixOfJoined", spec := "fnTemplateCoversIsPrefixOfJoined", apart := false }
def FnTemplateCoversIsPrefixOfJoinedSaid : Prop := fnTemplateCoversIsPrefixOfJoinedRow.holds Try.pinned (OpenSpec.ofChange fnTemplateCoversIsPrefixOfJoinedSpec)

/-- ITS FALSE NEIGHBOUR: 'it returns false'. Refute it at one input. -/
def fnTemplateCoversIsPrefixOfJoinedWrong : ChangeSpec := { name := "fnTemplateCoversIsPrefixOfJoined", fn := fun _ => fun
  | [d1, d2, d3, d4] => { results := [.lit (.bool false)], args := [d1, d2, d3, d4] }
  | _ => none }
def FnTemplateCoversIsPrefixOfJoinedWrongFalsely : Prop := fnTemplateCoversIsPrefixOfJoinedRow.holds Try.pinned (OpenSpec.ofChange fnTemplateCoversIsPrefixOfJoinedWrong)

/-- 'zzlaws_internal_access_b1.FnTemplateCoversKeptUnderLongerKeys': WHATEVER THE INPUT: true; the input reads as it did. -/
def fnTemplateCoversKeptUnderLongerKeysSpec : ChangeSpec := { name := "fnTemplateCoversKeptUnderLongerKeys", fn := fun _ => fun
  | [d1, d2, d3, d4, d5] => { results := [.lit (.bool true)], args := [d1, d2, d3, d4, d5] }
  | _ => none }
def fnTemplateCoversKeptUnderLongerKeysRow : OpenClaim := { program := "qxb6604794a", sum := "d08a6ab3982ed3c81006c462abe8061ef9b9e536c4012aab0ce47a228448ba37", func := "example.com/keyhold/keyhold/zzlaws_internal_access_b1.FnTemplateCoversKeptUnderLongerKeys", spec := "fnTemplateCoversKeptUnderLongerKeys", apart := false }
def FnTemplateCoversKeptUnderLongerKeysSaid : Prop := fnTemplateCoversKeptUnderLongerKeysRow.holds Try.pinned (OpenSpec.ofChange fnTemplateCoversKeptUnderLongerKeysSpec)

/-- ITS FALSE NEIGHBOUR: 'it returns false'. Refute it at one input. -/
def fnTemplateCoversKeptUnderLongerKeysWrong : ChangeSpec := { name := "fnTemplateCoversKeptUnderLongerKeys", fn := fun _ => fun
  | [d1, d2, d3, d4, d5] => { results := [.lit (.bool false)], args := [d1, d2, d3, d4, d5] }
  | _ => none }
def FnTemplateCoversKeptUnderLongerKeysWrongFalsely : Prop := fnTemplateCoversKeptUnderLongerKeysRow.holds Try.pinned (OpenSpec.ofChange fnTemplateCoversKeptUnderLongerKeysWrong)

end Rows
end Go.Proofs.Qxb6604794a
