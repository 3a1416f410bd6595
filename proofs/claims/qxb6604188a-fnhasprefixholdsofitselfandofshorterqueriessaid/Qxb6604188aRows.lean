/-
  No cell of these rows narrows 'for every input' (looked for: loops, veiled, ifaces, maps, wideKeys, modest, calm, conditions, laid).
  DERIVED. THE GIVEN ROWS OF THIS SEAT. 1 by the template 'for every input the law returns true; each argument reads behind the call as it read before'; 0 by the template 'total and deterministic' (their statements: Qxb6604188aTotals.lean).
  GIVEN WITH THE SEED: the statements are not yours to turn. If you find one false, say at which input.
  Laid BY PROGRAM, IN A SANDBOX (cutbox-rows.mjs): the forced cells as the released guide's own fill.sh prints them over the translation 98d742274f67dd41… (all of the seat's roots in one cut). By AI agents, Wed Nov 11 2026. No macro, syntax, notation, axiom, sorry.
-/
import Derived.Test.Qxb6604188aChecked
import GoSem.Claim
import GoSem.ClaimJoined
import GoSem.ClaimMapViews
import Derived.JoinedTies
import Derived.KernelRfl
namespace Go.Proofs.Qxb6604188a
/- THE CELL 'sum', in the pinned program and in every row, IS THE sha256 OF THE DUMP (.gsa) THAT Qxb6604188aProg.lean LOADS. Nothing in Lean hashes anything: it is a label: what it is worth is what the hold of that sum in a sandbox is worth. -/
noncomputable def Try.pinned : Pinned := { name := "qxb6604188a", sum := "98d742274f67dd417e3c4ea7b97c7eddd59cd839c85928e2e6e6c5f5330bf669", checked := Try.checked }
namespace Rows
def none {H : Type} : Left H := { results := [], args := [] }

/-- 'zzlaws_pkg_version_b1.FnHasPrefixHoldsOfItselfAndOfShorterQueries': WHATEVER THE INPUT: true; the input reads as it did. -/
def fnHasPrefixHoldsOfItselfAndOfShorterQueriesSpec : ChangeSpec := { name := "fnHasPrefixHoldsOfItselfAndOfShorterQueries", fn := fun _ => fun
  | [d1, d2, d3, d4, d5, d6, d7, d8, d9, d10, d11, d12] => { results := [.lit (.bool true)], args := [d1, d2, d3, d4, d5, d6, d7, d8, d9, d10, d11, d12] }
  | _ => none }
def fnHasPrefixHoldsOfItselfAndOfShorterQueriesRow : OpenClaim := { program := "qxb6604188a", sum := "98d742274f67dd417e3c4ea7b97c7eddd59cd839c85928e2e6e6c5f5330bf669", func := "example.com/oikos/oikos/zzlaws_pkg_version_b1.FnHasPrefixHoldsOfItselfAndOfShorterQueries", spec := "fnHasPrefixHoldsOfItselfAndOfShorterQueries", apart := false }
def FnHasPrefixHoldsOfItselfAndOfShorterQueriesSaid : Prop := fnHasPrefixHoldsOfItselfAndOfShorterQueriesRow.holds Try.pinned (OpenSpec.ofChange fnHasPrefixHoldsOfItselfAndOfShorterQueriesSpec)

/-- ITS FALSE NEIGHBOUR: 'it returns false'. Refute it at one input. -/
def fnHasPrefixHoldsOfItselfAndOfShorterQueriesWrong : ChangeSpec := { name := "fnHasPrefixHoldsOfItselfAndOfShorterQueries", fn := fun _ => fun
  | [d1, d2, d3, d4, d5, d6, d7, d8, d9, d10, d11, d12] => { results := [.lit (.bool false)], args := [d1, d2, d3, d4, d5, d6, d7, d8, d9, d10, d11, d12] }
  | _ => none }
def FnHasPrefixHoldsOfItselfAndOfShorterQueriesWrongFalsely : Prop := fnHasPrefixHoldsOfItselfAndOfShorterQueriesRow.holds Try.pinned (OpenSpec.ofChange fnHasPrefixHoldsOfItselfAndOfShorterQueriesWrong)

end Rows
end Go.Proofs.Qxb6604188a
