/-
  DERIVED. GIVEN WITH THE SEED: THE CARDS: each row of Qxb6604065aDoorRows.lean that lists a variable, with what it lists TIED to the program's text (the seventh form; the later family's looks); each row that meets fmt, with fmt's text TOLD by the authors' own Lean function (tested against real Go, not proved from fmt's source: count such statements apart). THE CARD IS WHAT COUNTS. Prove the row's statement (the work); the ties are given (Qxb6604065aDoorTie.lean); close each card by the builder's one call (the guide's Derived/Test/ToyasCard.lean, 'card_holds'). Laid BY PROGRAM, IN A SANDBOX (cutbox-door.mjs). By AI agents, Wed Nov 11 2026. No macro, syntax, notation, axiom, sorry.
-/
import Derived.Test.Qxb6604065aDoorRows
import GoSem.ClaimSeven
namespace Go.Proofs.Qxb6604065aDoor
namespace Rows

/-- THE TIED CARD OF 'zzlaws_pkg_canonical_b1.FnAppendDigitsMatchesPositionalModel'. -/
def fnAppendDigitsMatchesPositionalModelCard : Claim7 := { stood := { row := fnAppendDigitsMatchesPositionalModelRow, standIns := [], harness := (true, "80df50201fd9878481ca0bc2ad87681d138a97ab5f4dfd18ba1063785af45213"), looks := false }, kinds := [], alts := [], laidByText := true, laidKinds := [.data, .data, .data], laidTests := true, laidLooks := .later }
def FnAppendDigitsMatchesPositionalModelCardSaid : Prop := Claim7.holds Tryd.pinned (.plain (OpenSpec.ofChange fnAppendDigitsMatchesPositionalModelSpec)) fnAppendDigitsMatchesPositionalModelCard

/-- THE TIED CARD OF 'zzlaws_pkg_canonical_b1.FnAppendDigitsReadsBackAsItsDigitsAndPoint'. -/
def fnAppendDigitsReadsBackAsItsDigitsAndPointCard : Claim7 := { stood := { row := fnAppendDigitsReadsBackAsItsDigitsAndPointRow, standIns := [], harness := (true, "80df50201fd9878481ca0bc2ad87681d138a97ab5f4dfd18ba1063785af45213"), looks := false }, kinds := [], alts := [], laidByText := true, laidKinds := [.data, .data, .data], laidTests := true, laidLooks := .later }
def FnAppendDigitsReadsBackAsItsDigitsAndPointCardSaid : Prop := Claim7.holds Tryd.pinned (.plain (OpenSpec.ofChange fnAppendDigitsReadsBackAsItsDigitsAndPointSpec)) fnAppendDigitsReadsBackAsItsDigitsAndPointCard

/-- THE TIED CARD OF 'zzlaws_pkg_canonical_b1.FnAppendFewDigitsMatchesModel'. -/
def fnAppendFewDigitsMatchesModelCard : Claim7 := { stood := { row := fnAppendFewDigitsMatchesModelRow, standIns := [], harness := (true, "80df50201fd9878481ca0bc2ad87681d138a97ab5f4dfd18ba1063785af45213"), looks := false }, kinds := [], alts := [], laidByText := true, laidKinds := [.data, .data, .data, .data, .pinned], laidTests := true, laidLooks := .later }
def FnAppendFewDigitsMatchesModelCardSaid : Prop := Claim7.holds Tryd.pinned (.plain (OpenSpec.ofChange fnAppendFewDigitsMatchesModelSpec)) fnAppendFewDigitsMatchesModelCard
end Rows
end Go.Proofs.Qxb6604065aDoor
