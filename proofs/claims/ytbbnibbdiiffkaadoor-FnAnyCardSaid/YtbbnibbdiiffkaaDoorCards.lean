/-
  DERIVED. GIVEN WITH THE SEED: THE CARDS: each row of YtbbnibbdiiffkaaDoorRows.lean that lists a variable, with what it lists TIED to the program's text (the seventh form; the later family's looks); each row that meets fmt, with fmt's text TOLD by the authors' own Lean function (tested against real Go, not proved from fmt's source: count such statements apart). THE CARD IS WHAT COUNTS. Prove the row's statement (the work); the ties are given (YtbbnibbdiiffkaaDoorTie.lean); close each card by the builder's one call (the guide's Derived/Test/ToyasCard.lean, 'card_holds'). Laid BY PROGRAM, IN A SANDBOX (cutbox-door.mjs). By AI agents, Wed Nov 11 2026. No macro, syntax, notation, axiom, sorry.
-/
import Derived.Test.YtbbnibbdiiffkaaDoorRows
import GoSem.ClaimSeven
namespace Go.Proofs.YtbbnibbdiiffkaaDoor
namespace Rows

/-- THE TIED CARD OF 'laws.FnAny'. -/
def fnAnyCard : Claim7 := { stood := { row := fnAnyRow, standIns := [], harness := (true, "f98948014e13a67678ca0f88961a45487c9dfbd280ce8b290036215e24d3218b"), looks := true }, kinds := [], alts := [], laidByText := true, laidKinds := [.sentinel, .sentinel, .sentinel, .data], laidTests := true, laidLooks := .later }
def FnAnyCardSaid : Prop := Claim7.holds Tryd.pinned (.plain (OpenSpec.ofChange fnAnySpec)) fnAnyCard

/-- THE SECOND FORM's CARD OF 'laws.FnAny'. -/
def fnAnyUptoCard : Claim7 := { stood := { row := fnAnyUptoRow, standIns := [], harness := (true, "f98948014e13a67678ca0f88961a45487c9dfbd280ce8b290036215e24d3218b"), looks := true }, kinds := [], alts := [], laidByText := true, laidKinds := [.sentinel, .sentinel, .sentinel, .data], laidTests := true, laidLooks := .later }
def FnAnyUptoCardSaid : Prop := Claim7.holds Tryd.pinned (.plain (OpenSpec.upto fnAnySpec)) fnAnyUptoCard
end Rows
end Go.Proofs.YtbbnibbdiiffkaaDoor
