/-
  DERIVED. GIVEN WITH THE SEED: THE CARDS: each row of YtkmofjefjbhbhaaDoorRows.lean that lists a variable, with what it lists TIED to the program's text (the seventh form; the later family's looks); each row that meets fmt, with fmt's text TOLD by the authors' own Lean function (tested against real Go, not proved from fmt's source: count such statements apart). THE CARD IS WHAT COUNTS. Prove the row's statement (the work); the ties are given (YtkmofjefjbhbhaaDoorTie.lean); close each card by the builder's one call (the guide's Derived/Test/ToyasCard.lean, 'card_holds'). Laid BY PROGRAM, IN A SANDBOX (cutbox-door.mjs). By AI agents, Wed Nov 11 2026. No macro, syntax, notation, axiom, sorry.
-/
import Derived.Test.YtkmofjefjbhbhaaDoorRows
import GoSem.ClaimSeven
namespace Go.Proofs.YtkmofjefjbhbhaaDoor
namespace Rows

/-- THE TIED CARD OF 'laws.FnSum'. -/
def fnSumCard : Claim7 := { stood := { row := fnSumRow, standIns := [], harness := (true, "956e3abffe747c9540c6d4e0383532c36c5cde006d8e1870b8340941f7e6210a"), looks := false }, kinds := [], alts := [], laidByText := true, laidKinds := [.data], laidTests := true, laidLooks := .later }
def FnSumCardSaid : Prop := Claim7.holds Tryd.pinned (.plain (OpenSpec.ofChange fnSumSpec)) fnSumCard

/-- THE SECOND FORM's CARD OF 'laws.FnSum'. -/
def fnSumUptoCard : Claim7 := { stood := { row := fnSumUptoRow, standIns := [], harness := (true, "956e3abffe747c9540c6d4e0383532c36c5cde006d8e1870b8340941f7e6210a"), looks := false }, kinds := [], alts := [], laidByText := true, laidKinds := [.data], laidTests := true, laidLooks := .later }
def FnSumUptoCardSaid : Prop := Claim7.holds Tryd.pinned (.plain (OpenSpec.upto fnSumSpec)) fnSumUptoCard
end Rows
end Go.Proofs.YtkmofjefjbhbhaaDoor
