/-
  DERIVED. GIVEN WITH THE SEED: THE CARDS: each row of YtdgckbjfnbljkaaDoorRows.lean that lists a variable, with what it lists TIED to the program's text (the seventh form; the later family's looks); each row that meets fmt, with fmt's text TOLD by the authors' own Lean function (tested against real Go, not proved from fmt's source: count such statements apart). THE CARD IS WHAT COUNTS. Prove the row's statement (the work); the ties are given (YtdgckbjfnbljkaaDoorTie.lean); close each card by the builder's one call (the guide's Derived/Test/ToyasCard.lean, 'card_holds'). Laid BY PROGRAM, IN A SANDBOX (cutbox-door.mjs). By AI agents, Wed Nov 11 2026. No macro, syntax, notation, axiom, sorry.
-/
import Derived.Test.YtdgckbjfnbljkaaDoorRows
import GoSem.ClaimSeven
namespace Go.Proofs.YtdgckbjfnbljkaaDoor
namespace Rows

/-- THE TIED CARD OF 'laws.FnStrictForm'. -/
def fnStrictFormCard : Claim7 := { stood := { row := fnStrictFormRow, standIns := [], harness := (true, "a17dd73389e27bf6a6209cc33c429630cbdb81d39782c543aec592046e8fb20f"), looks := false }, kinds := [], alts := [], laidByText := true, laidKinds := [.sentinel, .sentinel, .sentinel], laidTests := true, laidLooks := .later }
def FnStrictFormCardSaid : Prop := Claim7.holds Tryd.pinned (.plain (OpenSpec.ofChange fnStrictFormSpec)) fnStrictFormCard

/-- THE SECOND FORM's CARD OF 'laws.FnStrictForm'. -/
def fnStrictFormUptoCard : Claim7 := { stood := { row := fnStrictFormUptoRow, standIns := [], harness := (true, "a17dd73389e27bf6a6209cc33c429630cbdb81d39782c543aec592046e8fb20f"), looks := false }, kinds := [], alts := [], laidByText := true, laidKinds := [.sentinel, .sentinel, .sentinel], laidTests := true, laidLooks := .later }
def FnStrictFormUptoCardSaid : Prop := Claim7.holds Tryd.pinned (.plain (OpenSpec.upto fnStrictFormSpec)) fnStrictFormUptoCard
end Rows
end Go.Proofs.YtdgckbjfnbljkaaDoor
