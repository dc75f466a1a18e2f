/-
  DERIVED. GIVEN WITH THE SEED: THE CARDS: each row of YtmojdmgpfpbpeaaDoorRows.lean that lists a variable, with what it lists TIED to the program's text (the seventh form; the later family's looks); each row that meets fmt, with fmt's text TOLD by the authors' own Lean function (tested against real Go, not proved from fmt's source: count such statements apart). THE CARD IS WHAT COUNTS. Prove the row's statement (the work); the ties are given (YtmojdmgpfpbpeaaDoorTie.lean); close each card by the builder's one call (the guide's Derived/Test/ToyasCard.lean, 'card_holds'). Laid BY PROGRAM, IN A SANDBOX (cutbox-door.mjs). By AI agents, Wed Nov 11 2026. No macro, syntax, notation, axiom, sorry.
-/
import Derived.Test.YtmojdmgpfpbpeaaDoorRows
import GoSem.ClaimSeven
namespace Go.Proofs.YtmojdmgpfpbpeaaDoor
namespace Rows

/-- THE TIED CARD OF 'laws.FnExactLeadingInt'. -/
def fnExactLeadingIntCard : Claim7 := { stood := { row := fnExactLeadingIntRow, standIns := [], harness := (true, "d97e3c5d5d3fd4095ce63588d122ceebb595b8922138a0b2abc49570e3f1a1ae"), looks := false }, kinds := [], alts := [], laidByText := true, laidKinds := [.sentinel], laidTests := true, laidLooks := .later }
def FnExactLeadingIntCardSaid : Prop := Claim7.holds Tryd.pinned (.plain (OpenSpec.ofChange fnExactLeadingIntSpec)) fnExactLeadingIntCard

/-- THE TIED CARD OF 'laws.FnExactSignedOffset'. -/
def fnExactSignedOffsetCard : Claim7 := { stood := { row := fnExactSignedOffsetRow, standIns := [], harness := (true, "d97e3c5d5d3fd4095ce63588d122ceebb595b8922138a0b2abc49570e3f1a1ae"), looks := false }, kinds := [], alts := [], laidByText := true, laidKinds := [.sentinel], laidTests := true, laidLooks := .later }
def FnExactSignedOffsetCardSaid : Prop := Claim7.holds Tryd.pinned (.plain (OpenSpec.ofChange fnExactSignedOffsetSpec)) fnExactSignedOffsetCard

/-- THE TIED CARD OF 'laws.FnExactNanoseconds'. -/
def fnExactNanosecondsCard : Claim7 := { stood := { row := fnExactNanosecondsRow, standIns := [], harness := (true, "d97e3c5d5d3fd4095ce63588d122ceebb595b8922138a0b2abc49570e3f1a1ae"), looks := false }, kinds := [], alts := [], laidByText := true, laidKinds := [.sentinel, .sentinel, .sentinel], laidTests := true, laidLooks := .later }
def FnExactNanosecondsCardSaid : Prop := Claim7.holds Tryd.pinned (.plain (OpenSpec.ofChange fnExactNanosecondsSpec)) fnExactNanosecondsCard

/-- THE TIED CARD OF 'laws.FnTimeZoneThree'. -/
def fnTimeZoneThreeCard : Claim7 := { stood := { row := fnTimeZoneThreeRow, standIns := [], harness := (true, "d97e3c5d5d3fd4095ce63588d122ceebb595b8922138a0b2abc49570e3f1a1ae"), looks := false }, kinds := [], alts := [], laidByText := true, laidKinds := [.sentinel], laidTests := true, laidLooks := .later }
def FnTimeZoneThreeCardSaid : Prop := Claim7.holds Tryd.pinned (.plain (OpenSpec.ofChange fnTimeZoneThreeSpec)) fnTimeZoneThreeCard

/-- THE TIED CARD OF 'laws.FnChunkJoin'. -/
def fnChunkJoinCard : Claim7 := { stood := { row := fnChunkJoinRow, standIns := [], harness := (true, "d97e3c5d5d3fd4095ce63588d122ceebb595b8922138a0b2abc49570e3f1a1ae"), looks := false }, kinds := [], alts := [], laidByText := true, laidKinds := [.data], laidTests := true, laidLooks := .later }
def FnChunkJoinCardSaid : Prop := Claim7.holds Tryd.pinned (.plain (OpenSpec.ofChange fnChunkJoinSpec)) fnChunkJoinCard

/-- THE SECOND FORM's CARD OF 'laws.FnExactLeadingInt'. -/
def fnExactLeadingIntUptoCard : Claim7 := { stood := { row := fnExactLeadingIntUptoRow, standIns := [], harness := (true, "d97e3c5d5d3fd4095ce63588d122ceebb595b8922138a0b2abc49570e3f1a1ae"), looks := false }, kinds := [], alts := [], laidByText := true, laidKinds := [.sentinel], laidTests := true, laidLooks := .later }
def FnExactLeadingIntUptoCardSaid : Prop := Claim7.holds Tryd.pinned (.plain (OpenSpec.upto fnExactLeadingIntSpec)) fnExactLeadingIntUptoCard

/-- THE SECOND FORM's CARD OF 'laws.FnExactSignedOffset'. -/
def fnExactSignedOffsetUptoCard : Claim7 := { stood := { row := fnExactSignedOffsetUptoRow, standIns := [], harness := (true, "d97e3c5d5d3fd4095ce63588d122ceebb595b8922138a0b2abc49570e3f1a1ae"), looks := false }, kinds := [], alts := [], laidByText := true, laidKinds := [.sentinel], laidTests := true, laidLooks := .later }
def FnExactSignedOffsetUptoCardSaid : Prop := Claim7.holds Tryd.pinned (.plain (OpenSpec.upto fnExactSignedOffsetSpec)) fnExactSignedOffsetUptoCard

/-- THE SECOND FORM's CARD OF 'laws.FnExactNanoseconds'. -/
def fnExactNanosecondsUptoCard : Claim7 := { stood := { row := fnExactNanosecondsUptoRow, standIns := [], harness := (true, "d97e3c5d5d3fd4095ce63588d122ceebb595b8922138a0b2abc49570e3f1a1ae"), looks := false }, kinds := [], alts := [], laidByText := true, laidKinds := [.sentinel, .sentinel, .sentinel], laidTests := true, laidLooks := .later }
def FnExactNanosecondsUptoCardSaid : Prop := Claim7.holds Tryd.pinned (.plain (OpenSpec.upto fnExactNanosecondsSpec)) fnExactNanosecondsUptoCard

/-- THE SECOND FORM's CARD OF 'laws.FnTimeZoneThree'. -/
def fnTimeZoneThreeUptoCard : Claim7 := { stood := { row := fnTimeZoneThreeUptoRow, standIns := [], harness := (true, "d97e3c5d5d3fd4095ce63588d122ceebb595b8922138a0b2abc49570e3f1a1ae"), looks := false }, kinds := [], alts := [], laidByText := true, laidKinds := [.sentinel], laidTests := true, laidLooks := .later }
def FnTimeZoneThreeUptoCardSaid : Prop := Claim7.holds Tryd.pinned (.plain (OpenSpec.upto fnTimeZoneThreeSpec)) fnTimeZoneThreeUptoCard

/-- THE SECOND FORM's CARD OF 'laws.FnChunkJoin'. -/
def fnChunkJoinUptoCard : Claim7 := { stood := { row := fnChunkJoinUptoRow, standIns := [], harness := (true, "d97e3c5d5d3fd4095ce63588d122ceebb595b8922138a0b2abc49570e3f1a1ae"), looks := false }, kinds := [], alts := [], laidByText := true, laidKinds := [.data], laidTests := true, laidLooks := .later }
def FnChunkJoinUptoCardSaid : Prop := Claim7.holds Tryd.pinned (.plain (OpenSpec.upto fnChunkJoinSpec)) fnChunkJoinUptoCard
end Rows
end Go.Proofs.YtmojdmgpfpbpeaaDoor
