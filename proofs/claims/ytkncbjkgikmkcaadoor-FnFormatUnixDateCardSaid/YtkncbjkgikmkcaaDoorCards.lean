/-
  DERIVED. GIVEN WITH THE SEED: THE CARDS: each row of YtkncbjkgikmkcaaDoorRows.lean that lists a variable, with what it lists TIED to the program's text (the seventh form; the later family's looks); each row that meets fmt, with fmt's text TOLD by the authors' own Lean function (tested against real Go, not proved from fmt's source: count such statements apart). THE CARD IS WHAT COUNTS. Prove the row's statement (the work); the ties are given (YtkncbjkgikmkcaaDoorTie.lean); close each card by the builder's one call (the guide's Derived/Test/ToyasCard.lean, 'card_holds'). Laid BY PROGRAM, IN A SANDBOX (cutbox-door.mjs). By AI agents, Wed Nov 11 2026. No macro, syntax, notation, axiom, sorry.
-/
import Derived.Test.YtkncbjkgikmkcaaDoorRows
import GoSem.ClaimSeven
namespace Go.Proofs.YtkncbjkgikmkcaaDoor
namespace Rows

/-- THE TIED CARD OF 'laws.FnFormatPoints'. -/
def fnFormatPointsCard : Claim7 := { stood := { row := fnFormatPointsRow, standIns := [], harness := (true, "e9480c7a813d5e5d14018309dbd7a55a567495017f6fe4b4901e7e087129712b"), looks := false }, kinds := [], alts := [], laidByText := true, laidKinds := [.data], laidTests := true, laidLooks := .later }
def FnFormatPointsCardSaid : Prop := Claim7.holds Tryd.pinned (.plain (OpenSpec.ofChange fnFormatPointsSpec)) fnFormatPointsCard

/-- THE TIED CARD OF 'laws.FnFormatRFC1123'. -/
def fnFormatRFC1123Card : Claim7 := { stood := { row := fnFormatRFC1123Row, standIns := [], harness := (true, "e9480c7a813d5e5d14018309dbd7a55a567495017f6fe4b4901e7e087129712b"), looks := false }, kinds := [], alts := [], laidByText := true, laidKinds := [.data], laidTests := true, laidLooks := .later }
def FnFormatRFC1123CardSaid : Prop := Claim7.holds Tryd.pinned (.plain (OpenSpec.ofChange fnFormatRFC1123Spec)) fnFormatRFC1123Card

/-- THE TIED CARD OF 'laws.FnFormatRFC1123Z'. -/
def fnFormatRFC1123ZCard : Claim7 := { stood := { row := fnFormatRFC1123ZRow, standIns := [], harness := (true, "e9480c7a813d5e5d14018309dbd7a55a567495017f6fe4b4901e7e087129712b"), looks := false }, kinds := [], alts := [], laidByText := true, laidKinds := [.data], laidTests := true, laidLooks := .later }
def FnFormatRFC1123ZCardSaid : Prop := Claim7.holds Tryd.pinned (.plain (OpenSpec.ofChange fnFormatRFC1123ZSpec)) fnFormatRFC1123ZCard

/-- THE TIED CARD OF 'laws.FnFormatRFC822'. -/
def fnFormatRFC822Card : Claim7 := { stood := { row := fnFormatRFC822Row, standIns := [], harness := (true, "e9480c7a813d5e5d14018309dbd7a55a567495017f6fe4b4901e7e087129712b"), looks := false }, kinds := [], alts := [], laidByText := true, laidKinds := [.data], laidTests := true, laidLooks := .later }
def FnFormatRFC822CardSaid : Prop := Claim7.holds Tryd.pinned (.plain (OpenSpec.ofChange fnFormatRFC822Spec)) fnFormatRFC822Card

/-- THE TIED CARD OF 'laws.FnFormatRFC822Z'. -/
def fnFormatRFC822ZCard : Claim7 := { stood := { row := fnFormatRFC822ZRow, standIns := [], harness := (true, "e9480c7a813d5e5d14018309dbd7a55a567495017f6fe4b4901e7e087129712b"), looks := false }, kinds := [], alts := [], laidByText := true, laidKinds := [.data], laidTests := true, laidLooks := .later }
def FnFormatRFC822ZCardSaid : Prop := Claim7.holds Tryd.pinned (.plain (OpenSpec.ofChange fnFormatRFC822ZSpec)) fnFormatRFC822ZCard

/-- THE TIED CARD OF 'laws.FnFormatRFC850'. -/
def fnFormatRFC850Card : Claim7 := { stood := { row := fnFormatRFC850Row, standIns := [], harness := (true, "e9480c7a813d5e5d14018309dbd7a55a567495017f6fe4b4901e7e087129712b"), looks := false }, kinds := [], alts := [], laidByText := true, laidKinds := [.data], laidTests := true, laidLooks := .later }
def FnFormatRFC850CardSaid : Prop := Claim7.holds Tryd.pinned (.plain (OpenSpec.ofChange fnFormatRFC850Spec)) fnFormatRFC850Card

/-- THE TIED CARD OF 'laws.FnFormatRubyDate'. -/
def fnFormatRubyDateCard : Claim7 := { stood := { row := fnFormatRubyDateRow, standIns := [], harness := (true, "e9480c7a813d5e5d14018309dbd7a55a567495017f6fe4b4901e7e087129712b"), looks := false }, kinds := [], alts := [], laidByText := true, laidKinds := [.data], laidTests := true, laidLooks := .later }
def FnFormatRubyDateCardSaid : Prop := Claim7.holds Tryd.pinned (.plain (OpenSpec.ofChange fnFormatRubyDateSpec)) fnFormatRubyDateCard

/-- THE TIED CARD OF 'laws.FnFormatStamp'. -/
def fnFormatStampCard : Claim7 := { stood := { row := fnFormatStampRow, standIns := [], harness := (true, "e9480c7a813d5e5d14018309dbd7a55a567495017f6fe4b4901e7e087129712b"), looks := false }, kinds := [], alts := [], laidByText := true, laidKinds := [.data], laidTests := true, laidLooks := .later }
def FnFormatStampCardSaid : Prop := Claim7.holds Tryd.pinned (.plain (OpenSpec.ofChange fnFormatStampSpec)) fnFormatStampCard

/-- THE TIED CARD OF 'laws.FnFormatStampMicro'. -/
def fnFormatStampMicroCard : Claim7 := { stood := { row := fnFormatStampMicroRow, standIns := [], harness := (true, "e9480c7a813d5e5d14018309dbd7a55a567495017f6fe4b4901e7e087129712b"), looks := false }, kinds := [], alts := [], laidByText := true, laidKinds := [.data], laidTests := true, laidLooks := .later }
def FnFormatStampMicroCardSaid : Prop := Claim7.holds Tryd.pinned (.plain (OpenSpec.ofChange fnFormatStampMicroSpec)) fnFormatStampMicroCard

/-- THE TIED CARD OF 'laws.FnFormatStampMilli'. -/
def fnFormatStampMilliCard : Claim7 := { stood := { row := fnFormatStampMilliRow, standIns := [], harness := (true, "e9480c7a813d5e5d14018309dbd7a55a567495017f6fe4b4901e7e087129712b"), looks := false }, kinds := [], alts := [], laidByText := true, laidKinds := [.data], laidTests := true, laidLooks := .later }
def FnFormatStampMilliCardSaid : Prop := Claim7.holds Tryd.pinned (.plain (OpenSpec.ofChange fnFormatStampMilliSpec)) fnFormatStampMilliCard

/-- THE TIED CARD OF 'laws.FnFormatStampNano'. -/
def fnFormatStampNanoCard : Claim7 := { stood := { row := fnFormatStampNanoRow, standIns := [], harness := (true, "e9480c7a813d5e5d14018309dbd7a55a567495017f6fe4b4901e7e087129712b"), looks := false }, kinds := [], alts := [], laidByText := true, laidKinds := [.data], laidTests := true, laidLooks := .later }
def FnFormatStampNanoCardSaid : Prop := Claim7.holds Tryd.pinned (.plain (OpenSpec.ofChange fnFormatStampNanoSpec)) fnFormatStampNanoCard

/-- THE TIED CARD OF 'laws.FnFormatTimeOnly'. -/
def fnFormatTimeOnlyCard : Claim7 := { stood := { row := fnFormatTimeOnlyRow, standIns := [], harness := (true, "e9480c7a813d5e5d14018309dbd7a55a567495017f6fe4b4901e7e087129712b"), looks := false }, kinds := [], alts := [], laidByText := true, laidKinds := [.data], laidTests := true, laidLooks := .later }
def FnFormatTimeOnlyCardSaid : Prop := Claim7.holds Tryd.pinned (.plain (OpenSpec.ofChange fnFormatTimeOnlySpec)) fnFormatTimeOnlyCard

/-- THE TIED CARD OF 'laws.FnFormatUnixDate'. -/
def fnFormatUnixDateCard : Claim7 := { stood := { row := fnFormatUnixDateRow, standIns := [], harness := (true, "e9480c7a813d5e5d14018309dbd7a55a567495017f6fe4b4901e7e087129712b"), looks := false }, kinds := [], alts := [], laidByText := true, laidKinds := [.data], laidTests := true, laidLooks := .later }
def FnFormatUnixDateCardSaid : Prop := Claim7.holds Tryd.pinned (.plain (OpenSpec.ofChange fnFormatUnixDateSpec)) fnFormatUnixDateCard

/-- THE SECOND FORM's CARD OF 'laws.FnFormatPoints'. -/
def fnFormatPointsUptoCard : Claim7 := { stood := { row := fnFormatPointsUptoRow, standIns := [], harness := (true, "e9480c7a813d5e5d14018309dbd7a55a567495017f6fe4b4901e7e087129712b"), looks := false }, kinds := [], alts := [], laidByText := true, laidKinds := [.data], laidTests := true, laidLooks := .later }
def FnFormatPointsUptoCardSaid : Prop := Claim7.holds Tryd.pinned (.plain (OpenSpec.upto fnFormatPointsSpec)) fnFormatPointsUptoCard

/-- THE SECOND FORM's CARD OF 'laws.FnFormatRFC1123'. -/
def fnFormatRFC1123UptoCard : Claim7 := { stood := { row := fnFormatRFC1123UptoRow, standIns := [], harness := (true, "e9480c7a813d5e5d14018309dbd7a55a567495017f6fe4b4901e7e087129712b"), looks := false }, kinds := [], alts := [], laidByText := true, laidKinds := [.data], laidTests := true, laidLooks := .later }
def FnFormatRFC1123UptoCardSaid : Prop := Claim7.holds Tryd.pinned (.plain (OpenSpec.upto fnFormatRFC1123Spec)) fnFormatRFC1123UptoCard

/-- THE SECOND FORM's CARD OF 'laws.FnFormatRFC1123Z'. -/
def fnFormatRFC1123ZUptoCard : Claim7 := { stood := { row := fnFormatRFC1123ZUptoRow, standIns := [], harness := (true, "e9480c7a813d5e5d14018309dbd7a55a567495017f6fe4b4901e7e087129712b"), looks := false }, kinds := [], alts := [], laidByText := true, laidKinds := [.data], laidTests := true, laidLooks := .later }
def FnFormatRFC1123ZUptoCardSaid : Prop := Claim7.holds Tryd.pinned (.plain (OpenSpec.upto fnFormatRFC1123ZSpec)) fnFormatRFC1123ZUptoCard

/-- THE SECOND FORM's CARD OF 'laws.FnFormatRFC822'. -/
def fnFormatRFC822UptoCard : Claim7 := { stood := { row := fnFormatRFC822UptoRow, standIns := [], harness := (true, "e9480c7a813d5e5d14018309dbd7a55a567495017f6fe4b4901e7e087129712b"), looks := false }, kinds := [], alts := [], laidByText := true, laidKinds := [.data], laidTests := true, laidLooks := .later }
def FnFormatRFC822UptoCardSaid : Prop := Claim7.holds Tryd.pinned (.plain (OpenSpec.upto fnFormatRFC822Spec)) fnFormatRFC822UptoCard

/-- THE SECOND FORM's CARD OF 'laws.FnFormatRFC822Z'. -/
def fnFormatRFC822ZUptoCard : Claim7 := { stood := { row := fnFormatRFC822ZUptoRow, standIns := [], harness := (true, "e9480c7a813d5e5d14018309dbd7a55a567495017f6fe4b4901e7e087129712b"), looks := false }, kinds := [], alts := [], laidByText := true, laidKinds := [.data], laidTests := true, laidLooks := .later }
def FnFormatRFC822ZUptoCardSaid : Prop := Claim7.holds Tryd.pinned (.plain (OpenSpec.upto fnFormatRFC822ZSpec)) fnFormatRFC822ZUptoCard

/-- THE SECOND FORM's CARD OF 'laws.FnFormatRFC850'. -/
def fnFormatRFC850UptoCard : Claim7 := { stood := { row := fnFormatRFC850UptoRow, standIns := [], harness := (true, "e9480c7a813d5e5d14018309dbd7a55a567495017f6fe4b4901e7e087129712b"), looks := false }, kinds := [], alts := [], laidByText := true, laidKinds := [.data], laidTests := true, laidLooks := .later }
def FnFormatRFC850UptoCardSaid : Prop := Claim7.holds Tryd.pinned (.plain (OpenSpec.upto fnFormatRFC850Spec)) fnFormatRFC850UptoCard

/-- THE SECOND FORM's CARD OF 'laws.FnFormatRubyDate'. -/
def fnFormatRubyDateUptoCard : Claim7 := { stood := { row := fnFormatRubyDateUptoRow, standIns := [], harness := (true, "e9480c7a813d5e5d14018309dbd7a55a567495017f6fe4b4901e7e087129712b"), looks := false }, kinds := [], alts := [], laidByText := true, laidKinds := [.data], laidTests := true, laidLooks := .later }
def FnFormatRubyDateUptoCardSaid : Prop := Claim7.holds Tryd.pinned (.plain (OpenSpec.upto fnFormatRubyDateSpec)) fnFormatRubyDateUptoCard

/-- THE SECOND FORM's CARD OF 'laws.FnFormatStamp'. -/
def fnFormatStampUptoCard : Claim7 := { stood := { row := fnFormatStampUptoRow, standIns := [], harness := (true, "e9480c7a813d5e5d14018309dbd7a55a567495017f6fe4b4901e7e087129712b"), looks := false }, kinds := [], alts := [], laidByText := true, laidKinds := [.data], laidTests := true, laidLooks := .later }
def FnFormatStampUptoCardSaid : Prop := Claim7.holds Tryd.pinned (.plain (OpenSpec.upto fnFormatStampSpec)) fnFormatStampUptoCard

/-- THE SECOND FORM's CARD OF 'laws.FnFormatStampMicro'. -/
def fnFormatStampMicroUptoCard : Claim7 := { stood := { row := fnFormatStampMicroUptoRow, standIns := [], harness := (true, "e9480c7a813d5e5d14018309dbd7a55a567495017f6fe4b4901e7e087129712b"), looks := false }, kinds := [], alts := [], laidByText := true, laidKinds := [.data], laidTests := true, laidLooks := .later }
def FnFormatStampMicroUptoCardSaid : Prop := Claim7.holds Tryd.pinned (.plain (OpenSpec.upto fnFormatStampMicroSpec)) fnFormatStampMicroUptoCard

/-- THE SECOND FORM's CARD OF 'laws.FnFormatStampMilli'. -/
def fnFormatStampMilliUptoCard : Claim7 := { stood := { row := fnFormatStampMilliUptoRow, standIns := [], harness := (true, "e9480c7a813d5e5d14018309dbd7a55a567495017f6fe4b4901e7e087129712b"), looks := false }, kinds := [], alts := [], laidByText := true, laidKinds := [.data], laidTests := true, laidLooks := .later }
def FnFormatStampMilliUptoCardSaid : Prop := Claim7.holds Tryd.pinned (.plain (OpenSpec.upto fnFormatStampMilliSpec)) fnFormatStampMilliUptoCard

/-- THE SECOND FORM's CARD OF 'laws.FnFormatStampNano'. -/
def fnFormatStampNanoUptoCard : Claim7 := { stood := { row := fnFormatStampNanoUptoRow, standIns := [], harness := (true, "e9480c7a813d5e5d14018309dbd7a55a567495017f6fe4b4901e7e087129712b"), looks := false }, kinds := [], alts := [], laidByText := true, laidKinds := [.data], laidTests := true, laidLooks := .later }
def FnFormatStampNanoUptoCardSaid : Prop := Claim7.holds Tryd.pinned (.plain (OpenSpec.upto fnFormatStampNanoSpec)) fnFormatStampNanoUptoCard

/-- THE SECOND FORM's CARD OF 'laws.FnFormatTimeOnly'. -/
def fnFormatTimeOnlyUptoCard : Claim7 := { stood := { row := fnFormatTimeOnlyUptoRow, standIns := [], harness := (true, "e9480c7a813d5e5d14018309dbd7a55a567495017f6fe4b4901e7e087129712b"), looks := false }, kinds := [], alts := [], laidByText := true, laidKinds := [.data], laidTests := true, laidLooks := .later }
def FnFormatTimeOnlyUptoCardSaid : Prop := Claim7.holds Tryd.pinned (.plain (OpenSpec.upto fnFormatTimeOnlySpec)) fnFormatTimeOnlyUptoCard

/-- THE SECOND FORM's CARD OF 'laws.FnFormatUnixDate'. -/
def fnFormatUnixDateUptoCard : Claim7 := { stood := { row := fnFormatUnixDateUptoRow, standIns := [], harness := (true, "e9480c7a813d5e5d14018309dbd7a55a567495017f6fe4b4901e7e087129712b"), looks := false }, kinds := [], alts := [], laidByText := true, laidKinds := [.data], laidTests := true, laidLooks := .later }
def FnFormatUnixDateUptoCardSaid : Prop := Claim7.holds Tryd.pinned (.plain (OpenSpec.upto fnFormatUnixDateSpec)) fnFormatUnixDateUptoCard
end Rows
end Go.Proofs.YtkncbjkgikmkcaaDoor
