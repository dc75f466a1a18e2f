/-
  DERIVED. GIVEN WITH THE SEED: THE CARDS: each row of YtigabjibdepoiaaDoorRows.lean that lists a variable, with what it lists TIED to the program's text (the seventh form; the later family's looks); each row that meets fmt, with fmt's text TOLD by the authors' own Lean function (tested against real Go, not proved from fmt's source: count such statements apart). THE CARD IS WHAT COUNTS. Prove the row's statement (the work); the ties are given (YtigabjibdepoiaaDoorTie.lean); close each card by the builder's one call (the guide's Derived/Test/ToyasCard.lean, 'card_holds'). Laid BY PROGRAM, IN A SANDBOX (cutbox-door.mjs). By AI agents, Wed Nov 11 2026. No macro, syntax, notation, axiom, sorry.
-/
import Derived.Test.YtigabjibdepoiaaDoorRows
import GoSem.ClaimSeven
namespace Go.Proofs.YtigabjibdepoiaaDoor
namespace Rows

/-- THE TIED CARD OF 'laws.FnChunkPlain'. -/
def fnChunkPlainCard : Claim7 := { stood := { row := fnChunkPlainRow, standIns := [], harness := (true, "ec4adf6fb267582d15a0b9026d31e5e7b6a8cc9cc796820d7f3f471900d1d4bc"), looks := false }, kinds := [], alts := [], laidByText := true, laidKinds := [.data], laidTests := true, laidLooks := .later }
def FnChunkPlainCardSaid : Prop := Claim7.holds Tryd.pinned (.plain (OpenSpec.ofChange fnChunkPlainSpec)) fnChunkPlainCard

/-- THE TIED CARD OF 'laws.FnStrictForm'. -/
def fnStrictFormCard : Claim7 := { stood := { row := fnStrictFormRow, standIns := [], harness := (true, "ec4adf6fb267582d15a0b9026d31e5e7b6a8cc9cc796820d7f3f471900d1d4bc"), looks := false }, kinds := [], alts := [], laidByText := true, laidKinds := [.sentinel, .sentinel, .sentinel], laidTests := true, laidLooks := .later }
def FnStrictFormCardSaid : Prop := Claim7.holds Tryd.pinned (.plain (OpenSpec.ofChange fnStrictFormSpec)) fnStrictFormCard

/-- THE TIED CARD OF 'laws.FnExactFormat'. -/
def fnExactFormatCard : Claim7 := { stood := { row := fnExactFormatRow, standIns := [], harness := (true, "ec4adf6fb267582d15a0b9026d31e5e7b6a8cc9cc796820d7f3f471900d1d4bc"), looks := false }, kinds := [], alts := [], laidByText := true, laidKinds := [.data], laidTests := true, laidLooks := .later }
def FnExactFormatCardSaid : Prop := Claim7.holds Tryd.pinned (.plain (OpenSpec.ofChange fnExactFormatSpec)) fnExactFormatCard

/-- THE TIED CARD OF 'laws.FnFormatFraction'. -/
def fnFormatFractionCard : Claim7 := { stood := { row := fnFormatFractionRow, standIns := [], harness := (true, "ec4adf6fb267582d15a0b9026d31e5e7b6a8cc9cc796820d7f3f471900d1d4bc"), looks := false }, kinds := [], alts := [], laidByText := true, laidKinds := [.data], laidTests := true, laidLooks := .later }
def FnFormatFractionCardSaid : Prop := Claim7.holds Tryd.pinned (.plain (OpenSpec.ofChange fnFormatFractionSpec)) fnFormatFractionCard

/-- THE TIED CARD OF 'laws.FnFormatOffset'. -/
def fnFormatOffsetCard : Claim7 := { stood := { row := fnFormatOffsetRow, standIns := [], harness := (true, "ec4adf6fb267582d15a0b9026d31e5e7b6a8cc9cc796820d7f3f471900d1d4bc"), looks := false }, kinds := [], alts := [], laidByText := true, laidKinds := [.data], laidTests := true, laidLooks := .later }
def FnFormatOffsetCardSaid : Prop := Claim7.holds Tryd.pinned (.plain (OpenSpec.ofChange fnFormatOffsetSpec)) fnFormatOffsetCard

/-- THE TIED CARD OF 'laws.FnFormatOrder'. -/
def fnFormatOrderCard : Claim7 := { stood := { row := fnFormatOrderRow, standIns := [], harness := (true, "ec4adf6fb267582d15a0b9026d31e5e7b6a8cc9cc796820d7f3f471900d1d4bc"), looks := false }, kinds := [], alts := [], laidByText := true, laidKinds := [.data], laidTests := true, laidLooks := .later }
def FnFormatOrderCardSaid : Prop := Claim7.holds Tryd.pinned (.plain (OpenSpec.ofChange fnFormatOrderSpec)) fnFormatOrderCard

/-- THE TIED CARD OF 'laws.FnFormatPlain'. -/
def fnFormatPlainCard : Claim7 := { stood := { row := fnFormatPlainRow, standIns := [], harness := (true, "ec4adf6fb267582d15a0b9026d31e5e7b6a8cc9cc796820d7f3f471900d1d4bc"), looks := false }, kinds := [], alts := [], laidByText := true, laidKinds := [.data], laidTests := true, laidLooks := .later }
def FnFormatPlainCardSaid : Prop := Claim7.holds Tryd.pinned (.plain (OpenSpec.ofChange fnFormatPlainSpec)) fnFormatPlainCard

/-- THE TIED CARD OF 'laws.FnFormatRFC3339'. -/
def fnFormatRFC3339Card : Claim7 := { stood := { row := fnFormatRFC3339Row, standIns := [], harness := (true, "ec4adf6fb267582d15a0b9026d31e5e7b6a8cc9cc796820d7f3f471900d1d4bc"), looks := false }, kinds := [], alts := [], laidByText := true, laidKinds := [.data], laidTests := true, laidLooks := .later }
def FnFormatRFC3339CardSaid : Prop := Claim7.holds Tryd.pinned (.plain (OpenSpec.ofChange fnFormatRFC3339Spec)) fnFormatRFC3339Card

/-- THE TIED CARD OF 'laws.FnFormatRFC3339Nano'. -/
def fnFormatRFC3339NanoCard : Claim7 := { stood := { row := fnFormatRFC3339NanoRow, standIns := [], harness := (true, "ec4adf6fb267582d15a0b9026d31e5e7b6a8cc9cc796820d7f3f471900d1d4bc"), looks := false }, kinds := [], alts := [], laidByText := true, laidKinds := [.data], laidTests := true, laidLooks := .later }
def FnFormatRFC3339NanoCardSaid : Prop := Claim7.holds Tryd.pinned (.plain (OpenSpec.ofChange fnFormatRFC3339NanoSpec)) fnFormatRFC3339NanoCard

/-- THE TIED CARD OF 'laws.FnFormatYearDay'. -/
def fnFormatYearDayCard : Claim7 := { stood := { row := fnFormatYearDayRow, standIns := [], harness := (true, "ec4adf6fb267582d15a0b9026d31e5e7b6a8cc9cc796820d7f3f471900d1d4bc"), looks := false }, kinds := [], alts := [], laidByText := true, laidKinds := [.data], laidTests := true, laidLooks := .later }
def FnFormatYearDayCardSaid : Prop := Claim7.holds Tryd.pinned (.plain (OpenSpec.ofChange fnFormatYearDaySpec)) fnFormatYearDayCard

/-- THE TIED CARD OF 'laws.FnAppendAny'. -/
def fnAppendAnyCard : Claim7 := { stood := { row := fnAppendAnyRow, standIns := [], harness := (true, "ec4adf6fb267582d15a0b9026d31e5e7b6a8cc9cc796820d7f3f471900d1d4bc"), looks := false }, kinds := [], alts := [], laidByText := true, laidKinds := [.data], laidTests := true, laidLooks := .later }
def FnAppendAnyCardSaid : Prop := Claim7.holds Tryd.pinned (.plain (OpenSpec.ofChange fnAppendAnySpec)) fnAppendAnyCard

/-- THE TIED CARD OF 'laws.FnRoadsRFC3339'. -/
def fnRoadsRFC3339Card : Claim7 := { stood := { row := fnRoadsRFC3339Row, standIns := [], harness := (true, "ec4adf6fb267582d15a0b9026d31e5e7b6a8cc9cc796820d7f3f471900d1d4bc"), looks := false }, kinds := [], alts := [], laidByText := true, laidKinds := [.data], laidTests := true, laidLooks := .later }
def FnRoadsRFC3339CardSaid : Prop := Claim7.holds Tryd.pinned (.plain (OpenSpec.ofChange fnRoadsRFC3339Spec)) fnRoadsRFC3339Card

/-- THE TIED CARD OF 'laws.FnExactText'. -/
def fnExactTextCard : Claim7 := { stood := { row := fnExactTextRow, standIns := [], harness := (true, "ec4adf6fb267582d15a0b9026d31e5e7b6a8cc9cc796820d7f3f471900d1d4bc"), looks := false }, kinds := [], alts := [], laidByText := true, laidKinds := [.data], laidTests := true, laidLooks := .later }
def FnExactTextCardSaid : Prop := Claim7.holds Tryd.pinned (.plain (OpenSpec.ofChange fnExactTextSpec)) fnExactTextCard

/-- THE SECOND FORM's CARD OF 'laws.FnChunkPlain'. -/
def fnChunkPlainUptoCard : Claim7 := { stood := { row := fnChunkPlainUptoRow, standIns := [], harness := (true, "ec4adf6fb267582d15a0b9026d31e5e7b6a8cc9cc796820d7f3f471900d1d4bc"), looks := false }, kinds := [], alts := [], laidByText := true, laidKinds := [.data], laidTests := true, laidLooks := .later }
def FnChunkPlainUptoCardSaid : Prop := Claim7.holds Tryd.pinned (.plain (OpenSpec.upto fnChunkPlainSpec)) fnChunkPlainUptoCard

/-- THE SECOND FORM's CARD OF 'laws.FnStrictForm'. -/
def fnStrictFormUptoCard : Claim7 := { stood := { row := fnStrictFormUptoRow, standIns := [], harness := (true, "ec4adf6fb267582d15a0b9026d31e5e7b6a8cc9cc796820d7f3f471900d1d4bc"), looks := false }, kinds := [], alts := [], laidByText := true, laidKinds := [.sentinel, .sentinel, .sentinel], laidTests := true, laidLooks := .later }
def FnStrictFormUptoCardSaid : Prop := Claim7.holds Tryd.pinned (.plain (OpenSpec.upto fnStrictFormSpec)) fnStrictFormUptoCard

/-- THE SECOND FORM's CARD OF 'laws.FnExactFormat'. -/
def fnExactFormatUptoCard : Claim7 := { stood := { row := fnExactFormatUptoRow, standIns := [], harness := (true, "ec4adf6fb267582d15a0b9026d31e5e7b6a8cc9cc796820d7f3f471900d1d4bc"), looks := false }, kinds := [], alts := [], laidByText := true, laidKinds := [.data], laidTests := true, laidLooks := .later }
def FnExactFormatUptoCardSaid : Prop := Claim7.holds Tryd.pinned (.plain (OpenSpec.upto fnExactFormatSpec)) fnExactFormatUptoCard

/-- THE SECOND FORM's CARD OF 'laws.FnFormatFraction'. -/
def fnFormatFractionUptoCard : Claim7 := { stood := { row := fnFormatFractionUptoRow, standIns := [], harness := (true, "ec4adf6fb267582d15a0b9026d31e5e7b6a8cc9cc796820d7f3f471900d1d4bc"), looks := false }, kinds := [], alts := [], laidByText := true, laidKinds := [.data], laidTests := true, laidLooks := .later }
def FnFormatFractionUptoCardSaid : Prop := Claim7.holds Tryd.pinned (.plain (OpenSpec.upto fnFormatFractionSpec)) fnFormatFractionUptoCard

/-- THE SECOND FORM's CARD OF 'laws.FnFormatOffset'. -/
def fnFormatOffsetUptoCard : Claim7 := { stood := { row := fnFormatOffsetUptoRow, standIns := [], harness := (true, "ec4adf6fb267582d15a0b9026d31e5e7b6a8cc9cc796820d7f3f471900d1d4bc"), looks := false }, kinds := [], alts := [], laidByText := true, laidKinds := [.data], laidTests := true, laidLooks := .later }
def FnFormatOffsetUptoCardSaid : Prop := Claim7.holds Tryd.pinned (.plain (OpenSpec.upto fnFormatOffsetSpec)) fnFormatOffsetUptoCard

/-- THE SECOND FORM's CARD OF 'laws.FnFormatOrder'. -/
def fnFormatOrderUptoCard : Claim7 := { stood := { row := fnFormatOrderUptoRow, standIns := [], harness := (true, "ec4adf6fb267582d15a0b9026d31e5e7b6a8cc9cc796820d7f3f471900d1d4bc"), looks := false }, kinds := [], alts := [], laidByText := true, laidKinds := [.data], laidTests := true, laidLooks := .later }
def FnFormatOrderUptoCardSaid : Prop := Claim7.holds Tryd.pinned (.plain (OpenSpec.upto fnFormatOrderSpec)) fnFormatOrderUptoCard

/-- THE SECOND FORM's CARD OF 'laws.FnFormatPlain'. -/
def fnFormatPlainUptoCard : Claim7 := { stood := { row := fnFormatPlainUptoRow, standIns := [], harness := (true, "ec4adf6fb267582d15a0b9026d31e5e7b6a8cc9cc796820d7f3f471900d1d4bc"), looks := false }, kinds := [], alts := [], laidByText := true, laidKinds := [.data], laidTests := true, laidLooks := .later }
def FnFormatPlainUptoCardSaid : Prop := Claim7.holds Tryd.pinned (.plain (OpenSpec.upto fnFormatPlainSpec)) fnFormatPlainUptoCard

/-- THE SECOND FORM's CARD OF 'laws.FnFormatRFC3339'. -/
def fnFormatRFC3339UptoCard : Claim7 := { stood := { row := fnFormatRFC3339UptoRow, standIns := [], harness := (true, "ec4adf6fb267582d15a0b9026d31e5e7b6a8cc9cc796820d7f3f471900d1d4bc"), looks := false }, kinds := [], alts := [], laidByText := true, laidKinds := [.data], laidTests := true, laidLooks := .later }
def FnFormatRFC3339UptoCardSaid : Prop := Claim7.holds Tryd.pinned (.plain (OpenSpec.upto fnFormatRFC3339Spec)) fnFormatRFC3339UptoCard

/-- THE SECOND FORM's CARD OF 'laws.FnFormatRFC3339Nano'. -/
def fnFormatRFC3339NanoUptoCard : Claim7 := { stood := { row := fnFormatRFC3339NanoUptoRow, standIns := [], harness := (true, "ec4adf6fb267582d15a0b9026d31e5e7b6a8cc9cc796820d7f3f471900d1d4bc"), looks := false }, kinds := [], alts := [], laidByText := true, laidKinds := [.data], laidTests := true, laidLooks := .later }
def FnFormatRFC3339NanoUptoCardSaid : Prop := Claim7.holds Tryd.pinned (.plain (OpenSpec.upto fnFormatRFC3339NanoSpec)) fnFormatRFC3339NanoUptoCard

/-- THE SECOND FORM's CARD OF 'laws.FnFormatYearDay'. -/
def fnFormatYearDayUptoCard : Claim7 := { stood := { row := fnFormatYearDayUptoRow, standIns := [], harness := (true, "ec4adf6fb267582d15a0b9026d31e5e7b6a8cc9cc796820d7f3f471900d1d4bc"), looks := false }, kinds := [], alts := [], laidByText := true, laidKinds := [.data], laidTests := true, laidLooks := .later }
def FnFormatYearDayUptoCardSaid : Prop := Claim7.holds Tryd.pinned (.plain (OpenSpec.upto fnFormatYearDaySpec)) fnFormatYearDayUptoCard

/-- THE SECOND FORM's CARD OF 'laws.FnAppendAny'. -/
def fnAppendAnyUptoCard : Claim7 := { stood := { row := fnAppendAnyUptoRow, standIns := [], harness := (true, "ec4adf6fb267582d15a0b9026d31e5e7b6a8cc9cc796820d7f3f471900d1d4bc"), looks := false }, kinds := [], alts := [], laidByText := true, laidKinds := [.data], laidTests := true, laidLooks := .later }
def FnAppendAnyUptoCardSaid : Prop := Claim7.holds Tryd.pinned (.plain (OpenSpec.upto fnAppendAnySpec)) fnAppendAnyUptoCard

/-- THE SECOND FORM's CARD OF 'laws.FnRoadsRFC3339'. -/
def fnRoadsRFC3339UptoCard : Claim7 := { stood := { row := fnRoadsRFC3339UptoRow, standIns := [], harness := (true, "ec4adf6fb267582d15a0b9026d31e5e7b6a8cc9cc796820d7f3f471900d1d4bc"), looks := false }, kinds := [], alts := [], laidByText := true, laidKinds := [.data], laidTests := true, laidLooks := .later }
def FnRoadsRFC3339UptoCardSaid : Prop := Claim7.holds Tryd.pinned (.plain (OpenSpec.upto fnRoadsRFC3339Spec)) fnRoadsRFC3339UptoCard

/-- THE SECOND FORM's CARD OF 'laws.FnExactText'. -/
def fnExactTextUptoCard : Claim7 := { stood := { row := fnExactTextUptoRow, standIns := [], harness := (true, "ec4adf6fb267582d15a0b9026d31e5e7b6a8cc9cc796820d7f3f471900d1d4bc"), looks := false }, kinds := [], alts := [], laidByText := true, laidKinds := [.data], laidTests := true, laidLooks := .later }
def FnExactTextUptoCardSaid : Prop := Claim7.holds Tryd.pinned (.plain (OpenSpec.upto fnExactTextSpec)) fnExactTextUptoCard
end Rows
end Go.Proofs.YtigabjibdepoiaaDoor
