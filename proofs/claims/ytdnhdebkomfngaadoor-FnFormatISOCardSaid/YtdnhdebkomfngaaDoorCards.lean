/-
  DERIVED. GIVEN WITH THE SEED: THE CARDS: each row of YtdnhdebkomfngaaDoorRows.lean that lists a variable, with what it lists TIED to the program's text (the seventh form; the later family's looks); each row that meets fmt, with fmt's text TOLD by the authors' own Lean function (tested against real Go, not proved from fmt's source: count such statements apart). THE CARD IS WHAT COUNTS. Prove the row's statement (the work); the ties are given (YtdnhdebkomfngaaDoorTie.lean); close each card by the builder's one call (the guide's Derived/Test/ToyasCard.lean, 'card_holds'). Laid BY PROGRAM, IN A SANDBOX (cutbox-door.mjs). By AI agents, Wed Nov 11 2026. No macro, syntax, notation, axiom, sorry.
-/
import Derived.Test.YtdnhdebkomfngaaDoorRows
import GoSem.ClaimSeven
namespace Go.Proofs.YtdnhdebkomfngaaDoor
namespace Rows

/-- THE TIED CARD OF 'laws.FnExactFormat'. -/
def fnExactFormatCard : Claim7 := { stood := { row := fnExactFormatRow, standIns := [], harness := (true, "395d262046d1d4ab51345ba2949d021ca1126dbe84e3dbbb8ebc4da1cbaf9b5d"), looks := false }, kinds := [], alts := [], laidByText := true, laidKinds := [.data], laidTests := true, laidLooks := .later }
def FnExactFormatCardSaid : Prop := Claim7.holds Tryd.pinned (.plain (OpenSpec.ofChange fnExactFormatSpec)) fnExactFormatCard

/-- THE TIED CARD OF 'laws.FnExactString'. -/
def fnExactStringCard : Claim7 := { stood := { row := fnExactStringRow, standIns := [], harness := (true, "395d262046d1d4ab51345ba2949d021ca1126dbe84e3dbbb8ebc4da1cbaf9b5d"), looks := false }, kinds := [], alts := [], laidByText := true, laidKinds := [.data], laidTests := true, laidLooks := .later }
def FnExactStringCardSaid : Prop := Claim7.holds Tryd.pinned (.plain (OpenSpec.ofChange fnExactStringSpec)) fnExactStringCard

/-- THE TIED CARD OF 'laws.FnFormatANSIC'. -/
def fnFormatANSICCard : Claim7 := { stood := { row := fnFormatANSICRow, standIns := [], harness := (true, "395d262046d1d4ab51345ba2949d021ca1126dbe84e3dbbb8ebc4da1cbaf9b5d"), looks := false }, kinds := [], alts := [], laidByText := true, laidKinds := [.data], laidTests := true, laidLooks := .later }
def FnFormatANSICCardSaid : Prop := Claim7.holds Tryd.pinned (.plain (OpenSpec.ofChange fnFormatANSICSpec)) fnFormatANSICCard

/-- THE TIED CARD OF 'laws.FnFormatCompact'. -/
def fnFormatCompactCard : Claim7 := { stood := { row := fnFormatCompactRow, standIns := [], harness := (true, "395d262046d1d4ab51345ba2949d021ca1126dbe84e3dbbb8ebc4da1cbaf9b5d"), looks := false }, kinds := [], alts := [], laidByText := true, laidKinds := [.data], laidTests := true, laidLooks := .later }
def FnFormatCompactCardSaid : Prop := Claim7.holds Tryd.pinned (.plain (OpenSpec.ofChange fnFormatCompactSpec)) fnFormatCompactCard

/-- THE TIED CARD OF 'laws.FnFormatDateOnly'. -/
def fnFormatDateOnlyCard : Claim7 := { stood := { row := fnFormatDateOnlyRow, standIns := [], harness := (true, "395d262046d1d4ab51345ba2949d021ca1126dbe84e3dbbb8ebc4da1cbaf9b5d"), looks := false }, kinds := [], alts := [], laidByText := true, laidKinds := [.data], laidTests := true, laidLooks := .later }
def FnFormatDateOnlyCardSaid : Prop := Claim7.holds Tryd.pinned (.plain (OpenSpec.ofChange fnFormatDateOnlySpec)) fnFormatDateOnlyCard

/-- THE TIED CARD OF 'laws.FnFormatDateTime'. -/
def fnFormatDateTimeCard : Claim7 := { stood := { row := fnFormatDateTimeRow, standIns := [], harness := (true, "395d262046d1d4ab51345ba2949d021ca1126dbe84e3dbbb8ebc4da1cbaf9b5d"), looks := false }, kinds := [], alts := [], laidByText := true, laidKinds := [.data], laidTests := true, laidLooks := .later }
def FnFormatDateTimeCardSaid : Prop := Claim7.holds Tryd.pinned (.plain (OpenSpec.ofChange fnFormatDateTimeSpec)) fnFormatDateTimeCard

/-- THE TIED CARD OF 'laws.FnFormatFraction'. -/
def fnFormatFractionCard : Claim7 := { stood := { row := fnFormatFractionRow, standIns := [], harness := (true, "395d262046d1d4ab51345ba2949d021ca1126dbe84e3dbbb8ebc4da1cbaf9b5d"), looks := false }, kinds := [], alts := [], laidByText := true, laidKinds := [.data], laidTests := true, laidLooks := .later }
def FnFormatFractionCardSaid : Prop := Claim7.holds Tryd.pinned (.plain (OpenSpec.ofChange fnFormatFractionSpec)) fnFormatFractionCard

/-- THE TIED CARD OF 'laws.FnFormatHour'. -/
def fnFormatHourCard : Claim7 := { stood := { row := fnFormatHourRow, standIns := [], harness := (true, "395d262046d1d4ab51345ba2949d021ca1126dbe84e3dbbb8ebc4da1cbaf9b5d"), looks := false }, kinds := [], alts := [], laidByText := true, laidKinds := [.data], laidTests := true, laidLooks := .later }
def FnFormatHourCardSaid : Prop := Claim7.holds Tryd.pinned (.plain (OpenSpec.ofChange fnFormatHourSpec)) fnFormatHourCard

/-- THE TIED CARD OF 'laws.FnFormatISO'. -/
def fnFormatISOCard : Claim7 := { stood := { row := fnFormatISORow, standIns := [], harness := (true, "395d262046d1d4ab51345ba2949d021ca1126dbe84e3dbbb8ebc4da1cbaf9b5d"), looks := false }, kinds := [], alts := [], laidByText := true, laidKinds := [.data], laidTests := true, laidLooks := .later }
def FnFormatISOCardSaid : Prop := Claim7.holds Tryd.pinned (.plain (OpenSpec.ofChange fnFormatISOSpec)) fnFormatISOCard

/-- THE TIED CARD OF 'laws.FnFormatKitchen'. -/
def fnFormatKitchenCard : Claim7 := { stood := { row := fnFormatKitchenRow, standIns := [], harness := (true, "395d262046d1d4ab51345ba2949d021ca1126dbe84e3dbbb8ebc4da1cbaf9b5d"), looks := false }, kinds := [], alts := [], laidByText := true, laidKinds := [.data], laidTests := true, laidLooks := .later }
def FnFormatKitchenCardSaid : Prop := Claim7.holds Tryd.pinned (.plain (OpenSpec.ofChange fnFormatKitchenSpec)) fnFormatKitchenCard

/-- THE TIED CARD OF 'laws.FnFormatMonth'. -/
def fnFormatMonthCard : Claim7 := { stood := { row := fnFormatMonthRow, standIns := [], harness := (true, "395d262046d1d4ab51345ba2949d021ca1126dbe84e3dbbb8ebc4da1cbaf9b5d"), looks := false }, kinds := [], alts := [], laidByText := true, laidKinds := [.data], laidTests := true, laidLooks := .later }
def FnFormatMonthCardSaid : Prop := Claim7.holds Tryd.pinned (.plain (OpenSpec.ofChange fnFormatMonthSpec)) fnFormatMonthCard

/-- THE TIED CARD OF 'laws.FnFormatNumbers'. -/
def fnFormatNumbersCard : Claim7 := { stood := { row := fnFormatNumbersRow, standIns := [], harness := (true, "395d262046d1d4ab51345ba2949d021ca1126dbe84e3dbbb8ebc4da1cbaf9b5d"), looks := false }, kinds := [], alts := [], laidByText := true, laidKinds := [.data], laidTests := true, laidLooks := .later }
def FnFormatNumbersCardSaid : Prop := Claim7.holds Tryd.pinned (.plain (OpenSpec.ofChange fnFormatNumbersSpec)) fnFormatNumbersCard

/-- THE SECOND FORM's CARD OF 'laws.FnExactFormat'. -/
def fnExactFormatUptoCard : Claim7 := { stood := { row := fnExactFormatUptoRow, standIns := [], harness := (true, "395d262046d1d4ab51345ba2949d021ca1126dbe84e3dbbb8ebc4da1cbaf9b5d"), looks := false }, kinds := [], alts := [], laidByText := true, laidKinds := [.data], laidTests := true, laidLooks := .later }
def FnExactFormatUptoCardSaid : Prop := Claim7.holds Tryd.pinned (.plain (OpenSpec.upto fnExactFormatSpec)) fnExactFormatUptoCard

/-- THE SECOND FORM's CARD OF 'laws.FnExactString'. -/
def fnExactStringUptoCard : Claim7 := { stood := { row := fnExactStringUptoRow, standIns := [], harness := (true, "395d262046d1d4ab51345ba2949d021ca1126dbe84e3dbbb8ebc4da1cbaf9b5d"), looks := false }, kinds := [], alts := [], laidByText := true, laidKinds := [.data], laidTests := true, laidLooks := .later }
def FnExactStringUptoCardSaid : Prop := Claim7.holds Tryd.pinned (.plain (OpenSpec.upto fnExactStringSpec)) fnExactStringUptoCard

/-- THE SECOND FORM's CARD OF 'laws.FnFormatANSIC'. -/
def fnFormatANSICUptoCard : Claim7 := { stood := { row := fnFormatANSICUptoRow, standIns := [], harness := (true, "395d262046d1d4ab51345ba2949d021ca1126dbe84e3dbbb8ebc4da1cbaf9b5d"), looks := false }, kinds := [], alts := [], laidByText := true, laidKinds := [.data], laidTests := true, laidLooks := .later }
def FnFormatANSICUptoCardSaid : Prop := Claim7.holds Tryd.pinned (.plain (OpenSpec.upto fnFormatANSICSpec)) fnFormatANSICUptoCard

/-- THE SECOND FORM's CARD OF 'laws.FnFormatCompact'. -/
def fnFormatCompactUptoCard : Claim7 := { stood := { row := fnFormatCompactUptoRow, standIns := [], harness := (true, "395d262046d1d4ab51345ba2949d021ca1126dbe84e3dbbb8ebc4da1cbaf9b5d"), looks := false }, kinds := [], alts := [], laidByText := true, laidKinds := [.data], laidTests := true, laidLooks := .later }
def FnFormatCompactUptoCardSaid : Prop := Claim7.holds Tryd.pinned (.plain (OpenSpec.upto fnFormatCompactSpec)) fnFormatCompactUptoCard

/-- THE SECOND FORM's CARD OF 'laws.FnFormatDateOnly'. -/
def fnFormatDateOnlyUptoCard : Claim7 := { stood := { row := fnFormatDateOnlyUptoRow, standIns := [], harness := (true, "395d262046d1d4ab51345ba2949d021ca1126dbe84e3dbbb8ebc4da1cbaf9b5d"), looks := false }, kinds := [], alts := [], laidByText := true, laidKinds := [.data], laidTests := true, laidLooks := .later }
def FnFormatDateOnlyUptoCardSaid : Prop := Claim7.holds Tryd.pinned (.plain (OpenSpec.upto fnFormatDateOnlySpec)) fnFormatDateOnlyUptoCard

/-- THE SECOND FORM's CARD OF 'laws.FnFormatDateTime'. -/
def fnFormatDateTimeUptoCard : Claim7 := { stood := { row := fnFormatDateTimeUptoRow, standIns := [], harness := (true, "395d262046d1d4ab51345ba2949d021ca1126dbe84e3dbbb8ebc4da1cbaf9b5d"), looks := false }, kinds := [], alts := [], laidByText := true, laidKinds := [.data], laidTests := true, laidLooks := .later }
def FnFormatDateTimeUptoCardSaid : Prop := Claim7.holds Tryd.pinned (.plain (OpenSpec.upto fnFormatDateTimeSpec)) fnFormatDateTimeUptoCard

/-- THE SECOND FORM's CARD OF 'laws.FnFormatFraction'. -/
def fnFormatFractionUptoCard : Claim7 := { stood := { row := fnFormatFractionUptoRow, standIns := [], harness := (true, "395d262046d1d4ab51345ba2949d021ca1126dbe84e3dbbb8ebc4da1cbaf9b5d"), looks := false }, kinds := [], alts := [], laidByText := true, laidKinds := [.data], laidTests := true, laidLooks := .later }
def FnFormatFractionUptoCardSaid : Prop := Claim7.holds Tryd.pinned (.plain (OpenSpec.upto fnFormatFractionSpec)) fnFormatFractionUptoCard

/-- THE SECOND FORM's CARD OF 'laws.FnFormatHour'. -/
def fnFormatHourUptoCard : Claim7 := { stood := { row := fnFormatHourUptoRow, standIns := [], harness := (true, "395d262046d1d4ab51345ba2949d021ca1126dbe84e3dbbb8ebc4da1cbaf9b5d"), looks := false }, kinds := [], alts := [], laidByText := true, laidKinds := [.data], laidTests := true, laidLooks := .later }
def FnFormatHourUptoCardSaid : Prop := Claim7.holds Tryd.pinned (.plain (OpenSpec.upto fnFormatHourSpec)) fnFormatHourUptoCard

/-- THE SECOND FORM's CARD OF 'laws.FnFormatISO'. -/
def fnFormatISOUptoCard : Claim7 := { stood := { row := fnFormatISOUptoRow, standIns := [], harness := (true, "395d262046d1d4ab51345ba2949d021ca1126dbe84e3dbbb8ebc4da1cbaf9b5d"), looks := false }, kinds := [], alts := [], laidByText := true, laidKinds := [.data], laidTests := true, laidLooks := .later }
def FnFormatISOUptoCardSaid : Prop := Claim7.holds Tryd.pinned (.plain (OpenSpec.upto fnFormatISOSpec)) fnFormatISOUptoCard

/-- THE SECOND FORM's CARD OF 'laws.FnFormatKitchen'. -/
def fnFormatKitchenUptoCard : Claim7 := { stood := { row := fnFormatKitchenUptoRow, standIns := [], harness := (true, "395d262046d1d4ab51345ba2949d021ca1126dbe84e3dbbb8ebc4da1cbaf9b5d"), looks := false }, kinds := [], alts := [], laidByText := true, laidKinds := [.data], laidTests := true, laidLooks := .later }
def FnFormatKitchenUptoCardSaid : Prop := Claim7.holds Tryd.pinned (.plain (OpenSpec.upto fnFormatKitchenSpec)) fnFormatKitchenUptoCard

/-- THE SECOND FORM's CARD OF 'laws.FnFormatMonth'. -/
def fnFormatMonthUptoCard : Claim7 := { stood := { row := fnFormatMonthUptoRow, standIns := [], harness := (true, "395d262046d1d4ab51345ba2949d021ca1126dbe84e3dbbb8ebc4da1cbaf9b5d"), looks := false }, kinds := [], alts := [], laidByText := true, laidKinds := [.data], laidTests := true, laidLooks := .later }
def FnFormatMonthUptoCardSaid : Prop := Claim7.holds Tryd.pinned (.plain (OpenSpec.upto fnFormatMonthSpec)) fnFormatMonthUptoCard

/-- THE SECOND FORM's CARD OF 'laws.FnFormatNumbers'. -/
def fnFormatNumbersUptoCard : Claim7 := { stood := { row := fnFormatNumbersUptoRow, standIns := [], harness := (true, "395d262046d1d4ab51345ba2949d021ca1126dbe84e3dbbb8ebc4da1cbaf9b5d"), looks := false }, kinds := [], alts := [], laidByText := true, laidKinds := [.data], laidTests := true, laidLooks := .later }
def FnFormatNumbersUptoCardSaid : Prop := Claim7.holds Tryd.pinned (.plain (OpenSpec.upto fnFormatNumbersSpec)) fnFormatNumbersUptoCard
end Rows
end Go.Proofs.YtdnhdebkomfngaaDoor
