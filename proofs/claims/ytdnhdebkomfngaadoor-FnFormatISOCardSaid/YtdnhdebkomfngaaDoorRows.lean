/-
  NARROWER THAN 'FOR EVERY INPUT', by the rows' own cells (each row's printed sentence says how): FnExactFormat: laid · FnExactString: laid · FnFormatANSIC: laid · FnFormatCompact: laid · FnFormatDateOnly: laid · FnFormatDateTime: laid · FnFormatFraction: laid · FnFormatHour: laid · FnFormatISO: laid · FnFormatKitchen: laid · FnFormatMonth: laid · FnFormatNumbers: laid.
  DERIVED. THE GIVEN ROWS OF THIS SEAT. 12 by the template 'for every input the law returns true; each argument reads behind the call as it read before'; 0 by the template 'total and deterministic' (their statements: YtdnhdebkomfngaaDoorTotals.lean).
  GIVEN WITH THE SEED: the statements are not yours to turn. If you find one false, say at which input.
  Laid BY PROGRAM, IN A SANDBOX (cutbox-rows.mjs): the forced cells as the released guide's own fill.sh prints them over the translation 76a956e106878fab… (all of the seat's roots in one cut). By AI agents, Wed Nov 11 2026. No macro, syntax, notation, axiom, sorry.
-/
import Derived.Test.YtdnhdebkomfngaaDoorChecked
import GoSem.Claim
import GoSem.ClaimJoined
import GoSem.ClaimMapViews
import Derived.JoinedTies
import Derived.KernelRfl
namespace Go.Proofs.YtdnhdebkomfngaaDoor
/- THE CELL 'sum', in the pinned program and in every row, IS THE sha256 OF THE DUMP (.gsa) THAT YtdnhdebkomfngaaDoorProg.lean LOADS. Nothing in Lean hashes anything: it is a label: what it is worth is what the hold of that sum in a sandbox is worth. -/
noncomputable def Tryd.pinned : Pinned := { name := "ytdnhdebkomfngaadoor", sum := "76a956e106878fabad1800aa2c4c77957a7a46e4d6567aca85441e256a30fd14", checked := Tryd.checked }
namespace Rows
def none {H : Type} : Left H := { results := [], args := [] }

/- WHAT THE LISTED PACKAGE-LEVEL VARIABLES READ AS WHEN THE CALL BEGINS. Each datum BY PROGRAM (the guide's laid-datum.mjs) off the statement by which the dump's own 'gosem.cut.vars' lays the variable. In a bare row this is a premise. The card (YtdnhdebkomfngaaDoorCards.lean) ties it to the program's text. -/
def laid_loop_example_pub_timelayouts_pub_gotime_std0x {H : Type} : DataW H := .agg [.lit (.int .i64 260), .lit (.int .i64 265), .lit (.int .i64 1038), .lit (.int .i64 1040), .lit (.int .i64 1042), .lit (.int .i64 276)]

/-- 'laws.FnExactFormat': WHATEVER THE INPUT: true; the input reads as it did. -/
def fnExactFormatSpec : ChangeSpec := { name := "fnExactFormat", vars := ["loop.example/pub-timelayouts/pub/gotime.std0x"], fn := fun _ => fun
  | [d1, d2, g1] => { results := [.lit (.bool true)], args := [d1, d2], vars := [g1] }
  | _ => none }
def fnExactFormatRow : OpenClaim := { program := "ytdnhdebkomfngaadoor", sum := "76a956e106878fabad1800aa2c4c77957a7a46e4d6567aca85441e256a30fd14", func := "loop.example/pub-timelayouts/laws.FnExactFormat", spec := "fnExactFormat", unfollowed := true, recurses := true, named := ["loop.example/pub-timelayouts/pub/gotime.std0x"], apart := false, laid := [("loop.example/pub-timelayouts/pub/gotime.std0x", laid_loop_example_pub_timelayouts_pub_gotime_std0x)] }
def FnExactFormatSaid : Prop := fnExactFormatRow.holds Tryd.pinned (OpenSpec.ofChange fnExactFormatSpec)

/-- ITS FALSE NEIGHBOUR: 'it returns false'. Refute it at one input. -/
def fnExactFormatWrong : ChangeSpec := { name := "fnExactFormat", vars := ["loop.example/pub-timelayouts/pub/gotime.std0x"], fn := fun _ => fun
  | [d1, d2, g1] => { results := [.lit (.bool false)], args := [d1, d2], vars := [g1] }
  | _ => none }
def FnExactFormatWrongFalsely : Prop := fnExactFormatRow.holds Tryd.pinned (OpenSpec.ofChange fnExactFormatWrong)

/-- 'laws.FnExactString': WHATEVER THE INPUT: true; the input reads as it did. -/
def fnExactStringSpec : ChangeSpec := { name := "fnExactString", vars := ["loop.example/pub-timelayouts/pub/gotime.std0x"], fn := fun _ => fun
  | [d, g1] => { results := [.lit (.bool true)], args := [d], vars := [g1] }
  | _ => none }
def fnExactStringRow : OpenClaim := { program := "ytdnhdebkomfngaadoor", sum := "76a956e106878fabad1800aa2c4c77957a7a46e4d6567aca85441e256a30fd14", func := "loop.example/pub-timelayouts/laws.FnExactString", spec := "fnExactString", unfollowed := true, recurses := true, named := ["loop.example/pub-timelayouts/pub/gotime.std0x"], apart := false, laid := [("loop.example/pub-timelayouts/pub/gotime.std0x", laid_loop_example_pub_timelayouts_pub_gotime_std0x)] }
def FnExactStringSaid : Prop := fnExactStringRow.holds Tryd.pinned (OpenSpec.ofChange fnExactStringSpec)

/-- ITS FALSE NEIGHBOUR: 'it returns false'. Refute it at one input. -/
def fnExactStringWrong : ChangeSpec := { name := "fnExactString", vars := ["loop.example/pub-timelayouts/pub/gotime.std0x"], fn := fun _ => fun
  | [d, g1] => { results := [.lit (.bool false)], args := [d], vars := [g1] }
  | _ => none }
def FnExactStringWrongFalsely : Prop := fnExactStringRow.holds Tryd.pinned (OpenSpec.ofChange fnExactStringWrong)

/-- 'laws.FnFormatANSIC': WHATEVER THE INPUT: true; the input reads as it did. -/
def fnFormatANSICSpec : ChangeSpec := { name := "fnFormatANSIC", vars := ["loop.example/pub-timelayouts/pub/gotime.std0x"], fn := fun _ => fun
  | [d, g1] => { results := [.lit (.bool true)], args := [d], vars := [g1] }
  | _ => none }
def fnFormatANSICRow : OpenClaim := { program := "ytdnhdebkomfngaadoor", sum := "76a956e106878fabad1800aa2c4c77957a7a46e4d6567aca85441e256a30fd14", func := "loop.example/pub-timelayouts/laws.FnFormatANSIC", spec := "fnFormatANSIC", unfollowed := true, recurses := true, named := ["loop.example/pub-timelayouts/pub/gotime.std0x"], apart := false, laid := [("loop.example/pub-timelayouts/pub/gotime.std0x", laid_loop_example_pub_timelayouts_pub_gotime_std0x)] }
def FnFormatANSICSaid : Prop := fnFormatANSICRow.holds Tryd.pinned (OpenSpec.ofChange fnFormatANSICSpec)

/-- ITS FALSE NEIGHBOUR: 'it returns false'. Refute it at one input. -/
def fnFormatANSICWrong : ChangeSpec := { name := "fnFormatANSIC", vars := ["loop.example/pub-timelayouts/pub/gotime.std0x"], fn := fun _ => fun
  | [d, g1] => { results := [.lit (.bool false)], args := [d], vars := [g1] }
  | _ => none }
def FnFormatANSICWrongFalsely : Prop := fnFormatANSICRow.holds Tryd.pinned (OpenSpec.ofChange fnFormatANSICWrong)

/-- 'laws.FnFormatCompact': WHATEVER THE INPUT: true; the input reads as it did. -/
def fnFormatCompactSpec : ChangeSpec := { name := "fnFormatCompact", vars := ["loop.example/pub-timelayouts/pub/gotime.std0x"], fn := fun _ => fun
  | [d, g1] => { results := [.lit (.bool true)], args := [d], vars := [g1] }
  | _ => none }
def fnFormatCompactRow : OpenClaim := { program := "ytdnhdebkomfngaadoor", sum := "76a956e106878fabad1800aa2c4c77957a7a46e4d6567aca85441e256a30fd14", func := "loop.example/pub-timelayouts/laws.FnFormatCompact", spec := "fnFormatCompact", unfollowed := true, recurses := true, named := ["loop.example/pub-timelayouts/pub/gotime.std0x"], apart := false, laid := [("loop.example/pub-timelayouts/pub/gotime.std0x", laid_loop_example_pub_timelayouts_pub_gotime_std0x)] }
def FnFormatCompactSaid : Prop := fnFormatCompactRow.holds Tryd.pinned (OpenSpec.ofChange fnFormatCompactSpec)

/-- ITS FALSE NEIGHBOUR: 'it returns false'. Refute it at one input. -/
def fnFormatCompactWrong : ChangeSpec := { name := "fnFormatCompact", vars := ["loop.example/pub-timelayouts/pub/gotime.std0x"], fn := fun _ => fun
  | [d, g1] => { results := [.lit (.bool false)], args := [d], vars := [g1] }
  | _ => none }
def FnFormatCompactWrongFalsely : Prop := fnFormatCompactRow.holds Tryd.pinned (OpenSpec.ofChange fnFormatCompactWrong)

/-- 'laws.FnFormatDateOnly': WHATEVER THE INPUT: true; the input reads as it did. -/
def fnFormatDateOnlySpec : ChangeSpec := { name := "fnFormatDateOnly", vars := ["loop.example/pub-timelayouts/pub/gotime.std0x"], fn := fun _ => fun
  | [d, g1] => { results := [.lit (.bool true)], args := [d], vars := [g1] }
  | _ => none }
def fnFormatDateOnlyRow : OpenClaim := { program := "ytdnhdebkomfngaadoor", sum := "76a956e106878fabad1800aa2c4c77957a7a46e4d6567aca85441e256a30fd14", func := "loop.example/pub-timelayouts/laws.FnFormatDateOnly", spec := "fnFormatDateOnly", unfollowed := true, recurses := true, named := ["loop.example/pub-timelayouts/pub/gotime.std0x"], apart := false, laid := [("loop.example/pub-timelayouts/pub/gotime.std0x", laid_loop_example_pub_timelayouts_pub_gotime_std0x)] }
def FnFormatDateOnlySaid : Prop := fnFormatDateOnlyRow.holds Tryd.pinned (OpenSpec.ofChange fnFormatDateOnlySpec)

/-- ITS FALSE NEIGHBOUR: 'it returns false'. Refute it at one input. -/
def fnFormatDateOnlyWrong : ChangeSpec := { name := "fnFormatDateOnly", vars := ["loop.example/pub-timelayouts/pub/gotime.std0x"], fn := fun _ => fun
  | [d, g1] => { results := [.lit (.bool false)], args := [d], vars := [g1] }
  | _ => none }
def FnFormatDateOnlyWrongFalsely : Prop := fnFormatDateOnlyRow.holds Tryd.pinned (OpenSpec.ofChange fnFormatDateOnlyWrong)

/-- 'laws.FnFormatDateTime': WHATEVER THE INPUT: true; the input reads as it did. -/
def fnFormatDateTimeSpec : ChangeSpec := { name := "fnFormatDateTime", vars := ["loop.example/pub-timelayouts/pub/gotime.std0x"], fn := fun _ => fun
  | [d, g1] => { results := [.lit (.bool true)], args := [d], vars := [g1] }
  | _ => none }
def fnFormatDateTimeRow : OpenClaim := { program := "ytdnhdebkomfngaadoor", sum := "76a956e106878fabad1800aa2c4c77957a7a46e4d6567aca85441e256a30fd14", func := "loop.example/pub-timelayouts/laws.FnFormatDateTime", spec := "fnFormatDateTime", unfollowed := true, recurses := true, named := ["loop.example/pub-timelayouts/pub/gotime.std0x"], apart := false, laid := [("loop.example/pub-timelayouts/pub/gotime.std0x", laid_loop_example_pub_timelayouts_pub_gotime_std0x)] }
def FnFormatDateTimeSaid : Prop := fnFormatDateTimeRow.holds Tryd.pinned (OpenSpec.ofChange fnFormatDateTimeSpec)

/-- ITS FALSE NEIGHBOUR: 'it returns false'. Refute it at one input. -/
def fnFormatDateTimeWrong : ChangeSpec := { name := "fnFormatDateTime", vars := ["loop.example/pub-timelayouts/pub/gotime.std0x"], fn := fun _ => fun
  | [d, g1] => { results := [.lit (.bool false)], args := [d], vars := [g1] }
  | _ => none }
def FnFormatDateTimeWrongFalsely : Prop := fnFormatDateTimeRow.holds Tryd.pinned (OpenSpec.ofChange fnFormatDateTimeWrong)

/-- 'laws.FnFormatFraction': WHATEVER THE INPUT: true; the input reads as it did. -/
def fnFormatFractionSpec : ChangeSpec := { name := "fnFormatFraction", vars := ["loop.example/pub-timelayouts/pub/gotime.std0x"], fn := fun _ => fun
  | [d1, d2, d3, g1] => { results := [.lit (.bool true)], args := [d1, d2, d3], vars := [g1] }
  | _ => none }
def fnFormatFractionRow : OpenClaim := { program := "ytdnhdebkomfngaadoor", sum := "76a956e106878fabad1800aa2c4c77957a7a46e4d6567aca85441e256a30fd14", func := "loop.example/pub-timelayouts/laws.FnFormatFraction", spec := "fnFormatFraction", unfollowed := true, recurses := true, named := ["loop.example/pub-timelayouts/pub/gotime.std0x"], apart := false, laid := [("loop.example/pub-timelayouts/pub/gotime.std0x", laid_loop_example_pub_timelayouts_pub_gotime_std0x)] }
def FnFormatFractionSaid : Prop := fnFormatFractionRow.holds Tryd.pinned (OpenSpec.ofChange fnFormatFractionSpec)

/-- ITS FALSE NEIGHBOUR: 'it returns false'. Refute it at one input. -/
def fnFormatFractionWrong : ChangeSpec := { name := "fnFormatFraction", vars := ["loop.example/pub-timelayouts/pub/gotime.std0x"], fn := fun _ => fun
  | [d1, d2, d3, g1] => { results := [.lit (.bool false)], args := [d1, d2, d3], vars := [g1] }
  | _ => none }
def FnFormatFractionWrongFalsely : Prop := fnFormatFractionRow.holds Tryd.pinned (OpenSpec.ofChange fnFormatFractionWrong)

/-- 'laws.FnFormatHour': WHATEVER THE INPUT: true; the input reads as it did. -/
def fnFormatHourSpec : ChangeSpec := { name := "fnFormatHour", vars := ["loop.example/pub-timelayouts/pub/gotime.std0x"], fn := fun _ => fun
  | [d, g1] => { results := [.lit (.bool true)], args := [d], vars := [g1] }
  | _ => none }
def fnFormatHourRow : OpenClaim := { program := "ytdnhdebkomfngaadoor", sum := "76a956e106878fabad1800aa2c4c77957a7a46e4d6567aca85441e256a30fd14", func := "loop.example/pub-timelayouts/laws.FnFormatHour", spec := "fnFormatHour", unfollowed := true, recurses := true, named := ["loop.example/pub-timelayouts/pub/gotime.std0x"], apart := false, laid := [("loop.example/pub-timelayouts/pub/gotime.std0x", laid_loop_example_pub_timelayouts_pub_gotime_std0x)] }
def FnFormatHourSaid : Prop := fnFormatHourRow.holds Tryd.pinned (OpenSpec.ofChange fnFormatHourSpec)

/-- ITS FALSE NEIGHBOUR: 'it returns false'. Refute it at one input. -/
def fnFormatHourWrong : ChangeSpec := { name := "fnFormatHour", vars := ["loop.example/pub-timelayouts/pub/gotime.std0x"], fn := fun _ => fun
  | [d, g1] => { results := [.lit (.bool false)], args := [d], vars := [g1] }
  | _ => none }
def FnFormatHourWrongFalsely : Prop := fnFormatHourRow.holds Tryd.pinned (OpenSpec.ofChange fnFormatHourWrong)

/-- 'laws.FnFormatISO': WHATEVER THE INPUT: true; the input reads as it did. -/
def fnFormatISOSpec : ChangeSpec := { name := "fnFormatISO", vars := ["loop.example/pub-timelayouts/pub/gotime.std0x"], fn := fun _ => fun
  | [d, g1] => { results := [.lit (.bool true)], args := [d], vars := [g1] }
  | _ => none }
def fnFormatISORow : OpenClaim := { program := "ytdnhdebkomfngaadoor", sum := "76a956e106878fabad1800aa2c4c77957a7a46e4d6567aca85441e256a30fd14", func := "loop.example/pub-timelayouts/laws.FnFormatISO", spec := "fnFormatISO", unfollowed := true, recurses := true, named := ["loop.example/pub-timelayouts/pub/gotime.std0x"], apart := false, laid := [("loop.example/pub-timelayouts/pub/gotime.std0x", laid_loop_example_pub_timelayouts_pub_gotime_std0x)] }
def FnFormatISOSaid : Prop := fnFormatISORow.holds Tryd.pinned (OpenSpec.ofChange fnFormatISOSpec)

/-- ITS FALSE NEIGHBOUR: 'it returns false'. Refute it at one input. -/
def fnFormatISOWrong : ChangeSpec := { name := "fnFormatISO", vars := ["loop.example/pub-timelayouts/pub/gotime.std0x"], fn := fun _ => fun
  | [d, g1] => { results := [.lit (.bool false)], args := [d], vars := [g1] }
  | _ => none }
def FnFormatISOWrongFalsely : Prop := fnFormatISORow.holds Tryd.pinned (OpenSpec.ofChange fnFormatISOWrong)

/-- 'laws.FnFormatKitchen': WHATEVER THE INPUT: true; the input reads as it did. -/
def fnFormatKitchenSpec : ChangeSpec := { name := "fnFormatKitchen", vars := ["loop.example/pub-timelayouts/pub/gotime.std0x"], fn := fun _ => fun
  | [d, g1] => { results := [.lit (.bool true)], args := [d], vars := [g1] }
  | _ => none }
def fnFormatKitchenRow : OpenClaim := { program := "ytdnhdebkomfngaadoor", sum := "76a956e106878fabad1800aa2c4c77957a7a46e4d6567aca85441e256a30fd14", func := "loop.example/pub-timelayouts/laws.FnFormatKitchen", spec := "fnFormatKitchen", unfollowed := true, recurses := true, named := ["loop.example/pub-timelayouts/pub/gotime.std0x"], apart := false, laid := [("loop.example/pub-timelayouts/pub/gotime.std0x", laid_loop_example_pub_timelayouts_pub_gotime_std0x)] }
def FnFormatKitchenSaid : Prop := fnFormatKitchenRow.holds Tryd.pinned (OpenSpec.ofChange fnFormatKitchenSpec)

/-- ITS FALSE NEIGHBOUR: 'it returns false'. Refute it at one input. -/
def fnFormatKitchenWrong : ChangeSpec := { name := "fnFormatKitchen", vars := ["loop.example/pub-timelayouts/pub/gotime.std0x"], fn := fun _ => fun
  | [d, g1] => { results := [.lit (.bool false)], args := [d], vars := [g1] }
  | _ => none }
def FnFormatKitchenWrongFalsely : Prop := fnFormatKitchenRow.holds Tryd.pinned (OpenSpec.ofChange fnFormatKitchenWrong)

/-- 'laws.FnFormatMonth': WHATEVER THE INPUT: true; the input reads as it did. -/
def fnFormatMonthSpec : ChangeSpec := { name := "fnFormatMonth", vars := ["loop.example/pub-timelayouts/pub/gotime.std0x"], fn := fun _ => fun
  | [d, g1] => { results := [.lit (.bool true)], args := [d], vars := [g1] }
  | _ => none }
def fnFormatMonthRow : OpenClaim := { program := "ytdnhdebkomfngaadoor", sum := "76a956e106878fabad1800aa2c4c77957a7a46e4d6567aca85441e256a30fd14", func := "loop.example/pub-timelayouts/laws.FnFormatMonth", spec := "fnFormatMonth", unfollowed := true, recurses := true, named := ["loop.example/pub-timelayouts/pub/gotime.std0x"], apart := false, laid := [("loop.example/pub-timelayouts/pub/gotime.std0x", laid_loop_example_pub_timelayouts_pub_gotime_std0x)] }
def FnFormatMonthSaid : Prop := fnFormatMonthRow.holds Tryd.pinned (OpenSpec.ofChange fnFormatMonthSpec)

/-- ITS FALSE NEIGHBOUR: 'it returns false'. Refute it at one input. -/
def fnFormatMonthWrong : ChangeSpec := { name := "fnFormatMonth", vars := ["loop.example/pub-timelayouts/pub/gotime.std0x"], fn := fun _ => fun
  | [d, g1] => { results := [.lit (.bool false)], args := [d], vars := [g1] }
  | _ => none }
def FnFormatMonthWrongFalsely : Prop := fnFormatMonthRow.holds Tryd.pinned (OpenSpec.ofChange fnFormatMonthWrong)

/-- 'laws.FnFormatNumbers': WHATEVER THE INPUT: true; the input reads as it did. -/
def fnFormatNumbersSpec : ChangeSpec := { name := "fnFormatNumbers", vars := ["loop.example/pub-timelayouts/pub/gotime.std0x"], fn := fun _ => fun
  | [d, g1] => { results := [.lit (.bool true)], args := [d], vars := [g1] }
  | _ => none }
def fnFormatNumbersRow : OpenClaim := { program := "ytdnhdebkomfngaadoor", sum := "76a956e106878fabad1800aa2c4c77957a7a46e4d6567aca85441e256a30fd14", func := "loop.example/pub-timelayouts/laws.FnFormatNumbers", spec := "fnFormatNumbers", unfollowed := true, recurses := true, named := ["loop.example/pub-timelayouts/pub/gotime.std0x"], apart := false, laid := [("loop.example/pub-timelayouts/pub/gotime.std0x", laid_loop_example_pub_timelayouts_pub_gotime_std0x)] }
def FnFormatNumbersSaid : Prop := fnFormatNumbersRow.holds Tryd.pinned (OpenSpec.ofChange fnFormatNumbersSpec)

/-- ITS FALSE NEIGHBOUR: 'it returns false'. Refute it at one input. -/
def fnFormatNumbersWrong : ChangeSpec := { name := "fnFormatNumbers", vars := ["loop.example/pub-timelayouts/pub/gotime.std0x"], fn := fun _ => fun
  | [d, g1] => { results := [.lit (.bool false)], args := [d], vars := [g1] }
  | _ => none }
def FnFormatNumbersWrongFalsely : Prop := fnFormatNumbersRow.holds Tryd.pinned (OpenSpec.ofChange fnFormatNumbersWrong)

/- THE SECOND FORM. 'bulk': how many values and letters a reading holds, each counted each time it is reached (what is shared counts as often as it is met; a slice's spare places count too). A statement '..UptoSaid' is the law's where the arguments, and the package variables that the reading takes, are together of bulk at most 1048576: NARROWER than '..Said'. Prove '..Said' where nothing that the law and all that it calls make is longer than what came in: it says more and counts as full. Else prove '..UptoSaid'. A law counts once. -/
mutual
def uptoBulk {H : Type} : DataW H → Nat
  | .lit (.string bytes) => bytes.length + 1
  | .lit _ => 1
  | .nil => 1
  | .ptr d => uptoBulk d + 1
  | .slice elems spare => uptoBulkAll elems + uptoBulkAll spare + 1
  | .agg parts => uptoBulkAll parts + 1
  | .iface _ d => uptoBulk d + 1
  | .map entries => uptoBulkEntries entries + 1
  | .held _ => 1
def uptoBulkAll {H : Type} : List (DataW H) → Nat
  | [] => 0
  | d :: r => uptoBulk d + uptoBulkAll r
def uptoBulkEntries {H : Type} : List (Lit × DataW H) → Nat
  | [] => 0
  | x :: r => uptoBulkEntry x + uptoBulkEntries r
def uptoBulkEntry {H : Type} : Lit × DataW H → Nat
  | (.string bytes, d) => bytes.length + uptoBulk d + 1
  | (_, d) => uptoBulk d + 1
 end
def uptoSmall : (H : Type) → List (DataW H) → Bool := fun _ ds => decide (uptoBulkAll ds ≤ 1048576)
def OpenSpec.upto (s : _root_.Go.ChangeSpec) : _root_.Go.OpenSpec := { _root_.Go.OpenSpec.ofChange s with cond := some uptoSmall }

/-- 'laws.FnExactFormat', WHERE WHAT IT READS IS OF BULK AT MOST 1048576: true; the input reads as it did. -/
def fnExactFormatUptoRow : OpenClaim := { program := "ytdnhdebkomfngaadoor", sum := "76a956e106878fabad1800aa2c4c77957a7a46e4d6567aca85441e256a30fd14", func := "loop.example/pub-timelayouts/laws.FnExactFormat", spec := "fnExactFormat", unfollowed := true, recurses := true, named := ["loop.example/pub-timelayouts/pub/gotime.std0x"], apart := false, laid := [("loop.example/pub-timelayouts/pub/gotime.std0x", laid_loop_example_pub_timelayouts_pub_gotime_std0x)], narrowed := true }
def FnExactFormatUptoSaid : Prop := fnExactFormatUptoRow.holds Tryd.pinned (OpenSpec.upto fnExactFormatSpec)

/-- 'laws.FnExactString', WHERE WHAT IT READS IS OF BULK AT MOST 1048576: true; the input reads as it did. -/
def fnExactStringUptoRow : OpenClaim := { program := "ytdnhdebkomfngaadoor", sum := "76a956e106878fabad1800aa2c4c77957a7a46e4d6567aca85441e256a30fd14", func := "loop.example/pub-timelayouts/laws.FnExactString", spec := "fnExactString", unfollowed := true, recurses := true, named := ["loop.example/pub-timelayouts/pub/gotime.std0x"], apart := false, laid := [("loop.example/pub-timelayouts/pub/gotime.std0x", laid_loop_example_pub_timelayouts_pub_gotime_std0x)], narrowed := true }
def FnExactStringUptoSaid : Prop := fnExactStringUptoRow.holds Tryd.pinned (OpenSpec.upto fnExactStringSpec)

/-- 'laws.FnFormatANSIC', WHERE WHAT IT READS IS OF BULK AT MOST 1048576: true; the input reads as it did. -/
def fnFormatANSICUptoRow : OpenClaim := { program := "ytdnhdebkomfngaadoor", sum := "76a956e106878fabad1800aa2c4c77957a7a46e4d6567aca85441e256a30fd14", func := "loop.example/pub-timelayouts/laws.FnFormatANSIC", spec := "fnFormatANSIC", unfollowed := true, recurses := true, named := ["loop.example/pub-timelayouts/pub/gotime.std0x"], apart := false, laid := [("loop.example/pub-timelayouts/pub/gotime.std0x", laid_loop_example_pub_timelayouts_pub_gotime_std0x)], narrowed := true }
def FnFormatANSICUptoSaid : Prop := fnFormatANSICUptoRow.holds Tryd.pinned (OpenSpec.upto fnFormatANSICSpec)

/-- 'laws.FnFormatCompact', WHERE WHAT IT READS IS OF BULK AT MOST 1048576: true; the input reads as it did. -/
def fnFormatCompactUptoRow : OpenClaim := { program := "ytdnhdebkomfngaadoor", sum := "76a956e106878fabad1800aa2c4c77957a7a46e4d6567aca85441e256a30fd14", func := "loop.example/pub-timelayouts/laws.FnFormatCompact", spec := "fnFormatCompact", unfollowed := true, recurses := true, named := ["loop.example/pub-timelayouts/pub/gotime.std0x"], apart := false, laid := [("loop.example/pub-timelayouts/pub/gotime.std0x", laid_loop_example_pub_timelayouts_pub_gotime_std0x)], narrowed := true }
def FnFormatCompactUptoSaid : Prop := fnFormatCompactUptoRow.holds Tryd.pinned (OpenSpec.upto fnFormatCompactSpec)

/-- 'laws.FnFormatDateOnly', WHERE WHAT IT READS IS OF BULK AT MOST 1048576: true; the input reads as it did. -/
def fnFormatDateOnlyUptoRow : OpenClaim := { program := "ytdnhdebkomfngaadoor", sum := "76a956e106878fabad1800aa2c4c77957a7a46e4d6567aca85441e256a30fd14", func := "loop.example/pub-timelayouts/laws.FnFormatDateOnly", spec := "fnFormatDateOnly", unfollowed := true, recurses := true, named := ["loop.example/pub-timelayouts/pub/gotime.std0x"], apart := false, laid := [("loop.example/pub-timelayouts/pub/gotime.std0x", laid_loop_example_pub_timelayouts_pub_gotime_std0x)], narrowed := true }
def FnFormatDateOnlyUptoSaid : Prop := fnFormatDateOnlyUptoRow.holds Tryd.pinned (OpenSpec.upto fnFormatDateOnlySpec)

/-- 'laws.FnFormatDateTime', WHERE WHAT IT READS IS OF BULK AT MOST 1048576: true; the input reads as it did. -/
def fnFormatDateTimeUptoRow : OpenClaim := { program := "ytdnhdebkomfngaadoor", sum := "76a956e106878fabad1800aa2c4c77957a7a46e4d6567aca85441e256a30fd14", func := "loop.example/pub-timelayouts/laws.FnFormatDateTime", spec := "fnFormatDateTime", unfollowed := true, recurses := true, named := ["loop.example/pub-timelayouts/pub/gotime.std0x"], apart := false, laid := [("loop.example/pub-timelayouts/pub/gotime.std0x", laid_loop_example_pub_timelayouts_pub_gotime_std0x)], narrowed := true }
def FnFormatDateTimeUptoSaid : Prop := fnFormatDateTimeUptoRow.holds Tryd.pinned (OpenSpec.upto fnFormatDateTimeSpec)

/-- 'laws.FnFormatFraction', WHERE WHAT IT READS IS OF BULK AT MOST 1048576: true; the input reads as it did. -/
def fnFormatFractionUptoRow : OpenClaim := { program := "ytdnhdebkomfngaadoor", sum := "76a956e106878fabad1800aa2c4c77957a7a46e4d6567aca85441e256a30fd14", func := "loop.example/pub-timelayouts/laws.FnFormatFraction", spec := "fnFormatFraction", unfollowed := true, recurses := true, named := ["loop.example/pub-timelayouts/pub/gotime.std0x"], apart := false, laid := [("loop.example/pub-timelayouts/pub/gotime.std0x", laid_loop_example_pub_timelayouts_pub_gotime_std0x)], narrowed := true }
def FnFormatFractionUptoSaid : Prop := fnFormatFractionUptoRow.holds Tryd.pinned (OpenSpec.upto fnFormatFractionSpec)

/-- 'laws.FnFormatHour', WHERE WHAT IT READS IS OF BULK AT MOST 1048576: true; the input reads as it did. -/
def fnFormatHourUptoRow : OpenClaim := { program := "ytdnhdebkomfngaadoor", sum := "76a956e106878fabad1800aa2c4c77957a7a46e4d6567aca85441e256a30fd14", func := "loop.example/pub-timelayouts/laws.FnFormatHour", spec := "fnFormatHour", unfollowed := true, recurses := true, named := ["loop.example/pub-timelayouts/pub/gotime.std0x"], apart := false, laid := [("loop.example/pub-timelayouts/pub/gotime.std0x", laid_loop_example_pub_timelayouts_pub_gotime_std0x)], narrowed := true }
def FnFormatHourUptoSaid : Prop := fnFormatHourUptoRow.holds Tryd.pinned (OpenSpec.upto fnFormatHourSpec)

/-- 'laws.FnFormatISO', WHERE WHAT IT READS IS OF BULK AT MOST 1048576: true; the input reads as it did. -/
def fnFormatISOUptoRow : OpenClaim := { program := "ytdnhdebkomfngaadoor", sum := "76a956e106878fabad1800aa2c4c77957a7a46e4d6567aca85441e256a30fd14", func := "loop.example/pub-timelayouts/laws.FnFormatISO", spec := "fnFormatISO", unfollowed := true, recurses := true, named := ["loop.example/pub-timelayouts/pub/gotime.std0x"], apart := false, laid := [("loop.example/pub-timelayouts/pub/gotime.std0x", laid_loop_example_pub_timelayouts_pub_gotime_std0x)], narrowed := true }
def FnFormatISOUptoSaid : Prop := fnFormatISOUptoRow.holds Tryd.pinned (OpenSpec.upto fnFormatISOSpec)

/-- 'laws.FnFormatKitchen', WHERE WHAT IT READS IS OF BULK AT MOST 1048576: true; the input reads as it did. -/
def fnFormatKitchenUptoRow : OpenClaim := { program := "ytdnhdebkomfngaadoor", sum := "76a956e106878fabad1800aa2c4c77957a7a46e4d6567aca85441e256a30fd14", func := "loop.example/pub-timelayouts/laws.FnFormatKitchen", spec := "fnFormatKitchen", unfollowed := true, recurses := true, named := ["loop.example/pub-timelayouts/pub/gotime.std0x"], apart := false, laid := [("loop.example/pub-timelayouts/pub/gotime.std0x", laid_loop_example_pub_timelayouts_pub_gotime_std0x)], narrowed := true }
def FnFormatKitchenUptoSaid : Prop := fnFormatKitchenUptoRow.holds Tryd.pinned (OpenSpec.upto fnFormatKitchenSpec)

/-- 'laws.FnFormatMonth', WHERE WHAT IT READS IS OF BULK AT MOST 1048576: true; the input reads as it did. -/
def fnFormatMonthUptoRow : OpenClaim := { program := "ytdnhdebkomfngaadoor", sum := "76a956e106878fabad1800aa2c4c77957a7a46e4d6567aca85441e256a30fd14", func := "loop.example/pub-timelayouts/laws.FnFormatMonth", spec := "fnFormatMonth", unfollowed := true, recurses := true, named := ["loop.example/pub-timelayouts/pub/gotime.std0x"], apart := false, laid := [("loop.example/pub-timelayouts/pub/gotime.std0x", laid_loop_example_pub_timelayouts_pub_gotime_std0x)], narrowed := true }
def FnFormatMonthUptoSaid : Prop := fnFormatMonthUptoRow.holds Tryd.pinned (OpenSpec.upto fnFormatMonthSpec)

/-- 'laws.FnFormatNumbers', WHERE WHAT IT READS IS OF BULK AT MOST 1048576: true; the input reads as it did. -/
def fnFormatNumbersUptoRow : OpenClaim := { program := "ytdnhdebkomfngaadoor", sum := "76a956e106878fabad1800aa2c4c77957a7a46e4d6567aca85441e256a30fd14", func := "loop.example/pub-timelayouts/laws.FnFormatNumbers", spec := "fnFormatNumbers", unfollowed := true, recurses := true, named := ["loop.example/pub-timelayouts/pub/gotime.std0x"], apart := false, laid := [("loop.example/pub-timelayouts/pub/gotime.std0x", laid_loop_example_pub_timelayouts_pub_gotime_std0x)], narrowed := true }
def FnFormatNumbersUptoSaid : Prop := fnFormatNumbersUptoRow.holds Tryd.pinned (OpenSpec.upto fnFormatNumbersSpec)

end Rows
end Go.Proofs.YtdnhdebkomfngaaDoor
