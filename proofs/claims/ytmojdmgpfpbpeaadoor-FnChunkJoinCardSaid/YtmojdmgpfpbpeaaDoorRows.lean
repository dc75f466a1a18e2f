/-
  NARROWER THAN 'FOR EVERY INPUT', by the rows' own cells (each row's printed sentence says how): FnExactLeadingInt: ifaces, laid · FnExactSignedOffset: ifaces, laid · FnExactNanoseconds: ifaces, laid · FnTimeZoneThree: ifaces, laid · FnChunkJoin: laid.
  DERIVED. THE GIVEN ROWS OF THIS SEAT. 5 by the template 'for every input the law returns true; each argument reads behind the call as it read before'; 0 by the template 'total and deterministic' (their statements: YtmojdmgpfpbpeaaDoorTotals.lean).
  GIVEN WITH THE SEED: the statements are not yours to turn. If you find one false, say at which input.
  Laid BY PROGRAM, IN A SANDBOX (cutbox-rows.mjs): the forced cells as the released guide's own fill.sh prints them over the translation 01a2c77fe26861bd… (all of the seat's roots in one cut). By AI agents, Wed Nov 11 2026. No macro, syntax, notation, axiom, sorry.
-/
import Derived.Test.YtmojdmgpfpbpeaaDoorChecked
import GoSem.Claim
import GoSem.ClaimJoined
import GoSem.ClaimMapViews
import Derived.JoinedTies
import Derived.KernelRfl
namespace Go.Proofs.YtmojdmgpfpbpeaaDoor
/- THE CELL 'sum', in the pinned program and in every row, IS THE sha256 OF THE DUMP (.gsa) THAT YtmojdmgpfpbpeaaDoorProg.lean LOADS. Nothing in Lean hashes anything: it is a label: what it is worth is what the hold of that sum in a sandbox is worth. -/
noncomputable def Tryd.pinned : Pinned := { name := "ytmojdmgpfpbpeaadoor", sum := "01a2c77fe26861bddccfc3ed4a3fd492c3d938c8be324b1730e19636708eba27", checked := Tryd.checked }
namespace Rows
def none {H : Type} : Left H := { results := [], args := [] }

/- WHAT THE LISTED PACKAGE-LEVEL VARIABLES READ AS WHEN THE CALL BEGINS. Each datum BY PROGRAM (the guide's laid-datum.mjs) off the statement by which the dump's own 'gosem.cut.vars' lays the variable. In a bare row this is a premise. The card (YtmojdmgpfpbpeaaDoorCards.lean) ties it to the program's text. -/
def laid_loop_example_pub_timelayouts_pub_gotime_errLeadingInt {H : Type} : DataW H := .iface "*errors.errorString" (.ptr (.agg [.lit (.string [116, 105, 109, 101, 58, 32, 98, 97, 100, 32, 91, 48, 45, 57, 93, 42])]))
def laid_loop_example_pub_timelayouts_pub_gotime_errAtoi {H : Type} : DataW H := .iface "*errors.errorString" (.ptr (.agg [.lit (.string [116, 105, 109, 101, 58, 32, 105, 110, 118, 97, 108, 105, 100, 32, 110, 117, 109, 98, 101, 114])]))
def laid_loop_example_pub_timelayouts_pub_gotime_errBad {H : Type} : DataW H := .iface "*errors.errorString" (.ptr (.agg [.lit (.string [98, 97, 100, 32, 118, 97, 108, 117, 101, 32, 102, 111, 114, 32, 102, 105, 101, 108, 100])]))
def laid_loop_example_pub_timelayouts_pub_gotime_std0x {H : Type} : DataW H := .agg [.lit (.int .i64 260), .lit (.int .i64 265), .lit (.int .i64 1038), .lit (.int .i64 1040), .lit (.int .i64 1042), .lit (.int .i64 276)]

/-- 'laws.FnExactLeadingInt': WHATEVER THE INPUT: true; the input reads as it did. -/
def fnExactLeadingIntSpec : ChangeSpec := { name := "fnExactLeadingInt", vars := ["loop.example/pub-timelayouts/pub/gotime.errLeadingInt"], fn := fun _ => fun
  | [d1, d2, g1] => { results := [.lit (.bool true)], args := [d1, d2], vars := [g1] }
  | _ => none }
def fnExactLeadingIntRow : OpenClaim := { program := "ytmojdmgpfpbpeaadoor", sum := "01a2c77fe26861bddccfc3ed4a3fd492c3d938c8be324b1730e19636708eba27", func := "loop.example/pub-timelayouts/laws.FnExactLeadingInt", spec := "fnExactLeadingInt", named := ["loop.example/pub-timelayouts/pub/gotime.errLeadingInt"], ifaces := true, apart := false, laid := [("loop.example/pub-timelayouts/pub/gotime.errLeadingInt", laid_loop_example_pub_timelayouts_pub_gotime_errLeadingInt)] }
def FnExactLeadingIntSaid : Prop := fnExactLeadingIntRow.holds Tryd.pinned (OpenSpec.ofChange fnExactLeadingIntSpec)

/-- ITS FALSE NEIGHBOUR: 'it returns false'. Refute it at one input. -/
def fnExactLeadingIntWrong : ChangeSpec := { name := "fnExactLeadingInt", vars := ["loop.example/pub-timelayouts/pub/gotime.errLeadingInt"], fn := fun _ => fun
  | [d1, d2, g1] => { results := [.lit (.bool false)], args := [d1, d2], vars := [g1] }
  | _ => none }
def FnExactLeadingIntWrongFalsely : Prop := fnExactLeadingIntRow.holds Tryd.pinned (OpenSpec.ofChange fnExactLeadingIntWrong)

/-- 'laws.FnExactSignedOffset': WHATEVER THE INPUT: true; the input reads as it did. -/
def fnExactSignedOffsetSpec : ChangeSpec := { name := "fnExactSignedOffset", vars := ["loop.example/pub-timelayouts/pub/gotime.errLeadingInt"], fn := fun _ => fun
  | [d, g1] => { results := [.lit (.bool true)], args := [d], vars := [g1] }
  | _ => none }
def fnExactSignedOffsetRow : OpenClaim := { program := "ytmojdmgpfpbpeaadoor", sum := "01a2c77fe26861bddccfc3ed4a3fd492c3d938c8be324b1730e19636708eba27", func := "loop.example/pub-timelayouts/laws.FnExactSignedOffset", spec := "fnExactSignedOffset", named := ["loop.example/pub-timelayouts/pub/gotime.errLeadingInt"], ifaces := true, apart := false, laid := [("loop.example/pub-timelayouts/pub/gotime.errLeadingInt", laid_loop_example_pub_timelayouts_pub_gotime_errLeadingInt)] }
def FnExactSignedOffsetSaid : Prop := fnExactSignedOffsetRow.holds Tryd.pinned (OpenSpec.ofChange fnExactSignedOffsetSpec)

/-- ITS FALSE NEIGHBOUR: 'it returns false'. Refute it at one input. -/
def fnExactSignedOffsetWrong : ChangeSpec := { name := "fnExactSignedOffset", vars := ["loop.example/pub-timelayouts/pub/gotime.errLeadingInt"], fn := fun _ => fun
  | [d, g1] => { results := [.lit (.bool false)], args := [d], vars := [g1] }
  | _ => none }
def FnExactSignedOffsetWrongFalsely : Prop := fnExactSignedOffsetRow.holds Tryd.pinned (OpenSpec.ofChange fnExactSignedOffsetWrong)

/-- 'laws.FnExactNanoseconds': WHATEVER THE INPUT: true; the input reads as it did. -/
def fnExactNanosecondsSpec : ChangeSpec := { name := "fnExactNanoseconds", vars := ["loop.example/pub-timelayouts/pub/gotime.errBad", "loop.example/pub-timelayouts/pub/gotime.errAtoi", "loop.example/pub-timelayouts/pub/gotime.errLeadingInt"], fn := fun _ => fun
  | [d1, d2, d3, g1, g2, g3] => { results := [.lit (.bool true)], args := [d1, d2, d3], vars := [g1, g2, g3] }
  | _ => none }
def fnExactNanosecondsRow : OpenClaim := { program := "ytmojdmgpfpbpeaadoor", sum := "01a2c77fe26861bddccfc3ed4a3fd492c3d938c8be324b1730e19636708eba27", func := "loop.example/pub-timelayouts/laws.FnExactNanoseconds", spec := "fnExactNanoseconds", named := ["loop.example/pub-timelayouts/pub/gotime.errBad", "loop.example/pub-timelayouts/pub/gotime.errAtoi", "loop.example/pub-timelayouts/pub/gotime.errLeadingInt"], ifaces := true, apart := false, laid := [("loop.example/pub-timelayouts/pub/gotime.errAtoi", laid_loop_example_pub_timelayouts_pub_gotime_errAtoi), ("loop.example/pub-timelayouts/pub/gotime.errBad", laid_loop_example_pub_timelayouts_pub_gotime_errBad), ("loop.example/pub-timelayouts/pub/gotime.errLeadingInt", laid_loop_example_pub_timelayouts_pub_gotime_errLeadingInt)] }
def FnExactNanosecondsSaid : Prop := fnExactNanosecondsRow.holds Tryd.pinned (OpenSpec.ofChange fnExactNanosecondsSpec)

/-- ITS FALSE NEIGHBOUR: 'it returns false'. Refute it at one input. -/
def fnExactNanosecondsWrong : ChangeSpec := { name := "fnExactNanoseconds", vars := ["loop.example/pub-timelayouts/pub/gotime.errBad", "loop.example/pub-timelayouts/pub/gotime.errAtoi", "loop.example/pub-timelayouts/pub/gotime.errLeadingInt"], fn := fun _ => fun
  | [d1, d2, d3, g1, g2, g3] => { results := [.lit (.bool false)], args := [d1, d2, d3], vars := [g1, g2, g3] }
  | _ => none }
def FnExactNanosecondsWrongFalsely : Prop := fnExactNanosecondsRow.holds Tryd.pinned (OpenSpec.ofChange fnExactNanosecondsWrong)

/-- 'laws.FnTimeZoneThree': WHATEVER THE INPUT: true; the input reads as it did. -/
def fnTimeZoneThreeSpec : ChangeSpec := { name := "fnTimeZoneThree", vars := ["loop.example/pub-timelayouts/pub/gotime.errLeadingInt"], fn := fun _ => fun
  | [d1, d2, g1] => { results := [.lit (.bool true)], args := [d1, d2], vars := [g1] }
  | _ => none }
def fnTimeZoneThreeRow : OpenClaim := { program := "ytmojdmgpfpbpeaadoor", sum := "01a2c77fe26861bddccfc3ed4a3fd492c3d938c8be324b1730e19636708eba27", func := "loop.example/pub-timelayouts/laws.FnTimeZoneThree", spec := "fnTimeZoneThree", named := ["loop.example/pub-timelayouts/pub/gotime.errLeadingInt"], ifaces := true, apart := false, laid := [("loop.example/pub-timelayouts/pub/gotime.errLeadingInt", laid_loop_example_pub_timelayouts_pub_gotime_errLeadingInt)] }
def FnTimeZoneThreeSaid : Prop := fnTimeZoneThreeRow.holds Tryd.pinned (OpenSpec.ofChange fnTimeZoneThreeSpec)

/-- ITS FALSE NEIGHBOUR: 'it returns false'. Refute it at one input. -/
def fnTimeZoneThreeWrong : ChangeSpec := { name := "fnTimeZoneThree", vars := ["loop.example/pub-timelayouts/pub/gotime.errLeadingInt"], fn := fun _ => fun
  | [d1, d2, g1] => { results := [.lit (.bool false)], args := [d1, d2], vars := [g1] }
  | _ => none }
def FnTimeZoneThreeWrongFalsely : Prop := fnTimeZoneThreeRow.holds Tryd.pinned (OpenSpec.ofChange fnTimeZoneThreeWrong)

/-- 'laws.FnChunkJoin': WHATEVER THE INPUT: true; the input reads as it did. -/
def fnChunkJoinSpec : ChangeSpec := { name := "fnChunkJoin", vars := ["loop.example/pub-timelayouts/pub/gotime.std0x"], fn := fun _ => fun
  | [d, g1] => { results := [.lit (.bool true)], args := [d], vars := [g1] }
  | _ => none }
def fnChunkJoinRow : OpenClaim := { program := "ytmojdmgpfpbpeaadoor", sum := "01a2c77fe26861bddccfc3ed4a3fd492c3d938c8be324b1730e19636708eba27", func := "loop.example/pub-timelayouts/laws.FnChunkJoin", spec := "fnChunkJoin", named := ["loop.example/pub-timelayouts/pub/gotime.std0x"], apart := false, laid := [("loop.example/pub-timelayouts/pub/gotime.std0x", laid_loop_example_pub_timelayouts_pub_gotime_std0x)] }
def FnChunkJoinSaid : Prop := fnChunkJoinRow.holds Tryd.pinned (OpenSpec.ofChange fnChunkJoinSpec)

/-- ITS FALSE NEIGHBOUR: 'it returns false'. Refute it at one input. -/
def fnChunkJoinWrong : ChangeSpec := { name := "fnChunkJoin", vars := ["loop.example/pub-timelayouts/pub/gotime.std0x"], fn := fun _ => fun
  | [d, g1] => { results := [.lit (.bool false)], args := [d], vars := [g1] }
  | _ => none }
def FnChunkJoinWrongFalsely : Prop := fnChunkJoinRow.holds Tryd.pinned (OpenSpec.ofChange fnChunkJoinWrong)

/- THE SECOND FORM. 'bulk': how many values and letters a reading holds, each counted each time it is reached (what is shared counts as often as it is met; a slice's spare places count too). A statement '..UptoSaid' is the law's where the arguments, and the package variables that the reading takes, are together of bulk at most 1048576: NARROWER than '..Said'. Prove '..Said' where nothing that the law and all that it calls make is longer than what came in: it says more and counts as full. Else prove '..UptoSaid'. A law counts once. -/
mutual
def uptoBulk {H : Type} : DataW H → Nat
  | .lit (.string bytes) => bytes.length + 1
  | .lit _ => 1
  | .nil => 1
  | .ptr d => uptoBulk d + 1
  | .slice elems spare => uptoBulkAll elems + uptoBulkAll spare + 1
  | .agg parts => uptoBulkAll parts + 1
  | .iface _ d => uptoBulk d + 1
  | .map entries => uptoBulkEntries entries + 1
  | .held _ => 1
def uptoBulkAll {H : Type} : List (DataW H) → Nat
  | [] => 0
  | d :: r => uptoBulk d + uptoBulkAll r
def uptoBulkEntries {H : Type} : List (Lit × DataW H) → Nat
  | [] => 0
  | x :: r => uptoBulkEntry x + uptoBulkEntries r
def uptoBulkEntry {H : Type} : Lit × DataW H → Nat
  | (.string bytes, d) => bytes.length + uptoBulk d + 1
  | (_, d) => uptoBulk d + 1
 end
def uptoSmall : (H : Type) → List (DataW H) → Bool := fun _ ds => decide (uptoBulkAll ds ≤ 1048576)
def OpenSpec.upto (s : _root_.Go.ChangeSpec) : _root_.Go.OpenSpec := { _root_.Go.OpenSpec.ofChange s with cond := some uptoSmall }

/-- 'laws.FnExactLeadingInt', WHERE WHAT IT READS IS OF BULK AT MOST 1048576: true; the input reads as it did. -/
def fnExactLeadingIntUptoRow : OpenClaim := { program := "ytmojdmgpfpbpeaadoor", sum := "01a2c77fe26861bddccfc3ed4a3fd492c3d938c8be324b1730e19636708eba27", func := "loop.example/pub-timelayouts/laws.FnExactLeadingInt", spec := "fnExactLeadingInt", named := ["loop.example/pub-timelayouts/pub/gotime.errLeadingInt"], ifaces := true, apart := false, laid := [("loop.example/pub-timelayouts/pub/gotime.errLeadingInt", laid_loop_example_pub_timelayouts_pub_gotime_errLeadingInt)], narrowed := true }
def FnExactLeadingIntUptoSaid : Prop := fnExactLeadingIntUptoRow.holds Tryd.pinned (OpenSpec.upto fnExactLeadingIntSpec)

/-- 'laws.FnExactSignedOffset', WHERE WHAT IT READS IS OF BULK AT MOST 1048576: true; the input reads as it did. -/
def fnExactSignedOffsetUptoRow : OpenClaim := { program := "ytmojdmgpfpbpeaadoor", sum := "01a2c77fe26861bddccfc3ed4a3fd492c3d938c8be324b1730e19636708eba27", func := "loop.example/pub-timelayouts/laws.FnExactSignedOffset", spec := "fnExactSignedOffset", named := ["loop.example/pub-timelayouts/pub/gotime.errLeadingInt"], ifaces := true, apart := false, laid := [("loop.example/pub-timelayouts/pub/gotime.errLeadingInt", laid_loop_example_pub_timelayouts_pub_gotime_errLeadingInt)], narrowed := true }
def FnExactSignedOffsetUptoSaid : Prop := fnExactSignedOffsetUptoRow.holds Tryd.pinned (OpenSpec.upto fnExactSignedOffsetSpec)

/-- 'laws.FnExactNanoseconds', WHERE WHAT IT READS IS OF BULK AT MOST 1048576: true; the input reads as it did. -/
def fnExactNanosecondsUptoRow : OpenClaim := { program := "ytmojdmgpfpbpeaadoor", sum := "01a2c77fe26861bddccfc3ed4a3fd492c3d938c8be324b1730e19636708eba27", func := "loop.example/pub-timelayouts/laws.FnExactNanoseconds", spec := "fnExactNanoseconds", named := ["loop.example/pub-timelayouts/pub/gotime.errBad", "loop.example/pub-timelayouts/pub/gotime.errAtoi", "loop.example/pub-timelayouts/pub/gotime.errLeadingInt"], ifaces := true, apart := false, laid := [("loop.example/pub-timelayouts/pub/gotime.errAtoi", laid_loop_example_pub_timelayouts_pub_gotime_errAtoi), ("loop.example/pub-timelayouts/pub/gotime.errBad", laid_loop_example_pub_timelayouts_pub_gotime_errBad), ("loop.example/pub-timelayouts/pub/gotime.errLeadingInt", laid_loop_example_pub_timelayouts_pub_gotime_errLeadingInt)], narrowed := true }
def FnExactNanosecondsUptoSaid : Prop := fnExactNanosecondsUptoRow.holds Tryd.pinned (OpenSpec.upto fnExactNanosecondsSpec)

/-- 'laws.FnTimeZoneThree', WHERE WHAT IT READS IS OF BULK AT MOST 1048576: true; the input reads as it did. -/
def fnTimeZoneThreeUptoRow : OpenClaim := { program := "ytmojdmgpfpbpeaadoor", sum := "01a2c77fe26861bddccfc3ed4a3fd492c3d938c8be324b1730e19636708eba27", func := "loop.example/pub-timelayouts/laws.FnTimeZoneThree", spec := "fnTimeZoneThree", named := ["loop.example/pub-timelayouts/pub/gotime.errLeadingInt"], ifaces := true, apart := false, laid := [("loop.example/pub-timelayouts/pub/gotime.errLeadingInt", laid_loop_example_pub_timelayouts_pub_gotime_errLeadingInt)], narrowed := true }
def FnTimeZoneThreeUptoSaid : Prop := fnTimeZoneThreeUptoRow.holds Tryd.pinned (OpenSpec.upto fnTimeZoneThreeSpec)

/-- 'laws.FnChunkJoin', WHERE WHAT IT READS IS OF BULK AT MOST 1048576: true; the input reads as it did. -/
def fnChunkJoinUptoRow : OpenClaim := { program := "ytmojdmgpfpbpeaadoor", sum := "01a2c77fe26861bddccfc3ed4a3fd492c3d938c8be324b1730e19636708eba27", func := "loop.example/pub-timelayouts/laws.FnChunkJoin", spec := "fnChunkJoin", named := ["loop.example/pub-timelayouts/pub/gotime.std0x"], apart := false, laid := [("loop.example/pub-timelayouts/pub/gotime.std0x", laid_loop_example_pub_timelayouts_pub_gotime_std0x)], narrowed := true }
def FnChunkJoinUptoSaid : Prop := fnChunkJoinUptoRow.holds Tryd.pinned (OpenSpec.upto fnChunkJoinSpec)

end Rows
end Go.Proofs.YtmojdmgpfpbpeaaDoor
