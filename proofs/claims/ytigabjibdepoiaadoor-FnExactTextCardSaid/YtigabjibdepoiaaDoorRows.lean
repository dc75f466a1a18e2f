/-
  NARROWER THAN 'FOR EVERY INPUT', by the rows' own cells (each row's printed sentence says how): FnChunkPlain: laid · FnStrictForm: ifaces, laid · FnExactFormat: laid · FnFormatFraction: laid · FnFormatOffset: laid · FnFormatOrder: laid · FnFormatPlain: laid · FnFormatRFC3339: laid · FnFormatRFC3339Nano: laid · FnFormatYearDay: laid · FnAppendAny: laid · FnRoadsRFC3339: laid · FnExactText: laid.
  DERIVED. THE GIVEN ROWS OF THIS SEAT. 13 by the template 'for every input the law returns true; each argument reads behind the call as it read before'; 0 by the template 'total and deterministic' (their statements: YtigabjibdepoiaaDoorTotals.lean).
  GIVEN WITH THE SEED: the statements are not yours to turn. If you find one false, say at which input.
  Laid BY PROGRAM, IN A SANDBOX (cutbox-rows.mjs): the forced cells as the released guide's own fill.sh prints them over the translation e01fc3d36d296b94… (all of the seat's roots in one cut). By AI agents, Wed Nov 11 2026. No macro, syntax, notation, axiom, sorry.
-/
import Derived.Test.YtigabjibdepoiaaDoorChecked
import GoSem.Claim
import GoSem.ClaimJoined
import GoSem.ClaimMapViews
import Derived.JoinedTies
import Derived.KernelRfl
namespace Go.Proofs.YtigabjibdepoiaaDoor
/- THE CELL 'sum', in the pinned program and in every row, IS THE sha256 OF THE DUMP (.gsa) THAT YtigabjibdepoiaaDoorProg.lean LOADS. Nothing in Lean hashes anything: it is a label: what it is worth is what the hold of that sum in a sandbox is worth. -/
noncomputable def Tryd.pinned : Pinned := { name := "ytigabjibdepoiaadoor", sum := "e01fc3d36d296b943841f3885effe4a0046905462331d0df8bb60dfcf5b8e030", checked := Tryd.checked }
namespace Rows
def none {H : Type} : Left H := { results := [], args := [] }

/- WHAT THE LISTED PACKAGE-LEVEL VARIABLES READ AS WHEN THE CALL BEGINS. Each datum BY PROGRAM (the guide's laid-datum.mjs) off the statement by which the dump's own 'gosem.cut.vars' lays the variable. In a bare row this is a premise. The card (YtigabjibdepoiaaDoorCards.lean) ties it to the program's text. -/
def laid_loop_example_pub_timelayouts_pub_gotime_std0x {H : Type} : DataW H := .agg [.lit (.int .i64 260), .lit (.int .i64 265), .lit (.int .i64 1038), .lit (.int .i64 1040), .lit (.int .i64 1042), .lit (.int .i64 276)]
def laid_loop_example_pub_timelayouts_pub_gotime_errAtoi {H : Type} : DataW H := .iface "*errors.errorString" (.ptr (.agg [.lit (.string [116, 105, 109, 101, 58, 32, 105, 110, 118, 97, 108, 105, 100, 32, 110, 117, 109, 98, 101, 114])]))
def laid_loop_example_pub_timelayouts_pub_gotime_errBad {H : Type} : DataW H := .iface "*errors.errorString" (.ptr (.agg [.lit (.string [98, 97, 100, 32, 118, 97, 108, 117, 101, 32, 102, 111, 114, 32, 102, 105, 101, 108, 100])]))
def laid_loop_example_pub_timelayouts_pub_gotime_errLeadingInt {H : Type} : DataW H := .iface "*errors.errorString" (.ptr (.agg [.lit (.string [116, 105, 109, 101, 58, 32, 98, 97, 100, 32, 91, 48, 45, 57, 93, 42])]))

/-- 'laws.FnChunkPlain': WHATEVER THE INPUT: true; the input reads as it did. -/
def fnChunkPlainSpec : ChangeSpec := { name := "fnChunkPlain", vars := ["loop.example/pub-timelayouts/pub/gotime.std0x"], fn := fun _ => fun
  | [d, g1] => { results := [.lit (.bool true)], args := [d], vars := [g1] }
  | _ => none }
def fnChunkPlainRow : OpenClaim := { program := "ytigabjibdepoiaadoor", sum := "e01fc3d36d296b943841f3885effe4a0046905462331d0df8bb60dfcf5b8e030", func := "loop.example/pub-timelayouts/laws.FnChunkPlain", spec := "fnChunkPlain", named := ["loop.example/pub-timelayouts/pub/gotime.std0x"], apart := false, laid := [("loop.example/pub-timelayouts/pub/gotime.std0x", laid_loop_example_pub_timelayouts_pub_gotime_std0x)] }
def FnChunkPlainSaid : Prop := fnChunkPlainRow.holds Tryd.pinned (OpenSpec.ofChange fnChunkPlainSpec)

/-- ITS FALSE NEIGHBOUR: 'it returns false'. Refute it at one input. -/
def fnChunkPlainWrong : ChangeSpec := { name := "fnChunkPlain", vars := ["loop.example/pub-timelayouts/pub/gotime.std0x"], fn := fun _ => fun
  | [d, g1] => { results := [.lit (.bool false)], args := [d], vars := [g1] }
  | _ => none }
def FnChunkPlainWrongFalsely : Prop := fnChunkPlainRow.holds Tryd.pinned (OpenSpec.ofChange fnChunkPlainWrong)

/-- 'laws.FnStrictForm': WHATEVER THE INPUT: true; the input reads as it did. -/
def fnStrictFormSpec : ChangeSpec := { name := "fnStrictForm", vars := ["loop.example/pub-timelayouts/pub/gotime.errBad", "loop.example/pub-timelayouts/pub/gotime.errAtoi", "loop.example/pub-timelayouts/pub/gotime.errLeadingInt"], fn := fun _ => fun
  | [d, g1, g2, g3] => { results := [.lit (.bool true)], args := [d], vars := [g1, g2, g3] }
  | _ => none }
def fnStrictFormRow : OpenClaim := { program := "ytigabjibdepoiaadoor", sum := "e01fc3d36d296b943841f3885effe4a0046905462331d0df8bb60dfcf5b8e030", func := "loop.example/pub-timelayouts/laws.FnStrictForm", spec := "fnStrictForm", unfollowed := true, recurses := true, named := ["loop.example/pub-timelayouts/pub/gotime.errBad", "loop.example/pub-timelayouts/pub/gotime.errAtoi", "loop.example/pub-timelayouts/pub/gotime.errLeadingInt"], ifaces := true, apart := false, laid := [("loop.example/pub-timelayouts/pub/gotime.errAtoi", laid_loop_example_pub_timelayouts_pub_gotime_errAtoi), ("loop.example/pub-timelayouts/pub/gotime.errBad", laid_loop_example_pub_timelayouts_pub_gotime_errBad), ("loop.example/pub-timelayouts/pub/gotime.errLeadingInt", laid_loop_example_pub_timelayouts_pub_gotime_errLeadingInt)] }
def FnStrictFormSaid : Prop := fnStrictFormRow.holds Tryd.pinned (OpenSpec.ofChange fnStrictFormSpec)

/-- ITS FALSE NEIGHBOUR: 'it returns false'. Refute it at one input. -/
def fnStrictFormWrong : ChangeSpec := { name := "fnStrictForm", vars := ["loop.example/pub-timelayouts/pub/gotime.errBad", "loop.example/pub-timelayouts/pub/gotime.errAtoi", "loop.example/pub-timelayouts/pub/gotime.errLeadingInt"], fn := fun _ => fun
  | [d, g1, g2, g3] => { results := [.lit (.bool false)], args := [d], vars := [g1, g2, g3] }
  | _ => none }
def FnStrictFormWrongFalsely : Prop := fnStrictFormRow.holds Tryd.pinned (OpenSpec.ofChange fnStrictFormWrong)

/-- 'laws.FnExactFormat': WHATEVER THE INPUT: true; the input reads as it did. -/
def fnExactFormatSpec : ChangeSpec := { name := "fnExactFormat", vars := ["loop.example/pub-timelayouts/pub/gotime.std0x"], fn := fun _ => fun
  | [d1, d2, g1] => { results := [.lit (.bool true)], args := [d1, d2], vars := [g1] }
  | _ => none }
def fnExactFormatRow : OpenClaim := { program := "ytigabjibdepoiaadoor", sum := "e01fc3d36d296b943841f3885effe4a0046905462331d0df8bb60dfcf5b8e030", func := "loop.example/pub-timelayouts/laws.FnExactFormat", spec := "fnExactFormat", unfollowed := true, recurses := true, named := ["loop.example/pub-timelayouts/pub/gotime.std0x"], apart := false, laid := [("loop.example/pub-timelayouts/pub/gotime.std0x", laid_loop_example_pub_timelayouts_pub_gotime_std0x)] }
def FnExactFormatSaid : Prop := fnExactFormatRow.holds Tryd.pinned (OpenSpec.ofChange fnExactFormatSpec)

/-- ITS FALSE NEIGHBOUR: 'it returns false'. Refute it at one input. -/
def fnExactFormatWrong : ChangeSpec := { name := "fnExactFormat", vars := ["loop.example/pub-timelayouts/pub/gotime.std0x"], fn := fun _ => fun
  | [d1, d2, g1] => { results := [.lit (.bool false)], args := [d1, d2], vars := [g1] }
  | _ => none }
def FnExactFormatWrongFalsely : Prop := fnExactFormatRow.holds Tryd.pinned (OpenSpec.ofChange fnExactFormatWrong)

/-- 'laws.FnFormatFraction': WHATEVER THE INPUT: true; the input reads as it did. -/
def fnFormatFractionSpec : ChangeSpec := { name := "fnFormatFraction", vars := ["loop.example/pub-timelayouts/pub/gotime.std0x"], fn := fun _ => fun
  | [d1, d2, d3, g1] => { results := [.lit (.bool true)], args := [d1, d2, d3], vars := [g1] }
  | _ => none }
def fnFormatFractionRow : OpenClaim := { program := "ytigabjibdepoiaadoor", sum := "e01fc3d36d296b943841f3885effe4a0046905462331d0df8bb60dfcf5b8e030", func := "loop.example/pub-timelayouts/laws.FnFormatFraction", spec := "fnFormatFraction", unfollowed := true, recurses := true, named := ["loop.example/pub-timelayouts/pub/gotime.std0x"], apart := false, laid := [("loop.example/pub-timelayouts/pub/gotime.std0x", laid_loop_example_pub_timelayouts_pub_gotime_std0x)] }
def FnFormatFractionSaid : Prop := fnFormatFractionRow.holds Tryd.pinned (OpenSpec.ofChange fnFormatFractionSpec)

/-- ITS FALSE NEIGHBOUR: 'it returns false'. Refute it at one input. -/
def fnFormatFractionWrong : ChangeSpec := { name := "fnFormatFraction", vars := ["loop.example/pub-timelayouts/pub/gotime.std0x"], fn := fun _ => fun
  | [d1, d2, d3, g1] => { results := [.lit (.bool false)], args := [d1, d2, d3], vars := [g1] }
  | _ => none }
def FnFormatFractionWrongFalsely : Prop := fnFormatFractionRow.holds Tryd.pinned (OpenSpec.ofChange fnFormatFractionWrong)

/-- 'laws.FnFormatOffset': WHATEVER THE INPUT: true; the input reads as it did. -/
def fnFormatOffsetSpec : ChangeSpec := { name := "fnFormatOffset", vars := ["loop.example/pub-timelayouts/pub/gotime.std0x"], fn := fun _ => fun
  | [d, g1] => { results := [.lit (.bool true)], args := [d], vars := [g1] }
  | _ => none }
def fnFormatOffsetRow : OpenClaim := { program := "ytigabjibdepoiaadoor", sum := "e01fc3d36d296b943841f3885effe4a0046905462331d0df8bb60dfcf5b8e030", func := "loop.example/pub-timelayouts/laws.FnFormatOffset", spec := "fnFormatOffset", unfollowed := true, recurses := true, named := ["loop.example/pub-timelayouts/pub/gotime.std0x"], apart := false, laid := [("loop.example/pub-timelayouts/pub/gotime.std0x", laid_loop_example_pub_timelayouts_pub_gotime_std0x)] }
def FnFormatOffsetSaid : Prop := fnFormatOffsetRow.holds Tryd.pinned (OpenSpec.ofChange fnFormatOffsetSpec)

/-- ITS FALSE NEIGHBOUR: 'it returns false'. Refute it at one input. -/
def fnFormatOffsetWrong : ChangeSpec := { name := "fnFormatOffset", vars := ["loop.example/pub-timelayouts/pub/gotime.std0x"], fn := fun _ => fun
  | [d, g1] => { results := [.lit (.bool false)], args := [d], vars := [g1] }
  | _ => none }
def FnFormatOffsetWrongFalsely : Prop := fnFormatOffsetRow.holds Tryd.pinned (OpenSpec.ofChange fnFormatOffsetWrong)

/-- 'laws.FnFormatOrder': WHATEVER THE INPUT: true; the input reads as it did. -/
def fnFormatOrderSpec : ChangeSpec := { name := "fnFormatOrder", vars := ["loop.example/pub-timelayouts/pub/gotime.std0x"], fn := fun _ => fun
  | [d1, d2, g1] => { results := [.lit (.bool true)], args := [d1, d2], vars := [g1] }
  | _ => none }
def fnFormatOrderRow : OpenClaim := { program := "ytigabjibdepoiaadoor", sum := "e01fc3d36d296b943841f3885effe4a0046905462331d0df8bb60dfcf5b8e030", func := "loop.example/pub-timelayouts/laws.FnFormatOrder", spec := "fnFormatOrder", unfollowed := true, recurses := true, named := ["loop.example/pub-timelayouts/pub/gotime.std0x"], apart := false, laid := [("loop.example/pub-timelayouts/pub/gotime.std0x", laid_loop_example_pub_timelayouts_pub_gotime_std0x)] }
def FnFormatOrderSaid : Prop := fnFormatOrderRow.holds Tryd.pinned (OpenSpec.ofChange fnFormatOrderSpec)

/-- ITS FALSE NEIGHBOUR: 'it returns false'. Refute it at one input. -/
def fnFormatOrderWrong : ChangeSpec := { name := "fnFormatOrder", vars := ["loop.example/pub-timelayouts/pub/gotime.std0x"], fn := fun _ => fun
  | [d1, d2, g1] => { results := [.lit (.bool false)], args := [d1, d2], vars := [g1] }
  | _ => none }
def FnFormatOrderWrongFalsely : Prop := fnFormatOrderRow.holds Tryd.pinned (OpenSpec.ofChange fnFormatOrderWrong)

/-- 'laws.FnFormatPlain': WHATEVER THE INPUT: true; the input reads as it did. -/
def fnFormatPlainSpec : ChangeSpec := { name := "fnFormatPlain", vars := ["loop.example/pub-timelayouts/pub/gotime.std0x"], fn := fun _ => fun
  | [d1, d2, g1] => { results := [.lit (.bool true)], args := [d1, d2], vars := [g1] }
  | _ => none }
def fnFormatPlainRow : OpenClaim := { program := "ytigabjibdepoiaadoor", sum := "e01fc3d36d296b943841f3885effe4a0046905462331d0df8bb60dfcf5b8e030", func := "loop.example/pub-timelayouts/laws.FnFormatPlain", spec := "fnFormatPlain", unfollowed := true, recurses := true, named := ["loop.example/pub-timelayouts/pub/gotime.std0x"], apart := false, laid := [("loop.example/pub-timelayouts/pub/gotime.std0x", laid_loop_example_pub_timelayouts_pub_gotime_std0x)] }
def FnFormatPlainSaid : Prop := fnFormatPlainRow.holds Tryd.pinned (OpenSpec.ofChange fnFormatPlainSpec)

/-- ITS FALSE NEIGHBOUR: 'it returns false'. Refute it at one input. -/
def fnFormatPlainWrong : ChangeSpec := { name := "fnFormatPlain", vars := ["loop.example/pub-timelayouts/pub/gotime.std0x"], fn := fun _ => fun
  | [d1, d2, g1] => { results := [.lit (.bool false)], args := [d1, d2], vars := [g1] }
  | _ => none }
def FnFormatPlainWrongFalsely : Prop := fnFormatPlainRow.holds Tryd.pinned (OpenSpec.ofChange fnFormatPlainWrong)

/-- 'laws.FnFormatRFC3339': WHATEVER THE INPUT: true; the input reads as it did. -/
def fnFormatRFC3339Spec : ChangeSpec := { name := "fnFormatRFC3339", vars := ["loop.example/pub-timelayouts/pub/gotime.std0x"], fn := fun _ => fun
  | [d, g1] => { results := [.lit (.bool true)], args := [d], vars := [g1] }
  | _ => none }
def fnFormatRFC3339Row : OpenClaim := { program := "ytigabjibdepoiaadoor", sum := "e01fc3d36d296b943841f3885effe4a0046905462331d0df8bb60dfcf5b8e030", func := "loop.example/pub-timelayouts/laws.FnFormatRFC3339", spec := "fnFormatRFC3339", unfollowed := true, recurses := true, named := ["loop.example/pub-timelayouts/pub/gotime.std0x"], apart := false, laid := [("loop.example/pub-timelayouts/pub/gotime.std0x", laid_loop_example_pub_timelayouts_pub_gotime_std0x)] }
def FnFormatRFC3339Said : Prop := fnFormatRFC3339Row.holds Tryd.pinned (OpenSpec.ofChange fnFormatRFC3339Spec)

/-- ITS FALSE NEIGHBOUR: 'it returns false'. Refute it at one input. -/
def fnFormatRFC3339Wrong : ChangeSpec := { name := "fnFormatRFC3339", vars := ["loop.example/pub-timelayouts/pub/gotime.std0x"], fn := fun _ => fun
  | [d, g1] => { results := [.lit (.bool false)], args := [d], vars := [g1] }
  | _ => none }
def FnFormatRFC3339WrongFalsely : Prop := fnFormatRFC3339Row.holds Tryd.pinned (OpenSpec.ofChange fnFormatRFC3339Wrong)

/-- 'laws.FnFormatRFC3339Nano': WHATEVER THE INPUT: true; the input reads as it did. -/
def fnFormatRFC3339NanoSpec : ChangeSpec := { name := "fnFormatRFC3339Nano", vars := ["loop.example/pub-timelayouts/pub/gotime.std0x"], fn := fun _ => fun
  | [d, g1] => { results := [.lit (.bool true)], args := [d], vars := [g1] }
  | _ => none }
def fnFormatRFC3339NanoRow : OpenClaim := { program := "ytigabjibdepoiaadoor", sum := "e01fc3d36d296b943841f3885effe4a0046905462331d0df8bb60dfcf5b8e030", func := "loop.example/pub-timelayouts/laws.FnFormatRFC3339Nano", spec := "fnFormatRFC3339Nano", unfollowed := true, recurses := true, named := ["loop.example/pub-timelayouts/pub/gotime.std0x"], apart := false, laid := [("loop.example/pub-timelayouts/pub/gotime.std0x", laid_loop_example_pub_timelayouts_pub_gotime_std0x)] }
def FnFormatRFC3339NanoSaid : Prop := fnFormatRFC3339NanoRow.holds Tryd.pinned (OpenSpec.ofChange fnFormatRFC3339NanoSpec)

/-- ITS FALSE NEIGHBOUR: 'it returns false'. Refute it at one input. -/
def fnFormatRFC3339NanoWrong : ChangeSpec := { name := "fnFormatRFC3339Nano", vars := ["loop.example/pub-timelayouts/pub/gotime.std0x"], fn := fun _ => fun
  | [d, g1] => { results := [.lit (.bool false)], args := [d], vars := [g1] }
  | _ => none }
def FnFormatRFC3339NanoWrongFalsely : Prop := fnFormatRFC3339NanoRow.holds Tryd.pinned (OpenSpec.ofChange fnFormatRFC3339NanoWrong)

/-- 'laws.FnFormatYearDay': WHATEVER THE INPUT: true; the input reads as it did. -/
def fnFormatYearDaySpec : ChangeSpec := { name := "fnFormatYearDay", vars := ["loop.example/pub-timelayouts/pub/gotime.std0x"], fn := fun _ => fun
  | [d, g1] => { results := [.lit (.bool true)], args := [d], vars := [g1] }
  | _ => none }
def fnFormatYearDayRow : OpenClaim := { program := "ytigabjibdepoiaadoor", sum := "e01fc3d36d296b943841f3885effe4a0046905462331d0df8bb60dfcf5b8e030", func := "loop.example/pub-timelayouts/laws.FnFormatYearDay", spec := "fnFormatYearDay", unfollowed := true, recurses := true, named := ["loop.example/pub-timelayouts/pub/gotime.std0x"], apart := false, laid := [("loop.example/pub-timelayouts/pub/gotime.std0x", laid_loop_example_pub_timelayouts_pub_gotime_std0x)] }
def FnFormatYearDaySaid : Prop := fnFormatYearDayRow.holds Tryd.pinned (OpenSpec.ofChange fnFormatYearDaySpec)

/-- ITS FALSE NEIGHBOUR: 'it returns false'. Refute it at one input. -/
def fnFormatYearDayWrong : ChangeSpec := { name := "fnFormatYearDay", vars := ["loop.example/pub-timelayouts/pub/gotime.std0x"], fn := fun _ => fun
  | [d, g1] => { results := [.lit (.bool false)], args := [d], vars := [g1] }
  | _ => none }
def FnFormatYearDayWrongFalsely : Prop := fnFormatYearDayRow.holds Tryd.pinned (OpenSpec.ofChange fnFormatYearDayWrong)

/-- 'laws.FnAppendAny': WHATEVER THE INPUT: true; the input reads as it did. -/
def fnAppendAnySpec : ChangeSpec := { name := "fnAppendAny", vars := ["loop.example/pub-timelayouts/pub/gotime.std0x"], fn := fun _ => fun
  | [d1, d2, d3, g1] => { results := [.lit (.bool true)], args := [d1, d2, d3], vars := [g1] }
  | _ => none }
def fnAppendAnyRow : OpenClaim := { program := "ytigabjibdepoiaadoor", sum := "e01fc3d36d296b943841f3885effe4a0046905462331d0df8bb60dfcf5b8e030", func := "loop.example/pub-timelayouts/laws.FnAppendAny", spec := "fnAppendAny", unfollowed := true, recurses := true, named := ["loop.example/pub-timelayouts/pub/gotime.std0x"], apart := false, laid := [("loop.example/pub-timelayouts/pub/gotime.std0x", laid_loop_example_pub_timelayouts_pub_gotime_std0x)] }
def FnAppendAnySaid : Prop := fnAppendAnyRow.holds Tryd.pinned (OpenSpec.ofChange fnAppendAnySpec)

/-- ITS FALSE NEIGHBOUR: 'it returns false'. Refute it at one input. -/
def fnAppendAnyWrong : ChangeSpec := { name := "fnAppendAny", vars := ["loop.example/pub-timelayouts/pub/gotime.std0x"], fn := fun _ => fun
  | [d1, d2, d3, g1] => { results := [.lit (.bool false)], args := [d1, d2, d3], vars := [g1] }
  | _ => none }
def FnAppendAnyWrongFalsely : Prop := fnAppendAnyRow.holds Tryd.pinned (OpenSpec.ofChange fnAppendAnyWrong)

/-- 'laws.FnRoadsRFC3339': WHATEVER THE INPUT: true; the input reads as it did. -/
def fnRoadsRFC3339Spec : ChangeSpec := { name := "fnRoadsRFC3339", vars := ["loop.example/pub-timelayouts/pub/gotime.std0x"], fn := fun _ => fun
  | [d1, d2, g1] => { results := [.lit (.bool true)], args := [d1, d2], vars := [g1] }
  | _ => none }
def fnRoadsRFC3339Row : OpenClaim := { program := "ytigabjibdepoiaadoor", sum := "e01fc3d36d296b943841f3885effe4a0046905462331d0df8bb60dfcf5b8e030", func := "loop.example/pub-timelayouts/laws.FnRoadsRFC3339", spec := "fnRoadsRFC3339", unfollowed := true, recurses := true, named := ["loop.example/pub-timelayouts/pub/gotime.std0x"], apart := false, laid := [("loop.example/pub-timelayouts/pub/gotime.std0x", laid_loop_example_pub_timelayouts_pub_gotime_std0x)] }
def FnRoadsRFC3339Said : Prop := fnRoadsRFC3339Row.holds Tryd.pinned (OpenSpec.ofChange fnRoadsRFC3339Spec)

/-- ITS FALSE NEIGHBOUR: 'it returns false'. Refute it at one input. -/
def fnRoadsRFC3339Wrong : ChangeSpec := { name := "fnRoadsRFC3339", vars := ["loop.example/pub-timelayouts/pub/gotime.std0x"], fn := fun _ => fun
  | [d1, d2, g1] => { results := [.lit (.bool false)], args := [d1, d2], vars := [g1] }
  | _ => none }
def FnRoadsRFC3339WrongFalsely : Prop := fnRoadsRFC3339Row.holds Tryd.pinned (OpenSpec.ofChange fnRoadsRFC3339Wrong)

/-- 'laws.FnExactText': WHATEVER THE INPUT: true; the input reads as it did. -/
def fnExactTextSpec : ChangeSpec := { name := "fnExactText", vars := ["loop.example/pub-timelayouts/pub/gotime.std0x"], fn := fun _ => fun
  | [d, g1] => { results := [.lit (.bool true)], args := [d], vars := [g1] }
  | _ => none }
def fnExactTextRow : OpenClaim := { program := "ytigabjibdepoiaadoor", sum := "e01fc3d36d296b943841f3885effe4a0046905462331d0df8bb60dfcf5b8e030", func := "loop.example/pub-timelayouts/laws.FnExactText", spec := "fnExactText", unfollowed := true, recurses := true, named := ["loop.example/pub-timelayouts/pub/gotime.std0x"], apart := false, laid := [("loop.example/pub-timelayouts/pub/gotime.std0x", laid_loop_example_pub_timelayouts_pub_gotime_std0x)] }
def FnExactTextSaid : Prop := fnExactTextRow.holds Tryd.pinned (OpenSpec.ofChange fnExactTextSpec)

/-- ITS FALSE NEIGHBOUR: 'it returns false'. Refute it at one input. -/
def fnExactTextWrong : ChangeSpec := { name := "fnExactText", vars := ["loop.example/pub-timelayouts/pub/gotime.std0x"], fn := fun _ => fun
  | [d, g1] => { results := [.lit (.bool false)], args := [d], vars := [g1] }
  | _ => none }
def FnExactTextWrongFalsely : Prop := fnExactTextRow.holds Tryd.pinned (OpenSpec.ofChange fnExactTextWrong)

/- THE SECOND FORM. 'bulk': how many values and letters a reading holds, each counted each time it is reached (what is shared counts as often as it is met; a slice's spare places count too). A statement '..UptoSaid' is the law's where the arguments, and the package variables that the reading takes, are together of bulk at most 1048576: NARROWER than '..Said'. Prove '..Said' where nothing that the law and all that it calls make is longer than what came in: it says more and counts as full. Else prove '..UptoSaid'. A law counts once. -/
mutual
def uptoBulk {H : Type} : DataW H → Nat
  | .lit (.string bytes) => bytes.length + 1
  | .lit _ => 1
  | .nil => 1
  | .ptr d => uptoBulk d + 1
  | .slice elems spare => uptoBulkAll elems + uptoBulkAll spare + 1
  | .agg parts => uptoBulkAll parts + 1
  | .iface _ d => uptoBulk d + 1
  | .map entries => uptoBulkEntries entries + 1
  | .held _ => 1
def uptoBulkAll {H : Type} : List (DataW H) → Nat
  | [] => 0
  | d :: r => uptoBulk d + uptoBulkAll r
def uptoBulkEntries {H : Type} : List (Lit × DataW H) → Nat
  | [] => 0
  | x :: r => uptoBulkEntry x + uptoBulkEntries r
def uptoBulkEntry {H : Type} : Lit × DataW H → Nat
  | (.string bytes, d) => bytes.length + uptoBulk d + 1
  | (_, d) => uptoBulk d + 1
 end
def uptoSmall : (H : Type) → List (DataW H) → Bool := fun _ ds => decide (uptoBulkAll ds ≤ 1048576)
def OpenSpec.upto (s : _root_.Go.ChangeSpec) : _root_.Go.OpenSpec := { _root_.Go.OpenSpec.ofChange s with cond := some uptoSmall }

/-- 'laws.FnChunkPlain', WHERE WHAT IT READS IS OF BULK AT MOST 1048576: true; the input reads as it did. -/
def fnChunkPlainUptoRow : OpenClaim := { program := "ytigabjibdepoiaadoor", sum := "e01fc3d36d296b943841f3885effe4a0046905462331d0df8bb60dfcf5b8e030", func := "loop.example/pub-timelayouts/laws.FnChunkPlain", spec := "fnChunkPlain", named := ["loop.example/pub-timelayouts/pub/gotime.std0x"], apart := false, laid := [("loop.example/pub-timelayouts/pub/gotime.std0x", laid_loop_example_pub_timelayouts_pub_gotime_std0x)], narrowed := true }
def FnChunkPlainUptoSaid : Prop := fnChunkPlainUptoRow.holds Tryd.pinned (OpenSpec.upto fnChunkPlainSpec)

/-- 'laws.FnStrictForm', WHERE WHAT IT READS IS OF BULK AT MOST 1048576: true; the input reads as it did. -/
def fnStrictFormUptoRow : OpenClaim := { program := "ytigabjibdepoiaadoor", sum := "e01fc3d36d296b943841f3885effe4a0046905462331d0df8bb60dfcf5b8e030", func := "loop.example/pub-timelayouts/laws.FnStrictForm", spec := "fnStrictForm", unfollowed := true, recurses := true, named := ["loop.example/pub-timelayouts/pub/gotime.errBad", "loop.example/pub-timelayouts/pub/gotime.errAtoi", "loop.example/pub-timelayouts/pub/gotime.errLeadingInt"], ifaces := true, apart := false, laid := [("loop.example/pub-timelayouts/pub/gotime.errAtoi", laid_loop_example_pub_timelayouts_pub_gotime_errAtoi), ("loop.example/pub-timelayouts/pub/gotime.errBad", laid_loop_example_pub_timelayouts_pub_gotime_errBad), ("loop.example/pub-timelayouts/pub/gotime.errLeadingInt", laid_loop_example_pub_timelayouts_pub_gotime_errLeadingInt)], narrowed := true }
def FnStrictFormUptoSaid : Prop := fnStrictFormUptoRow.holds Tryd.pinned (OpenSpec.upto fnStrictFormSpec)

/-- 'laws.FnExactFormat', WHERE WHAT IT READS IS OF BULK AT MOST 1048576: true; the input reads as it did. -/
def fnExactFormatUptoRow : OpenClaim := { program := "ytigabjibdepoiaadoor", sum := "e01fc3d36d296b943841f3885effe4a0046905462331d0df8bb60dfcf5b8e030", func := "loop.example/pub-timelayouts/laws.FnExactFormat", spec := "fnExactFormat", unfollowed := true, recurses := true, named := ["loop.example/pub-timelayouts/pub/gotime.std0x"], apart := false, laid := [("loop.example/pub-timelayouts/pub/gotime.std0x", laid_loop_example_pub_timelayouts_pub_gotime_std0x)], narrowed := true }
def FnExactFormatUptoSaid : Prop := fnExactFormatUptoRow.holds Tryd.pinned (OpenSpec.upto fnExactFormatSpec)

/-- 'laws.FnFormatFraction', WHERE WHAT IT READS IS OF BULK AT MOST 1048576: true; the input reads as it did. -/
def fnFormatFractionUptoRow : OpenClaim := { program := "ytigabjibdepoiaadoor", sum := "e01fc3d36d296b943841f3885effe4a0046905462331d0df8bb60dfcf5b8e030", func := "loop.example/pub-timelayouts/laws.FnFormatFraction", spec := "fnFormatFraction", unfollowed := true, recurses := true, named := ["loop.example/pub-timelayouts/pub/gotime.std0x"], apart := false, laid := [("loop.example/pub-timelayouts/pub/gotime.std0x", laid_loop_example_pub_timelayouts_pub_gotime_std0x)], narrowed := true }
def FnFormatFractionUptoSaid : Prop := fnFormatFractionUptoRow.holds Tryd.pinned (OpenSpec.upto fnFormatFractionSpec)

/-- 'laws.FnFormatOffset', WHERE WHAT IT READS IS OF BULK AT MOST 1048576: true; the input reads as it did. -/
def fnFormatOffsetUptoRow : OpenClaim := { program := "ytigabjibdepoiaadoor", sum := "e01fc3d36d296b943841f3885effe4a0046905462331d0df8bb60dfcf5b8e030", func := "loop.example/pub-timelayouts/laws.FnFormatOffset", spec := "fnFormatOffset", unfollowed := true, recurses := true, named := ["loop.example/pub-timelayouts/pub/gotime.std0x"], apart := false, laid := [("loop.example/pub-timelayouts/pub/gotime.std0x", laid_loop_example_pub_timelayouts_pub_gotime_std0x)], narrowed := true }
def FnFormatOffsetUptoSaid : Prop := fnFormatOffsetUptoRow.holds Tryd.pinned (OpenSpec.upto fnFormatOffsetSpec)

/-- 'laws.FnFormatOrder', WHERE WHAT IT READS IS OF BULK AT MOST 1048576: true; the input reads as it did. -/
def fnFormatOrderUptoRow : OpenClaim := { program := "ytigabjibdepoiaadoor", sum := "e01fc3d36d296b943841f3885effe4a0046905462331d0df8bb60dfcf5b8e030", func := "loop.example/pub-timelayouts/laws.FnFormatOrder", spec := "fnFormatOrder", unfollowed := true, recurses := true, named := ["loop.example/pub-timelayouts/pub/gotime.std0x"], apart := false, laid := [("loop.example/pub-timelayouts/pub/gotime.std0x", laid_loop_example_pub_timelayouts_pub_gotime_std0x)], narrowed := true }
def FnFormatOrderUptoSaid : Prop := fnFormatOrderUptoRow.holds Tryd.pinned (OpenSpec.upto fnFormatOrderSpec)

/-- 'laws.FnFormatPlain', WHERE WHAT IT READS IS OF BULK AT MOST 1048576: true; the input reads as it did. -/
def fnFormatPlainUptoRow : OpenClaim := { program := "ytigabjibdepoiaadoor", sum := "e01fc3d36d296b943841f3885effe4a0046905462331d0df8bb60dfcf5b8e030", func := "loop.example/pub-timelayouts/laws.FnFormatPlain", spec := "fnFormatPlain", unfollowed := true, recurses := true, named := ["loop.example/pub-timelayouts/pub/gotime.std0x"], apart := false, laid := [("loop.example/pub-timelayouts/pub/gotime.std0x", laid_loop_example_pub_timelayouts_pub_gotime_std0x)], narrowed := true }
def FnFormatPlainUptoSaid : Prop := fnFormatPlainUptoRow.holds Tryd.pinned (OpenSpec.upto fnFormatPlainSpec)

/-- 'laws.FnFormatRFC3339', WHERE WHAT IT READS IS OF BULK AT MOST 1048576: true; the input reads as it did. -/
def fnFormatRFC3339UptoRow : OpenClaim := { program := "ytigabjibdepoiaadoor", sum := "e01fc3d36d296b943841f3885effe4a0046905462331d0df8bb60dfcf5b8e030", func := "loop.example/pub-timelayouts/laws.FnFormatRFC3339", spec := "fnFormatRFC3339", unfollowed := true, recurses := true, named := ["loop.example/pub-timelayouts/pub/gotime.std0x"], apart := false, laid := [("loop.example/pub-timelayouts/pub/gotime.std0x", laid_loop_example_pub_timelayouts_pub_gotime_std0x)], narrowed := true }
def FnFormatRFC3339UptoSaid : Prop := fnFormatRFC3339UptoRow.holds Tryd.pinned (OpenSpec.upto fnFormatRFC3339Spec)

/-- 'laws.FnFormatRFC3339Nano', WHERE WHAT IT READS IS OF BULK AT MOST 1048576: true; the input reads as it did. -/
def fnFormatRFC3339NanoUptoRow : OpenClaim := { program := "ytigabjibdepoiaadoor", sum := "e01fc3d36d296b943841f3885effe4a0046905462331d0df8bb60dfcf5b8e030", func := "loop.example/pub-timelayouts/laws.FnFormatRFC3339Nano", spec := "fnFormatRFC3339Nano", unfollowed := true, recurses := true, named := ["loop.example/pub-timelayouts/pub/gotime.std0x"], apart := false, laid := [("loop.example/pub-timelayouts/pub/gotime.std0x", laid_loop_example_pub_timelayouts_pub_gotime_std0x)], narrowed := true }
def FnFormatRFC3339NanoUptoSaid : Prop := fnFormatRFC3339NanoUptoRow.holds Tryd.pinned (OpenSpec.upto fnFormatRFC3339NanoSpec)

/-- 'laws.FnFormatYearDay', WHERE WHAT IT READS IS OF BULK AT MOST 1048576: true; the input reads as it did. -/
def fnFormatYearDayUptoRow : OpenClaim := { program := "ytigabjibdepoiaadoor", sum := "e01fc3d36d296b943841f3885effe4a0046905462331d0df8bb60dfcf5b8e030", func := "loop.example/pub-timelayouts/laws.FnFormatYearDay", spec := "fnFormatYearDay", unfollowed := true, recurses := true, named := ["loop.example/pub-timelayouts/pub/gotime.std0x"], apart := false, laid := [("loop.example/pub-timelayouts/pub/gotime.std0x", laid_loop_example_pub_timelayouts_pub_gotime_std0x)], narrowed := true }
def FnFormatYearDayUptoSaid : Prop := fnFormatYearDayUptoRow.holds Tryd.pinned (OpenSpec.upto fnFormatYearDaySpec)

/-- 'laws.FnAppendAny', WHERE WHAT IT READS IS OF BULK AT MOST 1048576: true; the input reads as it did. -/
def fnAppendAnyUptoRow : OpenClaim := { program := "ytigabjibdepoiaadoor", sum := "e01fc3d36d296b943841f3885effe4a0046905462331d0df8bb60dfcf5b8e030", func := "loop.example/pub-timelayouts/laws.FnAppendAny", spec := "fnAppendAny", unfollowed := true, recurses := true, named := ["loop.example/pub-timelayouts/pub/gotime.std0x"], apart := false, laid := [("loop.example/pub-timelayouts/pub/gotime.std0x", laid_loop_example_pub_timelayouts_pub_gotime_std0x)], narrowed := true }
def FnAppendAnyUptoSaid : Prop := fnAppendAnyUptoRow.holds Tryd.pinned (OpenSpec.upto fnAppendAnySpec)

/-- 'laws.FnRoadsRFC3339', WHERE WHAT IT READS IS OF BULK AT MOST 1048576: true; the input reads as it did. -/
def fnRoadsRFC3339UptoRow : OpenClaim := { program := "ytigabjibdepoiaadoor", sum := "e01fc3d36d296b943841f3885effe4a0046905462331d0df8bb60dfcf5b8e030", func := "loop.example/pub-timelayouts/laws.FnRoadsRFC3339", spec := "fnRoadsRFC3339", unfollowed := true, recurses := true, named := ["loop.example/pub-timelayouts/pub/gotime.std0x"], apart := false, laid := [("loop.example/pub-timelayouts/pub/gotime.std0x", laid_loop_example_pub_timelayouts_pub_gotime_std0x)], narrowed := true }
def FnRoadsRFC3339UptoSaid : Prop := fnRoadsRFC3339UptoRow.holds Tryd.pinned (OpenSpec.upto fnRoadsRFC3339Spec)

/-- 'laws.FnExactText', WHERE WHAT IT READS IS OF BULK AT MOST 1048576: true; the input reads as it did. -/
def fnExactTextUptoRow : OpenClaim := { program := "ytigabjibdepoiaadoor", sum := "e01fc3d36d296b943841f3885effe4a0046905462331d0df8bb60dfcf5b8e030", func := "loop.example/pub-timelayouts/laws.FnExactText", spec := "fnExactText", unfollowed := true, recurses := true, named := ["loop.example/pub-timelayouts/pub/gotime.std0x"], apart := false, laid := [("loop.example/pub-timelayouts/pub/gotime.std0x", laid_loop_example_pub_timelayouts_pub_gotime_std0x)], narrowed := true }
def FnExactTextUptoSaid : Prop := fnExactTextUptoRow.holds Tryd.pinned (OpenSpec.upto fnExactTextSpec)

end Rows
end Go.Proofs.YtigabjibdepoiaaDoor
