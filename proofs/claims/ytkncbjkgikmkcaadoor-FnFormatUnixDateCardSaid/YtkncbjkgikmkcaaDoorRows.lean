/-
  NARROWER THAN 'FOR EVERY INPUT', by the rows' own cells (each row's printed sentence says how): FnFormatPoints: laid · FnFormatRFC1123: laid · FnFormatRFC1123Z: laid · FnFormatRFC822: laid · FnFormatRFC822Z: laid · FnFormatRFC850: laid · FnFormatRubyDate: laid · FnFormatStamp: laid · FnFormatStampMicro: laid · FnFormatStampMilli: laid · FnFormatStampNano: laid · FnFormatTimeOnly: laid · FnFormatUnixDate: laid.
  DERIVED. THE GIVEN ROWS OF THIS SEAT. 13 by the template 'for every input the law returns true; each argument reads behind the call as it read before'; 0 by the template 'total and deterministic' (their statements: YtkncbjkgikmkcaaDoorTotals.lean).
  GIVEN WITH THE SEED: the statements are not yours to turn. If you find one false, say at which input.
  Laid BY PROGRAM, IN A SANDBOX (cutbox-rows.mjs): the forced cells as the released guide's own fill.sh prints them over the translation a743ee513ddfb7f3… (all of the seat's roots in one cut). By AI agents, Wed Nov 11 2026. No macro, syntax, notation, axiom, sorry.
-/
import Derived.Test.YtkncbjkgikmkcaaDoorChecked
import GoSem.Claim
import GoSem.ClaimJoined
import GoSem.ClaimMapViews
import Derived.JoinedTies
import Derived.KernelRfl
namespace Go.Proofs.YtkncbjkgikmkcaaDoor
/- THE CELL 'sum', in the pinned program and in every row, IS THE sha256 OF THE DUMP (.gsa) THAT YtkncbjkgikmkcaaDoorProg.lean LOADS. Nothing in Lean hashes anything: it is a label: what it is worth is what the hold of that sum in a sandbox is worth. -/
noncomputable def Tryd.pinned : Pinned := { name := "ytkncbjkgikmkcaadoor", sum := "a743ee513ddfb7f32aef7e841788f86bcf2d600c98bb844e388b1726e31c7999", checked := Tryd.checked }
namespace Rows
def none {H : Type} : Left H := { results := [], args := [] }

/- WHAT THE LISTED PACKAGE-LEVEL VARIABLES READ AS WHEN THE CALL BEGINS. Each datum BY PROGRAM (the guide's laid-datum.mjs) off the statement by which the dump's own 'gosem.cut.vars' lays the variable. In a bare row this is a premise. The card (YtkncbjkgikmkcaaDoorCards.lean) ties it to the program's text. -/
def laid_loop_example_pub_timelayouts_pub_gotime_std0x {H : Type} : DataW H := .agg [.lit (.int .i64 260), .lit (.int .i64 265), .lit (.int .i64 1038), .lit (.int .i64 1040), .lit (.int .i64 1042), .lit (.int .i64 276)]

/-- 'laws.FnFormatPoints': WHATEVER THE INPUT: true; the input reads as it did. -/
def fnFormatPointsSpec : ChangeSpec := { name := "fnFormatPoints", vars := ["loop.example/pub-timelayouts/pub/gotime.std0x"], fn := fun _ => fun
  | [d, g1] => { results := [.lit (.bool true)], args := [d], vars := [g1] }
  | _ => none }
def fnFormatPointsRow : OpenClaim := { program := "ytkncbjkgikmkcaadoor", sum := "a743ee513ddfb7f32aef7e841788f86bcf2d600c98bb844e388b1726e31c7999", func := "loop.example/pub-timelayouts/laws.FnFormatPoints", spec := "fnFormatPoints", unfollowed := true, recurses := true, named := ["loop.example/pub-timelayouts/pub/gotime.std0x"], apart := false, laid := [("loop.example/pub-timelayouts/pub/gotime.std0x", laid_loop_example_pub_timelayouts_pub_gotime_std0x)] }
def FnFormatPointsSaid : Prop := fnFormatPointsRow.holds Tryd.pinned (OpenSpec.ofChange fnFormatPointsSpec)

/-- ITS FALSE NEIGHBOUR: 'it returns false'. Refute it at one input. -/
def fnFormatPointsWrong : ChangeSpec := { name := "fnFormatPoints", vars := ["loop.example/pub-timelayouts/pub/gotime.std0x"], fn := fun _ => fun
  | [d, g1] => { results := [.lit (.bool false)], args := [d], vars := [g1] }
  | _ => none }
def FnFormatPointsWrongFalsely : Prop := fnFormatPointsRow.holds Tryd.pinned (OpenSpec.ofChange fnFormatPointsWrong)

/-- 'laws.FnFormatRFC1123': WHATEVER THE INPUT: true; the input reads as it did. -/
def fnFormatRFC1123Spec : ChangeSpec := { name := "fnFormatRFC1123", vars := ["loop.example/pub-timelayouts/pub/gotime.std0x"], fn := fun _ => fun
  | [d, g1] => { results := [.lit (.bool true)], args := [d], vars := [g1] }
  | _ => none }
def fnFormatRFC1123Row : OpenClaim := { program := "ytkncbjkgikmkcaadoor", sum := "a743ee513ddfb7f32aef7e841788f86bcf2d600c98bb844e388b1726e31c7999", func := "loop.example/pub-timelayouts/laws.FnFormatRFC1123", spec := "fnFormatRFC1123", unfollowed := true, recurses := true, named := ["loop.example/pub-timelayouts/pub/gotime.std0x"], apart := false, laid := [("loop.example/pub-timelayouts/pub/gotime.std0x", laid_loop_example_pub_timelayouts_pub_gotime_std0x)] }
def FnFormatRFC1123Said : Prop := fnFormatRFC1123Row.holds Tryd.pinned (OpenSpec.ofChange fnFormatRFC1123Spec)

/-- ITS FALSE NEIGHBOUR: 'it returns false'. Refute it at one input. -/
def fnFormatRFC1123Wrong : ChangeSpec := { name := "fnFormatRFC1123", vars := ["loop.example/pub-timelayouts/pub/gotime.std0x"], fn := fun _ => fun
  | [d, g1] => { results := [.lit (.bool false)], args := [d], vars := [g1] }
  | _ => none }
def FnFormatRFC1123WrongFalsely : Prop := fnFormatRFC1123Row.holds Tryd.pinned (OpenSpec.ofChange fnFormatRFC1123Wrong)

/-- 'laws.FnFormatRFC1123Z': WHATEVER THE INPUT: true; the input reads as it did. -/
def fnFormatRFC1123ZSpec : ChangeSpec := { name := "fnFormatRFC1123Z", vars := ["loop.example/pub-timelayouts/pub/gotime.std0x"], fn := fun _ => fun
  | [d, g1] => { results := [.lit (.bool true)], args := [d], vars := [g1] }
  | _ => none }
def fnFormatRFC1123ZRow : OpenClaim := { program := "ytkncbjkgikmkcaadoor", sum := "a743ee513ddfb7f32aef7e841788f86bcf2d600c98bb844e388b1726e31c7999", func := "loop.example/pub-timelayouts/laws.FnFormatRFC1123Z", spec := "fnFormatRFC1123Z", unfollowed := true, recurses := true, named := ["loop.example/pub-timelayouts/pub/gotime.std0x"], apart := false, laid := [("loop.example/pub-timelayouts/pub/gotime.std0x", laid_loop_example_pub_timelayouts_pub_gotime_std0x)] }
def FnFormatRFC1123ZSaid : Prop := fnFormatRFC1123ZRow.holds Tryd.pinned (OpenSpec.ofChange fnFormatRFC1123ZSpec)

/-- ITS FALSE NEIGHBOUR: 'it returns false'. Refute it at one input. -/
def fnFormatRFC1123ZWrong : ChangeSpec := { name := "fnFormatRFC1123Z", vars := ["loop.example/pub-timelayouts/pub/gotime.std0x"], fn := fun _ => fun
  | [d, g1] => { results := [.lit (.bool false)], args := [d], vars := [g1] }
  | _ => none }
def FnFormatRFC1123ZWrongFalsely : Prop := fnFormatRFC1123ZRow.holds Tryd.pinned (OpenSpec.ofChange fnFormatRFC1123ZWrong)

/-- 'laws.FnFormatRFC822': WHATEVER THE INPUT: true; the input reads as it did. -/
def fnFormatRFC822Spec : ChangeSpec := { name := "fnFormatRFC822", vars := ["loop.example/pub-timelayouts/pub/gotime.std0x"], fn := fun _ => fun
  | [d, g1] => { results := [.lit (.bool true)], args := [d], vars := [g1] }
  | _ => none }
def fnFormatRFC822Row : OpenClaim := { program := "ytkncbjkgikmkcaadoor", sum := "a743ee513ddfb7f32aef7e841788f86bcf2d600c98bb844e388b1726e31c7999", func := "loop.example/pub-timelayouts/laws.FnFormatRFC822", spec := "fnFormatRFC822", unfollowed := true, recurses := true, named := ["loop.example/pub-timelayouts/pub/gotime.std0x"], apart := false, laid := [("loop.example/pub-timelayouts/pub/gotime.std0x", laid_loop_example_pub_timelayouts_pub_gotime_std0x)] }
def FnFormatRFC822Said : Prop := fnFormatRFC822Row.holds Tryd.pinned (OpenSpec.ofChange fnFormatRFC822Spec)

/-- ITS FALSE NEIGHBOUR: 'it returns false'. Refute it at one input. -/
def fnFormatRFC822Wrong : ChangeSpec := { name := "fnFormatRFC822", vars := ["loop.example/pub-timelayouts/pub/gotime.std0x"], fn := fun _ => fun
  | [d, g1] => { results := [.lit (.bool false)], args := [d], vars := [g1] }
  | _ => none }
def FnFormatRFC822WrongFalsely : Prop := fnFormatRFC822Row.holds Tryd.pinned (OpenSpec.ofChange fnFormatRFC822Wrong)

/-- 'laws.FnFormatRFC822Z': WHATEVER THE INPUT: true; the input reads as it did. -/
def fnFormatRFC822ZSpec : ChangeSpec := { name := "fnFormatRFC822Z", vars := ["loop.example/pub-timelayouts/pub/gotime.std0x"], fn := fun _ => fun
  | [d, g1] => { results := [.lit (.bool true)], args := [d], vars := [g1] }
  | _ => none }
def fnFormatRFC822ZRow : OpenClaim := { program := "ytkncbjkgikmkcaadoor", sum := "a743ee513ddfb7f32aef7e841788f86bcf2d600c98bb844e388b1726e31c7999", func := "loop.example/pub-timelayouts/laws.FnFormatRFC822Z", spec := "fnFormatRFC822Z", unfollowed := true, recurses := true, named := ["loop.example/pub-timelayouts/pub/gotime.std0x"], apart := false, laid := [("loop.example/pub-timelayouts/pub/gotime.std0x", laid_loop_example_pub_timelayouts_pub_gotime_std0x)] }
def FnFormatRFC822ZSaid : Prop := fnFormatRFC822ZRow.holds Tryd.pinned (OpenSpec.ofChange fnFormatRFC822ZSpec)

/-- ITS FALSE NEIGHBOUR: 'it returns false'. Refute it at one input. -/
def fnFormatRFC822ZWrong : ChangeSpec := { name := "fnFormatRFC822Z", vars := ["loop.example/pub-timelayouts/pub/gotime.std0x"], fn := fun _ => fun
  | [d, g1] => { results := [.lit (.bool false)], args := [d], vars := [g1] }
  | _ => none }
def FnFormatRFC822ZWrongFalsely : Prop := fnFormatRFC822ZRow.holds Tryd.pinned (OpenSpec.ofChange fnFormatRFC822ZWrong)

/-- 'laws.FnFormatRFC850': WHATEVER THE INPUT: true; the input reads as it did. -/
def fnFormatRFC850Spec : ChangeSpec := { name := "fnFormatRFC850", vars := ["loop.example/pub-timelayouts/pub/gotime.std0x"], fn := fun _ => fun
  | [d, g1] => { results := [.lit (.bool true)], args := [d], vars := [g1] }
  | _ => none }
def fnFormatRFC850Row : OpenClaim := { program := "ytkncbjkgikmkcaadoor", sum := "a743ee513ddfb7f32aef7e841788f86bcf2d600c98bb844e388b1726e31c7999", func := "loop.example/pub-timelayouts/laws.FnFormatRFC850", spec := "fnFormatRFC850", unfollowed := true, recurses := true, named := ["loop.example/pub-timelayouts/pub/gotime.std0x"], apart := false, laid := [("loop.example/pub-timelayouts/pub/gotime.std0x", laid_loop_example_pub_timelayouts_pub_gotime_std0x)] }
def FnFormatRFC850Said : Prop := fnFormatRFC850Row.holds Tryd.pinned (OpenSpec.ofChange fnFormatRFC850Spec)

/-- ITS FALSE NEIGHBOUR: 'it returns false'. Refute it at one input. -/
def fnFormatRFC850Wrong : ChangeSpec := { name := "fnFormatRFC850", vars := ["loop.example/pub-timelayouts/pub/gotime.std0x"], fn := fun _ => fun
  | [d, g1] => { results := [.lit (.bool false)], args := [d], vars := [g1] }
  | _ => none }
def FnFormatRFC850WrongFalsely : Prop := fnFormatRFC850Row.holds Tryd.pinned (OpenSpec.ofChange fnFormatRFC850Wrong)

/-- 'laws.FnFormatRubyDate': WHATEVER THE INPUT: true; the input reads as it did. -/
def fnFormatRubyDateSpec : ChangeSpec := { name := "fnFormatRubyDate", vars := ["loop.example/pub-timelayouts/pub/gotime.std0x"], fn := fun _ => fun
  | [d, g1] => { results := [.lit (.bool true)], args := [d], vars := [g1] }
  | _ => none }
def fnFormatRubyDateRow : OpenClaim := { program := "ytkncbjkgikmkcaadoor", sum := "a743ee513ddfb7f32aef7e841788f86bcf2d600c98bb844e388b1726e31c7999", func := "loop.example/pub-timelayouts/laws.FnFormatRubyDate", spec := "fnFormatRubyDate", unfollowed := true, recurses := true, named := ["loop.example/pub-timelayouts/pub/gotime.std0x"], apart := false, laid := [("loop.example/pub-timelayouts/pub/gotime.std0x", laid_loop_example_pub_timelayouts_pub_gotime_std0x)] }
def FnFormatRubyDateSaid : Prop := fnFormatRubyDateRow.holds Tryd.pinned (OpenSpec.ofChange fnFormatRubyDateSpec)

/-- ITS FALSE NEIGHBOUR: 'it returns false'. Refute it at one input. -/
def fnFormatRubyDateWrong : ChangeSpec := { name := "fnFormatRubyDate", vars := ["loop.example/pub-timelayouts/pub/gotime.std0x"], fn := fun _ => fun
  | [d, g1] => { results := [.lit (.bool false)], args := [d], vars := [g1] }
  | _ => none }
def FnFormatRubyDateWrongFalsely : Prop := fnFormatRubyDateRow.holds Tryd.pinned (OpenSpec.ofChange fnFormatRubyDateWrong)

/-- 'laws.FnFormatStamp': WHATEVER THE INPUT: true; the input reads as it did. -/
def fnFormatStampSpec : ChangeSpec := { name := "fnFormatStamp", vars := ["loop.example/pub-timelayouts/pub/gotime.std0x"], fn := fun _ => fun
  | [d, g1] => { results := [.lit (.bool true)], args := [d], vars := [g1] }
  | _ => none }
def fnFormatStampRow : OpenClaim := { program := "ytkncbjkgikmkcaadoor", sum := "a743ee513ddfb7f32aef7e841788f86bcf2d600c98bb844e388b1726e31c7999", func := "loop.example/pub-timelayouts/laws.FnFormatStamp", spec := "fnFormatStamp", unfollowed := true, recurses := true, named := ["loop.example/pub-timelayouts/pub/gotime.std0x"], apart := false, laid := [("loop.example/pub-timelayouts/pub/gotime.std0x", laid_loop_example_pub_timelayouts_pub_gotime_std0x)] }
def FnFormatStampSaid : Prop := fnFormatStampRow.holds Tryd.pinned (OpenSpec.ofChange fnFormatStampSpec)

/-- ITS FALSE NEIGHBOUR: 'it returns false'. Refute it at one input. -/
def fnFormatStampWrong : ChangeSpec := { name := "fnFormatStamp", vars := ["loop.example/pub-timelayouts/pub/gotime.std0x"], fn := fun _ => fun
  | [d, g1] => { results := [.lit (.bool false)], args := [d], vars := [g1] }
  | _ => none }
def FnFormatStampWrongFalsely : Prop := fnFormatStampRow.holds Tryd.pinned (OpenSpec.ofChange fnFormatStampWrong)

/-- 'laws.FnFormatStampMicro': WHATEVER THE INPUT: true; the input reads as it did. -/
def fnFormatStampMicroSpec : ChangeSpec := { name := "fnFormatStampMicro", vars := ["loop.example/pub-timelayouts/pub/gotime.std0x"], fn := fun _ => fun
  | [d, g1] => { results := [.lit (.bool true)], args := [d], vars := [g1] }
  | _ => none }
def fnFormatStampMicroRow : OpenClaim := { program := "ytkncbjkgikmkcaadoor", sum := "a743ee513ddfb7f32aef7e841788f86bcf2d600c98bb844e388b1726e31c7999", func := "loop.example/pub-timelayouts/laws.FnFormatStampMicro", spec := "fnFormatStampMicro", unfollowed := true, recurses := true, named := ["loop.example/pub-timelayouts/pub/gotime.std0x"], apart := false, laid := [("loop.example/pub-timelayouts/pub/gotime.std0x", laid_loop_example_pub_timelayouts_pub_gotime_std0x)] }
def FnFormatStampMicroSaid : Prop := fnFormatStampMicroRow.holds Tryd.pinned (OpenSpec.ofChange fnFormatStampMicroSpec)

/-- ITS FALSE NEIGHBOUR: 'it returns false'. Refute it at one input. -/
def fnFormatStampMicroWrong : ChangeSpec := { name := "fnFormatStampMicro", vars := ["loop.example/pub-timelayouts/pub/gotime.std0x"], fn := fun _ => fun
  | [d, g1] => { results := [.lit (.bool false)], args := [d], vars := [g1] }
  | _ => none }
def FnFormatStampMicroWrongFalsely : Prop := fnFormatStampMicroRow.holds Tryd.pinned (OpenSpec.ofChange fnFormatStampMicroWrong)

/-- 'laws.FnFormatStampMilli': WHATEVER THE INPUT: true; the input reads as it did. -/
def fnFormatStampMilliSpec : ChangeSpec := { name := "fnFormatStampMilli", vars := ["loop.example/pub-timelayouts/pub/gotime.std0x"], fn := fun _ => fun
  | [d, g1] => { results := [.lit (.bool true)], args := [d], vars := [g1] }
  | _ => none }
def fnFormatStampMilliRow : OpenClaim := { program := "ytkncbjkgikmkcaadoor", sum := "a743ee513ddfb7f32aef7e841788f86bcf2d600c98bb844e388b1726e31c7999", func := "loop.example/pub-timelayouts/laws.FnFormatStampMilli", spec := "fnFormatStampMilli", unfollowed := true, recurses := true, named := ["loop.example/pub-timelayouts/pub/gotime.std0x"], apart := false, laid := [("loop.example/pub-timelayouts/pub/gotime.std0x", laid_loop_example_pub_timelayouts_pub_gotime_std0x)] }
def FnFormatStampMilliSaid : Prop := fnFormatStampMilliRow.holds Tryd.pinned (OpenSpec.ofChange fnFormatStampMilliSpec)

/-- ITS FALSE NEIGHBOUR: 'it returns false'. Refute it at one input. -/
def fnFormatStampMilliWrong : ChangeSpec := { name := "fnFormatStampMilli", vars := ["loop.example/pub-timelayouts/pub/gotime.std0x"], fn := fun _ => fun
  | [d, g1] => { results := [.lit (.bool false)], args := [d], vars := [g1] }
  | _ => none }
def FnFormatStampMilliWrongFalsely : Prop := fnFormatStampMilliRow.holds Tryd.pinned (OpenSpec.ofChange fnFormatStampMilliWrong)

/-- 'laws.FnFormatStampNano': WHATEVER THE INPUT: true; the input reads as it did. -/
def fnFormatStampNanoSpec : ChangeSpec := { name := "fnFormatStampNano", vars := ["loop.example/pub-timelayouts/pub/gotime.std0x"], fn := fun _ => fun
  | [d, g1] => { results := [.lit (.bool true)], args := [d], vars := [g1] }
  | _ => none }
def fnFormatStampNanoRow : OpenClaim := { program := "ytkncbjkgikmkcaadoor", sum := "a743ee513ddfb7f32aef7e841788f86bcf2d600c98bb844e388b1726e31c7999", func := "loop.example/pub-timelayouts/laws.FnFormatStampNano", spec := "fnFormatStampNano", unfollowed := true, recurses := true, named := ["loop.example/pub-timelayouts/pub/gotime.std0x"], apart := false, laid := [("loop.example/pub-timelayouts/pub/gotime.std0x", laid_loop_example_pub_timelayouts_pub_gotime_std0x)] }
def FnFormatStampNanoSaid : Prop := fnFormatStampNanoRow.holds Tryd.pinned (OpenSpec.ofChange fnFormatStampNanoSpec)

/-- ITS FALSE NEIGHBOUR: 'it returns false'. Refute it at one input. -/
def fnFormatStampNanoWrong : ChangeSpec := { name := "fnFormatStampNano", vars := ["loop.example/pub-timelayouts/pub/gotime.std0x"], fn := fun _ => fun
  | [d, g1] => { results := [.lit (.bool false)], args := [d], vars := [g1] }
  | _ => none }
def FnFormatStampNanoWrongFalsely : Prop := fnFormatStampNanoRow.holds Tryd.pinned (OpenSpec.ofChange fnFormatStampNanoWrong)

/-- 'laws.FnFormatTimeOnly': WHATEVER THE INPUT: true; the input reads as it did. -/
def fnFormatTimeOnlySpec : ChangeSpec := { name := "fnFormatTimeOnly", vars := ["loop.example/pub-timelayouts/pub/gotime.std0x"], fn := fun _ => fun
  | [d, g1] => { results := [.lit (.bool true)], args := [d], vars := [g1] }
  | _ => none }
def fnFormatTimeOnlyRow : OpenClaim := { program := "ytkncbjkgikmkcaadoor", sum := "a743ee513ddfb7f32aef7e841788f86bcf2d600c98bb844e388b1726e31c7999", func := "loop.example/pub-timelayouts/laws.FnFormatTimeOnly", spec := "fnFormatTimeOnly", unfollowed := true, recurses := true, named := ["loop.example/pub-timelayouts/pub/gotime.std0x"], apart := false, laid := [("loop.example/pub-timelayouts/pub/gotime.std0x", laid_loop_example_pub_timelayouts_pub_gotime_std0x)] }
def FnFormatTimeOnlySaid : Prop := fnFormatTimeOnlyRow.holds Tryd.pinned (OpenSpec.ofChange fnFormatTimeOnlySpec)

/-- ITS FALSE NEIGHBOUR: 'it returns false'. Refute it at one input. -/
def fnFormatTimeOnlyWrong : ChangeSpec := { name := "fnFormatTimeOnly", vars := ["loop.example/pub-timelayouts/pub/gotime.std0x"], fn := fun _ => fun
  | [d, g1] => { results := [.lit (.bool false)], args := [d], vars := [g1] }
  | _ => none }
def FnFormatTimeOnlyWrongFalsely : Prop := fnFormatTimeOnlyRow.holds Tryd.pinned (OpenSpec.ofChange fnFormatTimeOnlyWrong)

/-- 'laws.FnFormatUnixDate': WHATEVER THE INPUT: true; the input reads as it did. -/
def fnFormatUnixDateSpec : ChangeSpec := { name := "fnFormatUnixDate", vars := ["loop.example/pub-timelayouts/pub/gotime.std0x"], fn := fun _ => fun
  | [d, g1] => { results := [.lit (.bool true)], args := [d], vars := [g1] }
  | _ => none }
def fnFormatUnixDateRow : OpenClaim := { program := "ytkncbjkgikmkcaadoor", sum := "a743ee513ddfb7f32aef7e841788f86bcf2d600c98bb844e388b1726e31c7999", func := "loop.example/pub-timelayouts/laws.FnFormatUnixDate", spec := "fnFormatUnixDate", unfollowed := true, recurses := true, named := ["loop.example/pub-timelayouts/pub/gotime.std0x"], apart := false, laid := [("loop.example/pub-timelayouts/pub/gotime.std0x", laid_loop_example_pub_timelayouts_pub_gotime_std0x)] }
def FnFormatUnixDateSaid : Prop := fnFormatUnixDateRow.holds Tryd.pinned (OpenSpec.ofChange fnFormatUnixDateSpec)

/-- ITS FALSE NEIGHBOUR: 'it returns false'. Refute it at one input. -/
def fnFormatUnixDateWrong : ChangeSpec := { name := "fnFormatUnixDate", vars := ["loop.example/pub-timelayouts/pub/gotime.std0x"], fn := fun _ => fun
  | [d, g1] => { results := [.lit (.bool false)], args := [d], vars := [g1] }
  | _ => none }
def FnFormatUnixDateWrongFalsely : Prop := fnFormatUnixDateRow.holds Tryd.pinned (OpenSpec.ofChange fnFormatUnixDateWrong)

/- THE SECOND FORM. 'bulk': how many values and letters a reading holds, each counted each time it is reached (what is shared counts as often as it is met; a slice's spare places count too). A statement '..UptoSaid' is the law's where the arguments, and the package variables that the reading takes, are together of bulk at most 1048576: NARROWER than '..Said'. Prove '..Said' where nothing that the law and all that it calls make is longer than what came in: it says more and counts as full. Else prove '..UptoSaid'. A law counts once. -/
mutual
def uptoBulk {H : Type} : DataW H → Nat
  | .lit (.string bytes) => bytes.length + 1
  | .lit _ => 1
  | .nil => 1
  | .ptr d => uptoBulk d + 1
  | .slice elems spare => uptoBulkAll elems + uptoBulkAll spare + 1
  | .agg parts => uptoBulkAll parts + 1
  | .iface _ d => uptoBulk d + 1
  | .map entries => uptoBulkEntries entries + 1
  | .held _ => 1
def uptoBulkAll {H : Type} : List (DataW H) → Nat
  | [] => 0
  | d :: r => uptoBulk d + uptoBulkAll r
def uptoBulkEntries {H : Type} : List (Lit × DataW H) → Nat
  | [] => 0
  | x :: r => uptoBulkEntry x + uptoBulkEntries r
def uptoBulkEntry {H : Type} : Lit × DataW H → Nat
  | (.string bytes, d) => bytes.length + uptoBulk d + 1
  | (_, d) => uptoBulk d + 1
 end
def uptoSmall : (H : Type) → List (DataW H) → Bool := fun _ ds => decide (uptoBulkAll ds ≤ 1048576)
def OpenSpec.upto (s : _root_.Go.ChangeSpec) : _root_.Go.OpenSpec := { _root_.Go.OpenSpec.ofChange s with cond := some uptoSmall }

/-- 'laws.FnFormatPoints', WHERE WHAT IT READS IS OF BULK AT MOST 1048576: true; the input reads as it did. -/
def fnFormatPointsUptoRow : OpenClaim := { program := "ytkncbjkgikmkcaadoor", sum := "a743ee513ddfb7f32aef7e841788f86bcf2d600c98bb844e388b1726e31c7999", func := "loop.example/pub-timelayouts/laws.FnFormatPoints", spec := "fnFormatPoints", unfollowed := true, recurses := true, named := ["loop.example/pub-timelayouts/pub/gotime.std0x"], apart := false, laid := [("loop.example/pub-timelayouts/pub/gotime.std0x", laid_loop_example_pub_timelayouts_pub_gotime_std0x)], narrowed := true }
def FnFormatPointsUptoSaid : Prop := fnFormatPointsUptoRow.holds Tryd.pinned (OpenSpec.upto fnFormatPointsSpec)

/-- 'laws.FnFormatRFC1123', WHERE WHAT IT READS IS OF BULK AT MOST 1048576: true; the input reads as it did. -/
def fnFormatRFC1123UptoRow : OpenClaim := { program := "ytkncbjkgikmkcaadoor", sum := "a743ee513ddfb7f32aef7e841788f86bcf2d600c98bb844e388b1726e31c7999", func := "loop.example/pub-timelayouts/laws.FnFormatRFC1123", spec := "fnFormatRFC1123", unfollowed := true, recurses := true, named := ["loop.example/pub-timelayouts/pub/gotime.std0x"], apart := false, laid := [("loop.example/pub-timelayouts/pub/gotime.std0x", laid_loop_example_pub_timelayouts_pub_gotime_std0x)], narrowed := true }
def FnFormatRFC1123UptoSaid : Prop := fnFormatRFC1123UptoRow.holds Tryd.pinned (OpenSpec.upto fnFormatRFC1123Spec)

/-- 'laws.FnFormatRFC1123Z', WHERE WHAT IT READS IS OF BULK AT MOST 1048576: true; the input reads as it did. -/
def fnFormatRFC1123ZUptoRow : OpenClaim := { program := "ytkncbjkgikmkcaadoor", sum := "a743ee513ddfb7f32aef7e841788f86bcf2d600c98bb844e388b1726e31c7999", func := "loop.example/pub-timelayouts/laws.FnFormatRFC1123Z", spec := "fnFormatRFC1123Z", unfollowed := true, recurses := true, named := ["loop.example/pub-timelayouts/pub/gotime.std0x"], apart := false, laid := [("loop.example/pub-timelayouts/pub/gotime.std0x", laid_loop_example_pub_timelayouts_pub_gotime_std0x)], narrowed := true }
def FnFormatRFC1123ZUptoSaid : Prop := fnFormatRFC1123ZUptoRow.holds Tryd.pinned (OpenSpec.upto fnFormatRFC1123ZSpec)

/-- 'laws.FnFormatRFC822', WHERE WHAT IT READS IS OF BULK AT MOST 1048576: true; the input reads as it did. -/
def fnFormatRFC822UptoRow : OpenClaim := { program := "ytkncbjkgikmkcaadoor", sum := "a743ee513ddfb7f32aef7e841788f86bcf2d600c98bb844e388b1726e31c7999", func := "loop.example/pub-timelayouts/laws.FnFormatRFC822", spec := "fnFormatRFC822", unfollowed := true, recurses := true, named := ["loop.example/pub-timelayouts/pub/gotime.std0x"], apart := false, laid := [("loop.example/pub-timelayouts/pub/gotime.std0x", laid_loop_example_pub_timelayouts_pub_gotime_std0x)], narrowed := true }
def FnFormatRFC822UptoSaid : Prop := fnFormatRFC822UptoRow.holds Tryd.pinned (OpenSpec.upto fnFormatRFC822Spec)

/-- 'laws.FnFormatRFC822Z', WHERE WHAT IT READS IS OF BULK AT MOST 1048576: true; the input reads as it did. -/
def fnFormatRFC822ZUptoRow : OpenClaim := { program := "ytkncbjkgikmkcaadoor", sum := "a743ee513ddfb7f32aef7e841788f86bcf2d600c98bb844e388b1726e31c7999", func := "loop.example/pub-timelayouts/laws.FnFormatRFC822Z", spec := "fnFormatRFC822Z", unfollowed := true, recurses := true, named := ["loop.example/pub-timelayouts/pub/gotime.std0x"], apart := false, laid := [("loop.example/pub-timelayouts/pub/gotime.std0x", laid_loop_example_pub_timelayouts_pub_gotime_std0x)], narrowed := true }
def FnFormatRFC822ZUptoSaid : Prop := fnFormatRFC822ZUptoRow.holds Tryd.pinned (OpenSpec.upto fnFormatRFC822ZSpec)

/-- 'laws.FnFormatRFC850', WHERE WHAT IT READS IS OF BULK AT MOST 1048576: true; the input reads as it did. -/
def fnFormatRFC850UptoRow : OpenClaim := { program := "ytkncbjkgikmkcaadoor", sum := "a743ee513ddfb7f32aef7e841788f86bcf2d600c98bb844e388b1726e31c7999", func := "loop.example/pub-timelayouts/laws.FnFormatRFC850", spec := "fnFormatRFC850", unfollowed := true, recurses := true, named := ["loop.example/pub-timelayouts/pub/gotime.std0x"], apart := false, laid := [("loop.example/pub-timelayouts/pub/gotime.std0x", laid_loop_example_pub_timelayouts_pub_gotime_std0x)], narrowed := true }
def FnFormatRFC850UptoSaid : Prop := fnFormatRFC850UptoRow.holds Tryd.pinned (OpenSpec.upto fnFormatRFC850Spec)

/-- 'laws.FnFormatRubyDate', WHERE WHAT IT READS IS OF BULK AT MOST 1048576: true; the input reads as it did. -/
def fnFormatRubyDateUptoRow : OpenClaim := { program := "ytkncbjkgikmkcaadoor", sum := "a743ee513ddfb7f32aef7e841788f86bcf2d600c98bb844e388b1726e31c7999", func := "loop.example/pub-timelayouts/laws.FnFormatRubyDate", spec := "fnFormatRubyDate", unfollowed := true, recurses := true, named := ["loop.example/pub-timelayouts/pub/gotime.std0x"], apart := false, laid := [("loop.example/pub-timelayouts/pub/gotime.std0x", laid_loop_example_pub_timelayouts_pub_gotime_std0x)], narrowed := true }
def FnFormatRubyDateUptoSaid : Prop := fnFormatRubyDateUptoRow.holds Tryd.pinned (OpenSpec.upto fnFormatRubyDateSpec)

/-- 'laws.FnFormatStamp', WHERE WHAT IT READS IS OF BULK AT MOST 1048576: true; the input reads as it did. -/
def fnFormatStampUptoRow : OpenClaim := { program := "ytkncbjkgikmkcaadoor", sum := "a743ee513ddfb7f32aef7e841788f86bcf2d600c98bb844e388b1726e31c7999", func := "loop.example/pub-timelayouts/laws.FnFormatStamp", spec := "fnFormatStamp", unfollowed := true, recurses := true, named := ["loop.example/pub-timelayouts/pub/gotime.std0x"], apart := false, laid := [("loop.example/pub-timelayouts/pub/gotime.std0x", laid_loop_example_pub_timelayouts_pub_gotime_std0x)], narrowed := true }
def FnFormatStampUptoSaid : Prop := fnFormatStampUptoRow.holds Tryd.pinned (OpenSpec.upto fnFormatStampSpec)

/-- 'laws.FnFormatStampMicro', WHERE WHAT IT READS IS OF BULK AT MOST 1048576: true; the input reads as it did. -/
def fnFormatStampMicroUptoRow : OpenClaim := { program := "ytkncbjkgikmkcaadoor", sum := "a743ee513ddfb7f32aef7e841788f86bcf2d600c98bb844e388b1726e31c7999", func := "loop.example/pub-timelayouts/laws.FnFormatStampMicro", spec := "fnFormatStampMicro", unfollowed := true, recurses := true, named := ["loop.example/pub-timelayouts/pub/gotime.std0x"], apart := false, laid := [("loop.example/pub-timelayouts/pub/gotime.std0x", laid_loop_example_pub_timelayouts_pub_gotime_std0x)], narrowed := true }
def FnFormatStampMicroUptoSaid : Prop := fnFormatStampMicroUptoRow.holds Tryd.pinned (OpenSpec.upto fnFormatStampMicroSpec)

/-- 'laws.FnFormatStampMilli', WHERE WHAT IT READS IS OF BULK AT MOST 1048576: true; the input reads as it did. -/
def fnFormatStampMilliUptoRow : OpenClaim := { program := "ytkncbjkgikmkcaadoor", sum := "a743ee513ddfb7f32aef7e841788f86bcf2d600c98bb844e388b1726e31c7999", func := "loop.example/pub-timelayouts/laws.FnFormatStampMilli", spec := "fnFormatStampMilli", unfollowed := true, recurses := true, named := ["loop.example/pub-timelayouts/pub/gotime.std0x"], apart := false, laid := [("loop.example/pub-timelayouts/pub/gotime.std0x", laid_loop_example_pub_timelayouts_pub_gotime_std0x)], narrowed := true }
def FnFormatStampMilliUptoSaid : Prop := fnFormatStampMilliUptoRow.holds Tryd.pinned (OpenSpec.upto fnFormatStampMilliSpec)

/-- 'laws.FnFormatStampNano', WHERE WHAT IT READS IS OF BULK AT MOST 1048576: true; the input reads as it did. -/
def fnFormatStampNanoUptoRow : OpenClaim := { program := "ytkncbjkgikmkcaadoor", sum := "a743ee513ddfb7f32aef7e841788f86bcf2d600c98bb844e388b1726e31c7999", func := "loop.example/pub-timelayouts/laws.FnFormatStampNano", spec := "fnFormatStampNano", unfollowed := true, recurses := true, named := ["loop.example/pub-timelayouts/pub/gotime.std0x"], apart := false, laid := [("loop.example/pub-timelayouts/pub/gotime.std0x", laid_loop_example_pub_timelayouts_pub_gotime_std0x)], narrowed := true }
def FnFormatStampNanoUptoSaid : Prop := fnFormatStampNanoUptoRow.holds Tryd.pinned (OpenSpec.upto fnFormatStampNanoSpec)

/-- 'laws.FnFormatTimeOnly', WHERE WHAT IT READS IS OF BULK AT MOST 1048576: true; the input reads as it did. -/
def fnFormatTimeOnlyUptoRow : OpenClaim := { program := "ytkncbjkgikmkcaadoor", sum := "a743ee513ddfb7f32aef7e841788f86bcf2d600c98bb844e388b1726e31c7999", func := "loop.example/pub-timelayouts/laws.FnFormatTimeOnly", spec := "fnFormatTimeOnly", unfollowed := true, recurses := true, named := ["loop.example/pub-timelayouts/pub/gotime.std0x"], apart := false, laid := [("loop.example/pub-timelayouts/pub/gotime.std0x", laid_loop_example_pub_timelayouts_pub_gotime_std0x)], narrowed := true }
def FnFormatTimeOnlyUptoSaid : Prop := fnFormatTimeOnlyUptoRow.holds Tryd.pinned (OpenSpec.upto fnFormatTimeOnlySpec)

/-- 'laws.FnFormatUnixDate', WHERE WHAT IT READS IS OF BULK AT MOST 1048576: true; the input reads as it did. -/
def fnFormatUnixDateUptoRow : OpenClaim := { program := "ytkncbjkgikmkcaadoor", sum := "a743ee513ddfb7f32aef7e841788f86bcf2d600c98bb844e388b1726e31c7999", func := "loop.example/pub-timelayouts/laws.FnFormatUnixDate", spec := "fnFormatUnixDate", unfollowed := true, recurses := true, named := ["loop.example/pub-timelayouts/pub/gotime.std0x"], apart := false, laid := [("loop.example/pub-timelayouts/pub/gotime.std0x", laid_loop_example_pub_timelayouts_pub_gotime_std0x)], narrowed := true }
def FnFormatUnixDateUptoSaid : Prop := fnFormatUnixDateUptoRow.holds Tryd.pinned (OpenSpec.upto fnFormatUnixDateSpec)

end Rows
end Go.Proofs.YtkncbjkgikmkcaaDoor
