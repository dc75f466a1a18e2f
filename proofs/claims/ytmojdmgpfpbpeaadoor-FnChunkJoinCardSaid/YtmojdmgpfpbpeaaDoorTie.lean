/-
  DERIVED. GIVEN WITH THE SEED: THE PROGRAM's TIES (one call each: nine closed facts by the kernel) AND EACH ROW's TIE, after the 31st guide's Derived/Test/Toyas{Tie, Card}.lean. No idea stands in it: it is a product of the set-up. Laid BY PROGRAM, IN A SANDBOX (cutbox-door.mjs). By AI agents, Wed Nov 11 2026. No macro, syntax, notation, axiom, sorry.
-/
import Derived.Test.YtmojdmgpfpbpeaaDoorRows
import Derived.LaidByTextLater
import Derived.SevenTiedAt
import Derived.LaidSub
import Derived.LaidOnce
namespace Go.Proofs.YtmojdmgpfpbpeaaDoor
open Go
set_option maxRecDepth 100000
theorem seatTie1 : Tryd.prog.laidByTextLater [("loop.example/pub-timelayouts/pub/gotime.std0x", Rows.laid_loop_example_pub_timelayouts_pub_gotime_std0x), ("loop.example/pub-timelayouts/pub/gotime.errAtoi", Rows.laid_loop_example_pub_timelayouts_pub_gotime_errAtoi), ("loop.example/pub-timelayouts/pub/gotime.errBad", Rows.laid_loop_example_pub_timelayouts_pub_gotime_errBad), ("loop.example/pub-timelayouts/pub/gotime.errLeadingInt", Rows.laid_loop_example_pub_timelayouts_pub_gotime_errLeadingInt)] [.data, .sentinel, .sentinel, .sentinel] true :=
  Program.laidByTextLater_by_one 71 8 7 (by kernel_rfl) (by kernel_rfl) (by kernel_rfl) (by kernel_rfl) (by kernel_rfl) (by kernel_rfl) (fun _ _ => by kernel_rfl)
theorem noOwnUnsafe : Tryd.pinned.checked.prog.headLifts.contains "ownunsafe" = false := by kernel_rfl
theorem tie : Tryd.prog.laidByTextLater [("loop.example/pub-timelayouts/pub/gotime.errLeadingInt", Rows.laid_loop_example_pub_timelayouts_pub_gotime_errLeadingInt)] [.sentinel] true :=
  Program.laidByTextLater.sub seatTie1 ["loop.example/pub-timelayouts/pub/gotime.errLeadingInt"] (by kernel_rfl) (by kernel_rfl)
theorem fnExactLeadingInt_row_tie : Rows.fnExactLeadingIntRow.laidByTextAt .later Tryd.pinned [.sentinel] true :=
  OpenClaim.laidByTextAt_later rfl rfl tie noOwnUnsafe
theorem fnExactSignedOffset_row_tie : Rows.fnExactSignedOffsetRow.laidByTextAt .later Tryd.pinned [.sentinel] true :=
  OpenClaim.laidByTextAt_later rfl rfl tie noOwnUnsafe
theorem fnTimeZoneThree_row_tie : Rows.fnTimeZoneThreeRow.laidByTextAt .later Tryd.pinned [.sentinel] true :=
  OpenClaim.laidByTextAt_later rfl rfl tie noOwnUnsafe
theorem tie2 : Tryd.prog.laidByTextLater [("loop.example/pub-timelayouts/pub/gotime.errAtoi", Rows.laid_loop_example_pub_timelayouts_pub_gotime_errAtoi), ("loop.example/pub-timelayouts/pub/gotime.errBad", Rows.laid_loop_example_pub_timelayouts_pub_gotime_errBad), ("loop.example/pub-timelayouts/pub/gotime.errLeadingInt", Rows.laid_loop_example_pub_timelayouts_pub_gotime_errLeadingInt)] [.sentinel, .sentinel, .sentinel] true :=
  Program.laidByTextLater.sub seatTie1 ["loop.example/pub-timelayouts/pub/gotime.errAtoi", "loop.example/pub-timelayouts/pub/gotime.errBad", "loop.example/pub-timelayouts/pub/gotime.errLeadingInt"] (by kernel_rfl) (by kernel_rfl)
theorem fnExactNanoseconds_row_tie : Rows.fnExactNanosecondsRow.laidByTextAt .later Tryd.pinned [.sentinel, .sentinel, .sentinel] true :=
  OpenClaim.laidByTextAt_later rfl rfl tie2 noOwnUnsafe
theorem tie3 : Tryd.prog.laidByTextLater [("loop.example/pub-timelayouts/pub/gotime.std0x", Rows.laid_loop_example_pub_timelayouts_pub_gotime_std0x)] [.data] true :=
  Program.laidByTextLater.sub seatTie1 ["loop.example/pub-timelayouts/pub/gotime.std0x"] (by kernel_rfl) (by kernel_rfl)
theorem fnChunkJoin_row_tie : Rows.fnChunkJoinRow.laidByTextAt .later Tryd.pinned [.data] true :=
  OpenClaim.laidByTextAt_later rfl rfl tie3 noOwnUnsafe
theorem fnExactLeadingIntUpto_row_tie : Rows.fnExactLeadingIntUptoRow.laidByTextAt .later Tryd.pinned [.sentinel] true :=
  OpenClaim.laidByTextAt_later rfl rfl tie noOwnUnsafe
theorem fnExactSignedOffsetUpto_row_tie : Rows.fnExactSignedOffsetUptoRow.laidByTextAt .later Tryd.pinned [.sentinel] true :=
  OpenClaim.laidByTextAt_later rfl rfl tie noOwnUnsafe
theorem fnExactNanosecondsUpto_row_tie : Rows.fnExactNanosecondsUptoRow.laidByTextAt .later Tryd.pinned [.sentinel, .sentinel, .sentinel] true :=
  OpenClaim.laidByTextAt_later rfl rfl tie2 noOwnUnsafe
theorem fnTimeZoneThreeUpto_row_tie : Rows.fnTimeZoneThreeUptoRow.laidByTextAt .later Tryd.pinned [.sentinel] true :=
  OpenClaim.laidByTextAt_later rfl rfl tie noOwnUnsafe
theorem fnChunkJoinUpto_row_tie : Rows.fnChunkJoinUptoRow.laidByTextAt .later Tryd.pinned [.data] true :=
  OpenClaim.laidByTextAt_later rfl rfl tie3 noOwnUnsafe
end Go.Proofs.YtmojdmgpfpbpeaaDoor
