/- FmtP: what is needed here. -/
import Derived.Test.YtdgckbjfnbljkaaDoorProg
import Derived.Test.YtdgckbjfnbljkaaDoorBase
import Derived.Test.YtdgckbjfnbljkaaDoorChunkB
import Derived.Test.YtdgckbjfnbljkaaDoorCalF
namespace Go.Proofs.YtdgckbjfnbljkaaDoor.Tm
set_option linter.unusedSimpArgs false
set_option linter.unusedVariables false
open Go.RowKit Go
/-- A time as it is told: date, clock, nanoseconds, the zone's name and offset. -/
structure Tm where
  y : Nat
  mo : Nat
  d : Nat
  h : Nat
  mi : Nat
  s : Nat
  ns : Nat
  zn : ByteArray
  off : Int
structure TmOk (t : Tm) : Prop where
  day : DayOk t.y t.mo t.d
  clock : ClockOk t.h t.mi t.s
  ns : t.ns ≤ 999999999
  zn0 : 0 < t.zn.size
  zn1 : t.zn.size ≤ 100
  off0 : -86399 ≤ t.off
  off1 : t.off ≤ 86399
  off2 : t.off = 0 ∨ t.off ≤ -60 ∨ 60 ≤ t.off
  utc : (bl t.zn = [85, 84, 67]) → t.off = 0
def h12 (h : Nat) : Nat := if h % 12 = 0 then 12 else h % 12
end Go.Proofs.YtdgckbjfnbljkaaDoor.Tm
