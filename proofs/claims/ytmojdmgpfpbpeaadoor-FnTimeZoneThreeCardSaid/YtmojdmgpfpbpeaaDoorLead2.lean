/- The walks from leadingInt up to the thin package's LeadingInt. -/
import Derived.Test.YtmojdmgpfpbpeaaDoorLead
namespace Go.Proofs.YtmojdmgpfpbpeaaDoor.Tm
open Go.RowKit Go

set_option maxHeartbeats 400000 in
theorem leadPub_any (s : ByteArray) (V : Value) (w : World) (hs : s.size ≤ 140737488351232) (hV : w.cell? ⟨0, 0, none⟩ = some V) :
    Calls Tryd.prog 14 #[.string s] w (LeadRes s V w) := by
  go_enter Tryd.func14, Tryd.ntmps14
  go_wp2_with (go_at_call 20; refine (lead_any s V _ hs (by assumption)).mono ?_; rintro e w' (⟨rfl, hle, hb⟩ | ⟨rfl, hgt, hb⟩))
  · have HL := hideP hle; clear hle
    go_wp2
    go_ret3
    exact .inl ⟨rfl, HL.out, hb⟩
  · have HL := hideP hgt; clear hgt
    go_wp2
    go_ret3
    exact .inr ⟨rfl, HL.out, hb⟩

def LeadImplOk (s : ByteArray) (w : World) (e : Ending) (w' : World) : Prop := e = .returned (.tuple #[.int .u64 (dval (digs (bl s)) : Nat), .string (s.extract (digs (bl s)).length s.size), .bool true]) ∧ Below w.heap.size w w'
set_option maxHeartbeats 400000 in
theorem leadImpl_ok (s : ByteArray) (V : Value) (w : World) (hs : s.size ≤ 140737488351232) (hV : w.cell? ⟨0, 0, none⟩ = some V) (hle : dval (digs (bl s)) ≤ 9223372036854775808) :
    Calls Tryd.prog 8 #[.string s] w (LeadImplOk s w) := by
  have H := hideP hle; clear hle
  go_enter Tryd.func8, Tryd.ntmps8
  go_wp2_with (go_at_call 14; refine (leadPub_any s V _ hs (by assumption)).mono ?_; rintro e w' (⟨rfl, hle, hb⟩ | ⟨rfl, hgt, hb⟩))
  · have HL := hideP hle; clear hle
    go_wp2
    go_quiet (fail)
    go_wp2
    go_ret3
    exact ⟨rfl, below_drewN hb _⟩
  · exact absurd H.out (by omega)
end Go.Proofs.YtmojdmgpfpbpeaaDoor.Tm
