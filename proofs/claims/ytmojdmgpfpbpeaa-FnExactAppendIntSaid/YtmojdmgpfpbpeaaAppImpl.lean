/- The walk of AppendInt from outside: onto a copy of the bytes that came in. -/
import Derived.Test.YtmojdmgpfpbpeaaAppAny
import Derived.Test.YtmojdmgpfpbpeaaPad
namespace Go.Proofs.Ytmojdmgpfpbpeaa.Tm
open Go.RowKit Go
/-- A slice of bytes that came in: its bytes are l, now and in every world in which only new blocks stand. -/
structure ArgB (w : World) (v : Value) (l : List UInt8) : Prop where
  src : ∀ w', Below w.heap.size w w' → Src Try.prog 1 22 v l.length (bytes l) w'
  txt : ∀ w', Below w.heap.size w w' → (convert 22 9 v).run Try.prog w' = .ok (.string (mkB l)) w'
  shape : ∃ ao cap, v = .slice ao l.length cap
theorem ArgB.below {w w1 : World} {v : Value} {l : List UInt8} (h : ArgB w v l) (hb : Below w.heap.size w w1) : ArgB w1 v l :=
  ⟨fun w' hb' => h.src w' (hb.trans (hb'.mono hb.size)), fun w' hb' => h.txt w' (hb.trans (hb'.mono hb.size)), h.shape⟩
theorem argB_nil (w : World) : ArgB w (.slice none 0 0) [] :=
  ⟨fun w' _ => Src.ofNil w' Try.underlying22 0, fun w' _ => run_convert_bytes_nil w' 22 5 Try.underlying22 Try.underlying5 0 0 9 Try.underlying9, ⟨none, 0, rfl⟩⟩
theorem argB_some (w : World) (a : Addr) (cap : Nat) (l : List UInt8) (ha : 0 < l.length → a.block < w.heap.size) (hc : ∀ j (hj : j < l.length), w.cell? (a.add j) = some (.int .u8 l[j].toNat)) : ArgB w (.slice (some a) l.length cap) l := by
  have key : ∀ w', Below w.heap.size w w' → ∀ j (hj : j < l.length), w'.cell? (a.add j) = some (.int .u8 l[j].toNat) := fun w' hb j hj =>
    (hb.cell (p := a.add j) (by have : (a.add j).block = a.block := by unfold Addr.add; split <;> rfl
                                have := ha (by omega)
                                omega)).trans (hc j hj)
  refine ⟨fun w' hb => Src.ofSlice w' Try.underlying22 a l.length cap (bytes l) (by rw [bytes_length, Nat.mul_one]) (fun j u hj => ?_) (bytes_one l), fun w' hb => ?_, ⟨some a, cap, rfl⟩⟩
  · have hjl : j < l.length := by rw [← bytes_length l]; exact (List.getElem?_eq_some_iff.1 hj).1
    rw [key w' hb j hjl]
    simp only [bytes, List.getElem?_map, List.getElem?_eq_getElem hjl, Option.map_some] at hj
    exact hj
  · exact run_convert_bytes_back (P := Try.prog) w' 22 9 5 a cap l Try.underlying22 Try.underlying5 Try.underlying9 (key w' hb)
theorem Moved.fresh {w w' : World} {v v' : Value} {g : Nat} (h : Moved w v w' v') (hv : v.ownBlock = some g) (hg : w.heap.size ≤ g) : Below w.heap.size w w' :=
  ⟨h.grown.os, h.grown.tape, h.grown.output, h.grown.size, fun k hk => h.grown.block k hk (by rw [hv]; intro e; cases e; omega)⟩
def AppPost (l : List UInt8) (w : World) (e : Ending) (w' : World) : Prop := ∃ v', e = .returned v' ∧ Buf w' w.heap.size v' (bytes l) ∧ Below w.heap.size w w'
set_option maxRecDepth 100000 in
set_option maxHeartbeats 800000 in
theorem appImpl_any (x wd : Int) (vb : Value) (l : List UInt8) (w : World) (hx : -4611686018427387904 ≤ x) (hx2 : x ≤ 9223372036854775807) (hw1 : -1000 ≤ wd) (hw2 : wd ≤ 1000) (hl : l.length ≤ 1048576) (hv : ArgB w vb l) :
    Calls Try.prog 4 #[vb, .int .i64 x, .int .i64 wd] w (AppPost (l ++ intL x wd) w) := by
  have HA := hideP hv
  have hpub : ∀ (v : Value) (xs : List Value) (w1 : World), Buf w1 w.heap.size v xs → xs.length ≤ 1048576 → w.heap.size ≤ w1.heap.size → Calls Try.prog 6 #[v, .int .i64 x, .int .i64 wd] w1 (BufPost w.heap.size v (xs ++ bytes (intL x wd)) w1) := by
    intro v xs w1 hb hxs hbase
    have HB := hideP hb
    clear hb hv
    go_enter Try.func6, Try.ntmps6
    go_wp2_with (go_at_call 8; refine (appInt_any x wd w.heap.size v xs _ hx hx2 (by omega) (by omega) HB.out (by omega) hbase).mono ?_; rintro e w2 ⟨v2, rfl, hb2, hm2⟩; have HB2 := hideP hb2; have HM2 := hideP hm2; clear hb2 hm2)
    go_ret
    exact ⟨v2, rfl, HB2.out, HM2.out⟩
  have HP := hideP hpub
  clear hpub hv
  go_enter Try.func4, Try.ntmps4
  go_wp2_with (first
    | (at_builtin; refine wpList_buf_append rfl _ _ _ rfl w.heap.size _ [] rfl (buf_lit w [] _ (by show 0 ≤ maxLen; exact Nat.zero_le _)) _ rfl l.length (bytes l) (HA.out.src _ ((Below.refl _ _).alloc (Nat.le_refl _) _)) (by simp; omega) (by simp) ?_; intro v1 w1 hv1 hm1; have HV1 := hideP (show Buf w1 w.heap.size v1 (bytes l) from hv1); have HM1 := hideP (show Moved w (.slice (some ⟨w.heap.size, 0, none⟩) 0 0) w1 v1 from (Moved.below ((Below.refl _ _).alloc (Nat.le_refl _) _) _).trans hm1); clear hv1 hm1)
    | (go_at_call 6; refine (HP.out _ (bytes l) _ HV1.out (by rw [bytes_length]; exact hl) HM1.out.grown.size).mono ?_; rintro e w2 ⟨v2, rfl, hb2, hm2⟩; have HB2 := hideP hb2; have HM2 := hideP (HM1.out.trans hm2); clear hb2 hm2))
  go_ret
  refine ⟨v2, rfl, by rw [bytes_append]; exact HB2.out, ?_⟩
  exact HM2.out.fresh rfl (Nat.le_refl _)
end Go.Proofs.Ytmojdmgpfpbpeaa.Tm
