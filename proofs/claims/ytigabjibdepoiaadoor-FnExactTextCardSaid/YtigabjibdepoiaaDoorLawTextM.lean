/- A slice of bytes that came in. The walks of RFC3339 and AppendFormat from outside: onto a copy of the bytes that came in. The text of a time by MarshalText: the walk of num2, and the list's form. The text of a time by MarshalText: the walk of appendStrictRFC3339. The text of a time by MarshalText: the walks of MarshalText and TextOf. The law FnExactText: its walk. -/
import Derived.Test.YtigabjibdepoiaaDoorAppAny
import Derived.Test.YtigabjibdepoiaaDoorPad
import Derived.Test.YtigabjibdepoiaaDoorFmtV
import Derived.Test.YtigabjibdepoiaaDoorLayK
import Derived.Deep.RegionWith
namespace Go.Proofs.YtigabjibdepoiaaDoor.Tm
set_option linter.unusedSimpArgs false
set_option linter.unusedVariables false
open Go.RowKit Go
/-- A slice of bytes that came in: its bytes are l, now and in every world in which only new blocks stand. -/
structure ArgB (w : World) (v : Value) (l : List UInt8) : Prop where
  src : ∀ w', Below w.heap.size w w' → Src Tryd.prog 1 51 v l.length (bytes l) w'
  txt : ∀ w', Below w.heap.size w w' → (convert 51 9 v).run Tryd.prog w' = .ok (.string (mkB l)) w'
  shape : ∃ ao cap, v = .slice ao l.length cap
theorem ArgB.below {w w1 : World} {v : Value} {l : List UInt8} (h : ArgB w v l) (hb : Below w.heap.size w w1) : ArgB w1 v l :=
  ⟨fun w' hb' => h.src w' (hb.trans (hb'.mono hb.size)), fun w' hb' => h.txt w' (hb.trans (hb'.mono hb.size)), h.shape⟩
theorem argB_nil (w : World) : ArgB w (.slice none 0 0) [] :=
  ⟨fun w' _ => Src.ofNil w' Tryd.underlying51 0, fun w' _ => run_convert_bytes_nil w' 51 5 Tryd.underlying51 Tryd.underlying5 0 0 9 Tryd.underlying9, ⟨none, 0, rfl⟩⟩
theorem argB_some (w : World) (a : Addr) (cap : Nat) (l : List UInt8) (ha : 0 < l.length → a.block < w.heap.size) (hc : ∀ j (hj : j < l.length), w.cell? (a.add j) = some (.int .u8 l[j].toNat)) : ArgB w (.slice (some a) l.length cap) l := by
  have key : ∀ w', Below w.heap.size w w' → ∀ j (hj : j < l.length), w'.cell? (a.add j) = some (.int .u8 l[j].toNat) := fun w' hb j hj =>
    (hb.cell (p := a.add j) (by have : (a.add j).block = a.block := by unfold Addr.add; split <;> rfl
                                have := ha (by omega)
                                omega)).trans (hc j hj)
  refine ⟨fun w' hb => Src.ofSlice w' Tryd.underlying51 a l.length cap (bytes l) (by rw [bytes_length, Nat.mul_one]) (fun j u hj => ?_) (bytes_one l), fun w' hb => ?_, ⟨some a, cap, rfl⟩⟩
  · have hjl : j < l.length := by rw [← bytes_length l]; exact (List.getElem?_eq_some_iff.1 hj).1
    rw [key w' hb j hjl]
    simp only [bytes, List.getElem?_map, List.getElem?_eq_getElem hjl, Option.map_some] at hj
    exact hj
  · exact run_convert_bytes_back (P := Tryd.prog) w' 51 9 5 a cap l Tryd.underlying51 Tryd.underlying5 Tryd.underlying9 (key w' hb)
theorem Moved.fresh {w w' : World} {v v' : Value} {g : Nat} (h : Moved w v w' v') (hv : v.ownBlock = some g) (hg : w.heap.size ≤ g) : Below w.heap.size w w' :=
  ⟨h.grown.os, h.grown.tape, h.grown.output, h.grown.size, fun k hk => h.grown.block k hk (by rw [hv]; intro e; cases e; omega)⟩
def AppPost (l : List UInt8) (w : World) (e : Ending) (w' : World) : Prop := ∃ v', e = .returned v' ∧ Buf w' w.heap.size v' (bytes l) ∧ Below w.heap.size w w'
end Go.Proofs.YtigabjibdepoiaaDoor.Tm
namespace Go.Proofs.YtigabjibdepoiaaDoor.Tm
set_option linter.unusedSimpArgs false
set_option linter.unusedVariables false
open Go.RowKit Go
set_option maxRecDepth 100000 in
set_option maxHeartbeats 1600000 in
theorem rfcPub_any (t : Tm) (ao : Option Addr) (base : Nat) (v : Value) (xs : List Value) (nanos : Bool) (w : World) (hO : TmOk t) (hp : PlaceAt w base t (.pointer ao)) (hv : Buf w base v xs) (hbase : base ≤ w.heap.size) (hlen : xs.length + 1000 ≤ 140737488351232) :
    Calls Tryd.prog 61 #[tmV t (.pointer ao), v, .bool nanos] w (BPost w v base xs (rfcL t nanos) (xs.length + 400)) := by
  have HO := hideP hO
  have HP := hideP (hp.under ((Below.refl base w).alloc hbase (.cells #[.int .u64 t.ns, .int .i64 (unixOf t + 62135596800), .pointer ao] 61)))
  have HV := hideP (hv.alloc (.cells #[.int .u64 t.ns, .int .i64 (unixOf t + 62135596800), .pointer ao] 61))
  have HBASE := hideP hbase
  have HBASE2 := hideP (show base ≤ (w.alloc (.cells #[.int .u64 t.ns, .int .i64 (unixOf t + 62135596800), .pointer ao] 61)).heap.size by simp; omega)
  have HLEN := hideP hlen
  have HBL := hideP (below_alloc w (.cells #[.int .u64 t.ns, .int .i64 (unixOf t + 62135596800), .pointer ao] 61))
  clear hO hp hv hbase hlen
  unfold tmV
  go_enter Tryd.func61, Tryd.ntmps61
  go_wp2_with (go_at_call 83; refine (rfc_any t ao base v xs nanos _ HO.out HP.out HV.out HBASE2.out HLEN.out).mono ?_; rintro e w1 ⟨v1, rfl, hb⟩; have HB := hideP hb; clear hb)
  go_ret
  exact ⟨v1, rfl, bst_rebase HB.out HBL.out HBASE.out⟩
/-- A slice of bytes whose text is l. -/
def TxtOf (l : List UInt8) (w : World) (e : Ending) (w' : World) : Prop := ∃ v', e = .returned v' ∧ (∀ w2, Below w'.heap.size w' w2 → (convert 51 9 v').run Tryd.prog w2 = .ok (.string (mkB l)) w2) ∧ Below w.heap.size w w'
theorem buf_txt {w' : World} {base : Nat} {v : Value} {l : List UInt8} (h : Buf w' base v (bytes l)) : ∀ w2, Below w'.heap.size w' w2 → (convert 51 9 v).run Tryd.prog w2 = .ok (.string (mkB l)) w2 := fun w2 hb => run_string_buf w2 _ v _ (h.kept hb)
set_option maxRecDepth 100000 in
set_option maxHeartbeats 1600000 in
theorem rfcImpl_any (t : Tm) (vb : Value) (l : List UInt8) (nanos : Bool) (w : World) (hO : TmOk t) (hl : l.length ≤ 1048576) (hv : ArgB w vb l) :
    Calls Tryd.prog 38 #[cvV t, vb, .bool nanos] w (TxtOf (l ++ rfcL t nanos) w) := by
  have HO := hideP hO
  have HA := hideP hv
  have HL := hideP (show (bytes l).length + 1000 ≤ 140737488351232 by rw [bytes_length]; omega)
  clear hO hv
  unfold cvV
  go_enter Tryd.func38, Tryd.ntmps38
  go_wp2_with (first
    | (go_at_call 51; refine (at_any t _ HO.out).mono ?_; rintro e w1 ⟨loc, rfl, hpl, hbl⟩; obtain ⟨ao, rfl⟩ := hpl.ptr; have HPL := hideP hpl; have HBL := hideP ((below_alloc w _).trans (hbl.mono (by simp))); clear hpl hbl)
    | (at_builtin; refine wpList_buf_append rfl _ _ _ rfl w1.heap.size _ [] rfl (buf_lit w1 [] _ (by show 0 ≤ maxLen; exact Nat.zero_le _)) _ rfl l.length (bytes l) (HA.out.src _ (HBL.out.trans (((Below.refl _ _).alloc (Nat.le_refl _) _).mono HBL.out.size))) (by simp; omega) (by simp) ?_; intro v1 w2 hv1 hm1; have HV1 := hideP (show Buf w2 w1.heap.size v1 (bytes l) from hv1); have HM1 := hideP (show Moved w1 (.slice (some ⟨w1.heap.size, 0, none⟩) 0 0) w2 v1 from (Moved.below ((Below.refl _ _).alloc (Nat.le_refl _) _) _).trans hm1); clear hv1 hm1)
    | (go_at_call 61; refine (rfcPub_any t ao w1.heap.size v1 (bytes l) nanos _ HO.out (HPL.out.under (HM1.out.fresh rfl (Nat.le_refl _))) HV1.out HM1.out.grown.size HL.out).mono ?_; rintro e w3 ⟨v3, rfl, hb⟩; have HB := hideP hb; clear hb))
  go_ret
  refine ⟨v3, rfl, buf_txt (by rw [bytes_append]; exact HB.out.buf), ?_⟩
  exact HBL.out.trans (((HM1.out.trans HB.out.mov).fresh rfl (Nat.le_refl _)).mono HBL.out.size)
set_option maxRecDepth 100000 in
set_option maxHeartbeats 1600000 in
theorem appFImpl_any (t : Tm) (vb : Value) (l : List UInt8) (s : ByteArray) (w : World) (hO : TmOk t) (hT : TabOk w) (hl : l.length ≤ 1048576) (hs : s.size ≤ 2147483647) (hv : ArgB w vb l) :
    Calls Tryd.prog 37 #[vb, cvV t, .string s] w (TxtOf (l ++ fmtL t (bl s)) w) := by
  have HO := hideP hO
  have HA := hideP hv
  have HT := hideP hT
  have HLT := hideP hT.lt
  have HL := hideP (show (bytes l).length + 102 * s.size + 3000 ≤ 140737488351232 by rw [bytes_length]; omega)
  clear hO hv hT
  unfold cvV
  go_enter Tryd.func37, Tryd.ntmps37
  go_wp2_with (first
    | (go_at_call 51; refine (at_any t _ HO.out).mono ?_; rintro e w1 ⟨loc, rfl, hpl, hbl⟩; obtain ⟨ao, rfl⟩ := hpl.ptr; have HPL := hideP hpl; have HBL := hideP ((below_alloc w _).trans (hbl.mono (by simp))); clear hpl hbl)
    | (at_builtin; refine wpList_buf_append rfl _ _ _ rfl w1.heap.size _ [] rfl (buf_lit w1 [] _ (by show 0 ≤ maxLen; exact Nat.zero_le _)) _ rfl l.length (bytes l) (HA.out.src _ (HBL.out.trans (((Below.refl _ _).alloc (Nat.le_refl _) _).mono HBL.out.size))) (by simp; omega) (by simp) ?_; intro v1 w2 hv1 hm1; have HV1 := hideP (show Buf w2 w1.heap.size v1 (bytes l) from hv1); have HM1 := hideP (show Moved w1 (.slice (some ⟨w1.heap.size, 0, none⟩) 0 0) w2 v1 from (Moved.below ((Below.refl _ _).alloc (Nat.le_refl _) _) _).trans hm1); have HTB := hideP (show v1.ownBlock ≠ some 0 from (by obtain ⟨g, e1, e2, e3⟩ := hv1.own; have := HLT.out; have := HBL.out.size; rw [e1]; intro e; cases e; omega)); clear hv1 hm1)
    | (go_at_call 60; refine (appendFmt_any t ao w1.heap.size v1 (bytes l) s _ HO.out (HPL.out.under (HM1.out.fresh rfl (Nat.le_refl _))) (HT.out.below (HBL.out.trans ((HM1.out.fresh rfl (Nat.le_refl _)).mono HBL.out.size))) HV1.out HM1.out.grown.size HTB.out HL.out).mono ?_; rintro e w3 ⟨v3, rfl, hb⟩; have HB := hideP hb; clear hb))
  go_ret
  refine ⟨v3, rfl, buf_txt (by rw [bytes_append]; exact HB.out.buf), ?_⟩
  exact HBL.out.trans (((HM1.out.trans HB.out.mov).fresh rfl (Nat.le_refl _)).mono HBL.out.size)
end Go.Proofs.YtigabjibdepoiaaDoor.Tm
namespace Go.Proofs.YtigabjibdepoiaaDoor.Tm
set_option linter.unusedSimpArgs false
set_option linter.unusedVariables false
open Go.RowKit Go
theorem below_dnT {B : Nat} {a w : World} (h : Below B a w) (n : Nat) : Below B a (w.drewN n) := ⟨h.os, h.tape, h.output, h.size, h.block⟩
theorem rint {k : IntKind} {a b : Int} (h : a = b) : Ending.returned (.int k a) = .returned (.int k b) := by rw [h]
set_option maxRecDepth 100000 in
set_option maxHeartbeats 1600000 in
theorem num2_any (g o n cap a b : Nat) (w : World) (hn : 2 ≤ n) (ha : a ≤ 9) (hb : b ≤ 9) (h : 10 * a + b ≤ 23) (c0 : w.cell? ⟨g, o, none⟩ = some (.int .u8 (48 + (a : Int)))) (c1 : w.cell? ⟨g, o + 1, none⟩ = some (.int .u8 (48 + (b : Int)))) :
    Calls Tryd.prog 135 #[.slice (some ⟨g, o, none⟩) n cap] w (fun e w' => e = .returned (.int .u8 (10 * (a : Int) + b)) ∧ Below w.heap.size w w') := by
  have n0 : (0 : Int) < n := by omega
  have n1 : (1 : Int) < n := by omega
  have a1 : (a : Int) ≤ 9 := by omega
  have b1 : (b : Int) ≤ 9 := by omega
  have h1 : 10 * (a : Int) + b ≤ 23 := by omega
  clear hn ha hb h
  go_enter Tryd.func135, Tryd.ntmps135
  go_wp2
  go_quiet (fail)
  go_wp2
  go_ret
  exact ⟨rint (by omega), below_dnT (Below.refl _ _) _⟩
theorem rfcT (t : Tm) (hO : TmOk t) : ∃ A : List UInt8, 5 ≤ A.length ∧ A[4]? = some 45 ∧ ((t.off = 0 ∧ rfcL t true = A ++ [90]) ∨ ∃ (sg : UInt8) (h m : Nat), (sg = 43 ∨ sg = 45) ∧ h ≤ 23 ∧ m ≤ 59 ∧ rfcL t true = A ++ [sg, digC (h / 10), digC (h % 10), 58, digC (m / 10), digC (m % 10)]) := by
  have hy := hO.day.1
  have hy2 := hO.day.2.1
  refine ⟨padL 48 t.y 4 ++ (45 :: (padL 48 t.mo 2 ++ (45 :: (padL 48 t.d 2 ++ (84 :: (padL 48 t.h 2 ++ (58 :: (padL 48 t.mi 2 ++ (58 :: (padL 48 t.s 2 ++ (nanoL t.ns 9 false true))))))))))), ?_, ?_, ?_⟩
  · rw [pad4 (by omega)]; simp only [List.length_append, List.length_cons, List.length_nil]; omega
  · rw [pad4 (by omega)]; rfl
  by_cases h0 : t.off = 0
  · refine .inl ⟨h0, ?_⟩
    unfold rfcL isoL
    rw [if_pos h0, if_pos rfl]
    simp only [List.append_assoc, List.cons_append]
  · have o1 := hO.off0
    have o2 := hO.off1
    refine .inr ⟨sgnL t.off, t.off.natAbs / 3600, t.off.natAbs / 60 % 60, ?_, by omega, by omega, ?_⟩
    · unfold sgnL; split <;> simp
    · unfold rfcL isoL offL
      rw [if_neg h0, if_pos rfl, pad2 (m := t.off.natAbs / 3600) (by omega), pad2 (m := t.off.natAbs / 60 % 60) (by omega)]
      simp
end Go.Proofs.YtigabjibdepoiaaDoor.Tm
namespace Go.Proofs.YtigabjibdepoiaaDoor.Tm
set_option linter.unusedSimpArgs false
set_option linter.unusedVariables false
open Go.RowKit Go
/-- The bytes of a buffer, by places. -/
theorem buf_at {w : World} {base : Nat} {v : Value} {l : List UInt8} (h : Buf w base v (bytes l)) : ∃ g cap, v = .slice (some ⟨g, 0, none⟩) l.length cap ∧ ∀ (i : Nat) (c : UInt8), l[i]? = some c → w.cell? ⟨g, i, none⟩ = some (.int .u8 c.toNat) := by
  have h' := h
  obtain ⟨g, cap, cur, tag, rfl, -⟩ := h
  refine ⟨g, cap, by rw [bytes_length], fun i c hc => ?_⟩
  obtain ⟨hi, rfl⟩ := List.getElem?_eq_some_iff.1 hc
  have := h'.cellAt i (by rw [bytes_length]; exact hi)
  rw [this]
  simp [bytes, u8]
def StrictP (t : Tm) (base : Nat) (v : Value) (w : World) (e : Ending) (w' : World) : Prop := ∃ v', e = .returned (.tuple #[v', .nilIface]) ∧ BSt w v base [] w' v' (rfcL t true) 400
set_option maxRecDepth 100000 in
set_option maxHeartbeats 3200000 in
theorem strict_z (t : Tm) (ao : Option Addr) (base : Nat) (g cap : Nat) (w : World) (hO : TmOk t) (hp : PlaceAt w base t (.pointer ao)) (hv : Buf w base (.slice (some ⟨g, 0, none⟩) 0 cap) []) (hbase : base ≤ w.heap.size) (A : List UInt8) (hA : 5 ≤ A.length) (h4 : A[4]? = some 45) (hoff : t.off = 0) (hL : rfcL t true = A ++ [90]) :
    Calls Tryd.prog 112 #[tmV t (.pointer ao), .slice (some ⟨g, 0, none⟩) 0 cap] w (StrictP t base (.slice (some ⟨g, 0, none⟩) 0 cap) w) := by
  have HO := hideP hO
  have HP := hideP (hp.under ((Below.refl base w).alloc hbase (.cells #[.int .u64 t.ns, .int .i64 (unixOf t + 62135596800), .pointer ao] 61)))
  have HV := hideP (hv.alloc (.cells #[.int .u64 t.ns, .int .i64 (unixOf t + 62135596800), .pointer ao] 61))
  have HBASE := hideP hbase
  have HBASE2 := hideP (show base ≤ (w.alloc (.cells #[.int .u64 t.ns, .int .i64 (unixOf t + 62135596800), .pointer ao] 61)).heap.size by simp; omega)
  have HBL := hideP (below_alloc w (.cells #[.int .u64 t.ns, .int .i64 (unixOf t + 62135596800), .pointer ao] 61))
  have H4 := hideP h4
  have HLL := hideP hL
  clear hO hp hv hbase h4 hL hoff
  unfold tmV
  go_enter Tryd.func112, Tryd.ntmps112
  go_wp2_with (fail)
  refine (rfc_any t ao base (.slice (some ⟨g, 0, none⟩) 0 cap) [] true _ HO.out HP.out HV.out HBASE2.out (by decide)).mono ?_
  rintro e w1 ⟨v1, rfl, hb⟩
  obtain ⟨g1, cap1, rfl, hc⟩ := buf_at (l := rfcL t true) hb.buf
  have HB := hideP hb
  clear hb
  have hl : (rfcL t true).length = A.length + 1 := by rw [HLL.out]; simp
  have d4 : w1.cell? ⟨g1, 4, none⟩ = some (.int .u8 45) := hc 4 45 (by rw [HLL.out, List.getElem?_append_left (by omega)]; exact H4.out)
  have dl : w1.cell? ⟨g1, A.length, none⟩ = some (.int .u8 90) := hc A.length 90 (by rw [HLL.out]; simp)
  have hm : (A.length : Int) ≤ 1000 := by have := HB.out.len; rw [hl] at this; simp at this; omega
  rw [hl]
  clear hc
  go_wp2
  go_ret2
  refine ⟨_, rfl, ?_⟩
  have h := HB.out
  rw [hl] at h
  exact bst_rebase h HBL.out HBASE.out
set_option maxRecDepth 100000 in
set_option maxHeartbeats 3200000 in
theorem strict_o (t : Tm) (ao : Option Addr) (base : Nat) (g cap : Nat) (w : World) (hO : TmOk t) (hp : PlaceAt w base t (.pointer ao)) (hv : Buf w base (.slice (some ⟨g, 0, none⟩) 0 cap) []) (hbase : base ≤ w.heap.size) (A : List UInt8) (hA : 5 ≤ A.length) (h4 : A[4]? = some 45) (sg : UInt8) (hh mm a b c d : Nat) (hsg : sg = 43 ∨ sg = 45) (ha : a ≤ 9) (hb9 : b ≤ 9) (hab : 10 * a + b ≤ 23) (hd : d ≤ 9) (hL : rfcL t true = A ++ [sg, digC a, digC b, 58, digC c, digC d]) :
    Calls Tryd.prog 112 #[tmV t (.pointer ao), .slice (some ⟨g, 0, none⟩) 0 cap] w (StrictP t base (.slice (some ⟨g, 0, none⟩) 0 cap) w) := by
  have HO := hideP hO
  have HP := hideP (hp.under ((Below.refl base w).alloc hbase (.cells #[.int .u64 t.ns, .int .i64 (unixOf t + 62135596800), .pointer ao] 61)))
  have HV := hideP (hv.alloc (.cells #[.int .u64 t.ns, .int .i64 (unixOf t + 62135596800), .pointer ao] 61))
  have HBASE := hideP hbase
  have HBASE2 := hideP (show base ≤ (w.alloc (.cells #[.int .u64 t.ns, .int .i64 (unixOf t + 62135596800), .pointer ao] 61)).heap.size by simp; omega)
  have HBL := hideP (below_alloc w (.cells #[.int .u64 t.ns, .int .i64 (unixOf t + 62135596800), .pointer ao] 61))
  have H4 := hideP h4
  have HLL := hideP hL
  clear hO hp hv hbase h4 hL
  unfold tmV
  go_enter Tryd.func112, Tryd.ntmps112
  go_wp2_with (fail)
  refine (rfc_any t ao base (.slice (some ⟨g, 0, none⟩) 0 cap) [] true _ HO.out HP.out HV.out HBASE2.out (by decide)).mono ?_
  rintro e w1 ⟨v1, rfl, hb⟩
  obtain ⟨g1, cap1, rfl, hc⟩ := buf_at (l := rfcL t true) hb.buf
  have HB := hideP hb
  clear hb
  have hl : (rfcL t true).length = A.length + 6 := by rw [HLL.out]; simp
  have d4 : w1.cell? ⟨g1, 4, none⟩ = some (.int .u8 45) := hc 4 45 (by rw [HLL.out, List.getElem?_append_left (by omega)]; exact H4.out)
  have dl : w1.cell? ⟨g1, A.length + 5, none⟩ = some (.int .u8 (48 + (d : Int))) := by
    rw [hc (A.length + 5) (digC d) (by rw [HLL.out]; simp), digC_nat (by omega)]; simp
  have d0 : w1.cell? ⟨g1, A.length, none⟩ = some (.int .u8 sg.toNat) := hc A.length sg (by rw [HLL.out]; simp)
  have d1 : w1.cell? ⟨g1, A.length + 1, none⟩ = some (.int .u8 (48 + (a : Int))) := by
    rw [hc (A.length + 1) (digC a) (by rw [HLL.out]; simp), digC_nat (by omega)]; simp
  have d2 : w1.cell? ⟨g1, A.length + 1 + 1, none⟩ = some (.int .u8 (48 + (b : Int))) := by
    rw [hc (A.length + 2) (digC b) (by rw [HLL.out]; simp), digC_nat (by omega)]; simp
  have bd : (d : Int) ≤ 9 := by omega
  have bab : 10 * (a : Int) + b ≤ 23 := by omega
  have bcap : A.length + 6 ≤ cap1 := by have := HB.out.buf; obtain ⟨_, _, _, _, e, _, _, h6, _⟩ := this; simp only [Value.slice.injEq] at e; obtain ⟨-, e1, rfl⟩ := e; rw [← hl, e1]; exact h6
  have bcap2 : (A.length : Int) + 6 ≤ cap1 := by omega
  have hne : ((48 + (d : Int)) != 90) = true := by rw [bne, beq_eq_false_iff_ne.2 (by omega)]; rfl
  have hlt : ¬ (24 ≤ 10 * (a : Int) + b) := by omega
  have hm : (A.length : Int) ≤ 1000 := by have := HB.out.len; rw [hl] at this; simp at this; omega
  rw [hl]
  clear hc
  rcases hsg with rfl | rfl
  all_goals (
    go_wp2_with (first
      | (go_at_call 135; refine (num2_any g1 (A.length + 1) _ _ a b _ (by omega) ha hb9 hab (by assumption) (by assumption)).mono ?_; rintro e w2 ⟨rfl, hb2⟩; have HB2 := hideP hb2; clear hb2)
      | fail))
  all_goals (
    go_ret2
    refine ⟨_, rfl, ?_⟩
    have h := HB.out.below HB2.out
    rw [hl] at h
    exact bst_rebase h HBL.out HBASE.out)
theorem strict_any (t : Tm) (ao : Option Addr) (base : Nat) (g cap : Nat) (w : World) (hO : TmOk t) (hp : PlaceAt w base t (.pointer ao)) (hv : Buf w base (.slice (some ⟨g, 0, none⟩) 0 cap) []) (hbase : base ≤ w.heap.size) :
    Calls Tryd.prog 112 #[tmV t (.pointer ao), .slice (some ⟨g, 0, none⟩) 0 cap] w (StrictP t base (.slice (some ⟨g, 0, none⟩) 0 cap) w) := by
  obtain ⟨A, hA, h4, ⟨h0, hL⟩ | ⟨sg, h, m, hsg, hh, hm, hL⟩⟩ := rfcT t hO
  · exact strict_z t ao base g cap w hO hp hv hbase A hA h4 h0 hL
  · exact strict_o t ao base g cap w hO hp hv hbase A hA h4 sg h m (h / 10) (h % 10) (m / 10) (m % 10) hsg (by omega) (by omega) (by omega) (by omega) hL
set_option maxRecDepth 100000 in
set_option maxHeartbeats 3200000 in
theorem appTo_any (t : Tm) (ao : Option Addr) (base : Nat) (g cap : Nat) (s : ByteArray) (w : World) (hO : TmOk t) (hp : PlaceAt w base t (.pointer ao)) (hv : Buf w base (.slice (some ⟨g, 0, none⟩) 0 cap) []) (hbase : base ≤ w.heap.size) :
    Calls Tryd.prog 85 #[tmV t (.pointer ao), .slice (some ⟨g, 0, none⟩) 0 cap, .string s] w (StrictP t base (.slice (some ⟨g, 0, none⟩) 0 cap) w) := by
  have HO := hideP hO
  have HP := hideP (hp.under ((Below.refl base w).alloc hbase (.cells #[.int .u64 t.ns, .int .i64 (unixOf t + 62135596800), .pointer ao] 61)))
  have HV := hideP (hv.alloc (.cells #[.int .u64 t.ns, .int .i64 (unixOf t + 62135596800), .pointer ao] 61))
  have HBASE := hideP hbase
  have HBASE2 := hideP (show base ≤ (w.alloc (.cells #[.int .u64 t.ns, .int .i64 (unixOf t + 62135596800), .pointer ao] 61)).heap.size by simp; omega)
  have HBL := hideP (below_alloc w (.cells #[.int .u64 t.ns, .int .i64 (unixOf t + 62135596800), .pointer ao] 61))
  clear hO hp hv hbase
  unfold tmV
  go_enter Tryd.func85, Tryd.ntmps85
  go_wp2_with (fail)
  refine (strict_any t ao base g cap _ HO.out HP.out HV.out HBASE2.out).mono ?_
  rintro e w1 ⟨v1, rfl, hb⟩
  have HB := hideP hb
  clear hb
  go_wp2
  go_ret2
  exact ⟨_, rfl, bst_rebase HB.out HBL.out HBASE.out⟩
end Go.Proofs.YtigabjibdepoiaaDoor.Tm
namespace Go.Proofs.YtigabjibdepoiaaDoor.Tm
set_option linter.unusedSimpArgs false
set_option linter.unusedVariables false
open Go.RowKit Go
set_option maxRecDepth 100000 in
set_option maxHeartbeats 3200000 in
theorem marsh_any (t : Tm) (ao : Option Addr) (w : World) (hO : TmOk t) (hp : PlaceAt w w.heap.size t (.pointer ao)) :
    Calls Tryd.prog 62 #[tmV t (.pointer ao)] w (fun e w' => ∃ v', e = .returned (.tuple #[v', .nilIface]) ∧ (∀ w2, Below w'.heap.size w' w2 → (convert 51 9 v').run Tryd.prog w2 = .ok (.string (mkB (rfcL t true))) w2) ∧ Below w.heap.size w w') := by
  have HO := hideP hO
  have HP := hideP hp
  clear hO hp
  unfold tmV
  go_enter Tryd.func62, Tryd.ntmps62
  go_wp2_with (fail)
  obtain ⟨i8, hi, hz, hi1, hi2⟩ := info_parts info8
  obtain ⟨W, hW⟩ : ∃ W, W = w.alloc (.cells #[.int .u64 t.ns, .int .i64 (unixOf t + 62135596800), .pointer ao] 61) := ⟨_, rfl⟩
  have hsz : W.drew.heap.size = w.heap.size + 1 := by rw [hW]; simp
  have q0 : W.drew.cell? ⟨w.heap.size, 0, none⟩ = some (.int .u64 t.ns) := by rw [hW]; exact cell_of_row _ _ 0 _ _ (0, 0) (heap_alloc_new w _)
  have q1 : W.drew.cell? ⟨w.heap.size, 1, none⟩ = some (.int .i64 (unixOf t + 62135596800)) := by rw [hW]; exact cell_of_row _ _ 1 _ _ (0, 0) (heap_alloc_new w _)
  have q2 : W.drew.cell? ⟨w.heap.size, 2, none⟩ = some (.pointer ao) := by rw [hW]; exact cell_of_row _ _ 2 _ _ (0, 0) (heap_alloc_new w _)
  have HBW := hideP (show Below w.heap.size w W.drew by rw [hW]; exact (below_alloc w _).drew)
  obtain ⟨w1, hrun, hown, hgrow⟩ := run_make_own (P := Tryd.prog) (w := W.drew) w.heap.size 51 5 i8 (.int .u8 0) 1 Tryd.underlying51 hi hz hi1 .i64 .i64 35 (by rw [hi2]; decide) (by decide) (by omega)
  have hrun2 : (Instr.makeSlice 51 (.int .i64 0) (.int .i64 35)).run Tryd.prog W.drew = .ok (.slice (some ⟨w.heap.size + 1, 0, none⟩) 0 35) w1 := by rw [← hsz]; exact hrun
  have HV := hideP (show Buf w1 w.heap.size (.slice (some ⟨w.heap.size + 1, 0, none⟩) 0 35) [] by rw [← hsz]; exact buf_of_own hown)
  have HG := hideP (HBW.out.trans ((grown_below2 hgrow).mono (by rw [hsz]; omega)))
  have p0 : w1.cell? ⟨w.heap.size, 0, none⟩ = some (.int .u64 t.ns) := ((grown_below2 hgrow).cell (by rw [hsz]; simp)).trans q0
  have p1 : w1.cell? ⟨w.heap.size, 1, none⟩ = some (.int .i64 (unixOf t + 62135596800)) := ((grown_below2 hgrow).cell (by rw [hsz]; simp)).trans q1
  have p2 : w1.cell? ⟨w.heap.size, 2, none⟩ = some (.pointer ao) := ((grown_below2 hgrow).cell (by rw [hsz]; simp)).trans q2
  rw [← hW]
  clear hrun hown hgrow hsz hW hi hz hi1 hi2
  go_region_with (first
    | (go_at_call 85; refine (appTo_any t ao w.heap.size (w.heap.size + 1) 35 _ _ HO.out (HP.out.under HG.out) HV.out HG.out.size).mono ?_; rintro e w2 ⟨v2, rfl, hb⟩; have HB := hideP hb; clear hb))
  all_goals (
    go_wp2
    go_ret2
    refine ⟨v2, rfl, buf_txt (by have h := HB.out.buf; simpa using h), HG.out.trans (HB.out.below_base HV.out)⟩)
set_option maxRecDepth 100000 in
set_option maxHeartbeats 800000 in
theorem textOf_any (t : Tm) (w : World) (hO : TmOk t) :
    Calls Tryd.prog 39 #[cvV t] w (fun e w' => e = .returned (.tuple #[.string (mkB (rfcL t true)), .bool true]) ∧ Below w.heap.size w w') := by
  have HO := hideP hO
  clear hO
  unfold cvV
  go_enter Tryd.func39, Tryd.ntmps39
  go_wp2_with (first
    | (go_at_call 51; refine (at_any t _ HO.out).mono ?_; rintro e w1 ⟨loc, rfl, hpl, hbl⟩; obtain ⟨ao, rfl⟩ := hpl.ptr; have HPL := hideP hpl; have HBL := hideP ((below_alloc w _).trans (hbl.mono (by simp))); clear hpl hbl)
    | (go_at_call 62; refine (marsh_any t ao _ HO.out HPL.out).mono ?_; rintro e w2 ⟨v2, rfl, hcv, hb⟩; have HB := hideP hb; have hc2 := hcv _ ((Below.refl _ _).drew); have HCV := hideP hcv; clear hb hcv))
  go_region_with (fail)
  all_goals go_wp2
  all_goals go_ret2
  all_goals exact ⟨rfl, HBL.out.trans ((HB.out.mono HBL.out.size).drew)⟩
end Go.Proofs.YtigabjibdepoiaaDoor.Tm
namespace Go.Proofs.YtigabjibdepoiaaDoor.Tm
set_option linter.unusedSimpArgs false
set_option linter.unusedVariables false
open Go.RowKit Go
def litT : ByteArray := ⟨#[50, 48, 48, 54, 45, 48, 49, 45, 48, 50, 84, 49, 53, 58, 48, 52, 58, 48, 53, 46, 57, 57, 57, 57, 57, 57, 57, 57, 57, 90, 48, 55, 58, 48, 48]⟩
def psT : List Pc := [⟨1, ⟨#[]⟩, 0, false⟩, ⟨0, ⟨#[45]⟩, 0, false⟩, ⟨5, ⟨#[]⟩, 0, false⟩, ⟨0, ⟨#[45]⟩, 0, false⟩, ⟨11, ⟨#[]⟩, 0, false⟩, ⟨0, ⟨#[84]⟩, 0, false⟩, ⟨14, ⟨#[]⟩, 0, false⟩, ⟨0, ⟨#[58]⟩, 0, false⟩, ⟨18, ⟨#[]⟩, 0, false⟩, ⟨0, ⟨#[58]⟩, 0, false⟩, ⟨20, ⟨#[]⟩, 0, false⟩, ⟨34, ⟨#[]⟩, 9, false⟩, ⟨28, ⟨#[]⟩, 0, false⟩]
theorem psT_ok : PcsOk psT := by
  refine ⟨by decide, fun p hp => ?_⟩
  simp only [psT, List.mem_cons, List.not_mem_nil, or_false] at hp
  rcases hp with rfl | rfl | rfl | rfl | rfl | rfl | rfl | rfl | rfl | rfl | rfl | rfl | rfl
  all_goals exact ⟨by decide, by decide, by decide⟩
set_option maxRecDepth 100000 in
theorem txtT (t : Tm) (hO : TmOk t) : fmtL t (bl litT) = writAll t psT := by
  have h : fmtL t (bl litT) = elemL t 275 ++ (45 :: (elemL t 260 ++ (45 :: (elemL t 265 ++ (84 :: (elemL t 1036 ++ (58 :: (elemL t 1040 ++ (58 :: (elemL t 1042 ++ (elemL t 589859 ++ (elemL t 27 ++ ([]))))))))))))) := by kernel_rfl
  rw [h, el_1 t, el_5 t, el_11 t, el_14 t, el_18 t, el_20 t, el_34 t 589859 9 false ⟨rfl, by decide, by decide⟩, el_28 t]
  rfl
set_option maxRecDepth 100000 in
set_option maxHeartbeats 400000 in
theorem rowT (w : World) : Calls Tryd.prog 34 #[] w (RowTo psT w) := by
  go_enter Tryd.func34, Tryd.ntmps34
  go_wp2
  go_ret
  exact row_new psT w _ _ rfl
set_option maxRecDepth 100000 in
theorem txtN (t : Tm) : fmtL t (bl litT) = rfcL t true := by
  have h : fmtL t (bl litT) = padL 48 t.y 4 ++ (45 :: (padL 48 t.mo 2 ++ (45 :: (padL 48 t.d 2 ++ (84 :: (padL 48 t.h 2 ++ (58 :: (padL 48 t.mi 2 ++ (58 :: (padL 48 t.s 2 ++ (nanoL t.ns 9 false true ++ (isoL t.off true false true ++ [])))))))))))) := by kernel_rfl
  rw [h]; unfold rfcL; simp
set_option maxRecDepth 100000 in
set_option maxHeartbeats 1600000 in
theorem lawText (c : Cv) (w : World) (hT : TabOk w) : Calls Tryd.prog 15 #[civV c] w (TrueTo w) := by
  by_cases hciv : CivP c
  case neg =>
    have HN := hideP hciv
    clear hciv hT
    obtain ⟨V, hV⟩ : ∃ V, V = c := ⟨_, rfl⟩
    have FT := fits3_any c; have CO := civilOk_any c
    unfold civV at FT CO ⊢
    go_enter Tryd.func15, Tryd.ntmps15
    go_wp2_with (first
      | (go_at_call 20; refine (FT _).mono ?_; rintro e w1 (⟨rfl, hz, hb⟩ | ⟨rfl, hb⟩) <;> (try (have HZ := hideP hz; clear hz)) <;> (have HB := hideP hb; have HCB := hideP ((cvb_new c w 28).kept hb); obtain ⟨c0, c1, c2, c3, c4, c5, c6, c7, c8⟩ := HCB.out; clear hb))
      | (go_at_call 34; refine (rowT _).mono ?_; rintro e w2 ⟨g, cap, rfl, -, hb⟩; have HB2 := hideP hb; obtain ⟨c0', c1', c2', c3', c4', c5', c6', c7', c8'⟩ := HCB.out.kept hb; clear hb)
      | (go_at_call 22; refine (CO _ (Nat.le_trans HZ.out (by decide))).mono ?_; rintro e w3 (⟨rfl, h, -⟩ | ⟨rfl, hb⟩); exact absurd h HN.out; have HB3 := hideP hb; clear hb))
    all_goals go_ret
    · exact ⟨rfl, ((below_alloc w _).trans (HB.out.mono (by simp))).trans ((HB2.out.trans (HB3.out.mono HB2.out.size)).mono (Nat.le_trans (by simp) HB.out.size))⟩
    · exact ⟨rfl, (below_alloc w _).trans (HB.out.mono (by simp))⟩
  obtain ⟨t, hO, hcv⟩ := civ_tm hciv
  have FT := fits3_any c; have CO := civilOk_any c
  rw [hcv] at FT CO ⊢
  have HO := hideP hO
  have HT := hideP hT
  have htx : rfcL t true = writAll t psT := (txtN t).symm.trans (txtT t hO)
  clear hO hT hcv hciv
  unfold cvV at FT CO ⊢
  go_enter Tryd.func15, Tryd.ntmps15
  go_wp2_with (first
    | (go_at_call 20; refine (FT _).mono ?_; rintro e w1 (⟨rfl, hz, hb⟩ | ⟨rfl, hb⟩) <;> (try (have HZ := hideP hz; clear hz)) <;> (have HB := hideP hb; have HCB := hideP ((cb_new t w 28).kept hb); obtain ⟨c0, c1, c2, c3, c4, c5, c6, c7, c8⟩ := HCB.out; have HW := hideP ((below_alloc w _).trans (hb.mono (by simp))); clear hb))
    | (go_at_call 34; refine (rowT _).mono ?_; rintro e w2 ⟨g, cap, rfl, hp, hb⟩; have HCB := hideP (HCB.out.kept hb); have HP := hideP hp; have HW := hideP (HW.out.trans (hb.mono HW.out.size)); obtain ⟨c0', c1', c2', c3', c4', c5', c6', c7', c8'⟩ := HCB.out; clear hb hp)
    | (go_at_call 22; refine (CO _ (Nat.le_trans HZ.out (by decide))).mono ?_; rintro e w3 (⟨rfl, -, hb⟩ | ⟨rfl, hb⟩) <;> (have HCB := hideP (HCB.out.kept hb); have HP := hideP (HP.out.kept hb); have HW := hideP (HW.out.trans (hb.mono HW.out.size)); obtain ⟨c0'', c1'', c2'', c3'', c4'', c5'', c6'', c7'', c8''⟩ := HCB.out; clear hb))
    | (go_at_call 23; refine (Fits_any t HO.out psT g cap _ psT_ok HP.out).mono ?_; rintro e w4 ⟨b, rfl, hb⟩; have HCB := hideP (HCB.out.kept hb); have HP := hideP (HP.out.kept hb); have HW := hideP (HW.out.trans (hb.mono HW.out.size)); obtain ⟨c0''', c1''', c2''', c3''', c4''', c5''', c6''', c7''', c8'''⟩ := HCB.out; clear hb; cases b)
    | fail)
  all_goals first
    | (go_wp2_with (fail); go_ret; exact ⟨rfl, HW.out⟩)
    | skip
  have HX := hideP (show mkB (rfcL t true) = mkB (writAll t psT) from congrArg mkB htx)
  clear htx c0 c1 c2 c3 c4 c5 c6 c7 c8 c0' c1' c2' c3' c4' c5' c6' c7' c8' c0'' c1'' c2'' c3'' c4'' c5'' c6'' c7'' c8'' FT CO
  generalize hF : mkB (writAll t psT) = X at HX
  have HFX := hideP hF
  clear hF
  have hXX : (X.toList == X.toList) = true := beq_self_eq_true _
  have HC := hideP (Below.refl w4.heap.size w4)
  go_wp2_with (first
    | (go_at_call 39; refine (textOf_any t _ HO.out).mono ?_; rintro e w5 ⟨rfl, hb⟩; rw [HX.out]; have HC := hideP (HC.out.trans (hb.mono HC.out.size)); obtain ⟨d0, d1, d2, d3, d4, d5, d6, d7, d8⟩ := HCB.out.kept HC.out; clear hb)
    | (go_at_call 26; refine (Written_any t HO.out psT g cap _ psT_ok (HP.out.kept HC.out)).mono ?_; rintro e w6 ⟨x, rfl, -, hbl, hb⟩; obtain rfl : x = X := (by rw [← HFX.out]; exact ba_ext (hbl.trans (bl_mkB _).symm)); have HC := hideP (HC.out.trans (hb.mono HC.out.size)); obtain ⟨d0, d1, d2, d3, d4, d5, d6, d7, d8⟩ := HCB.out.kept HC.out; clear hb)
    | (go_at_call 27; refine (writes_any _ (HT.out.below (HW.out.trans (HC.out.mono HW.out.size)))).mono ?_; rintro e w7 ⟨rfl, hb⟩; have HC := hideP (HC.out.trans (hb.mono HC.out.size)); obtain ⟨d0, d1, d2, d3, d4, d5, d6, d7, d8⟩ := HCB.out.kept HC.out; clear hb)
    | fail)
  all_goals (go_wp2; go_ret; exact ⟨by simp, HW.out.trans (HC.out.mono HW.out.size)⟩)
end Go.Proofs.YtigabjibdepoiaaDoor.Tm
