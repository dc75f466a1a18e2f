/- A slice of bytes that came in. The walks of RFC3339 and AppendFormat from outside: onto a copy of the bytes that came in. The law FnAppendAny: its walk. A slice of bytes among the arguments of a row. -/
import Derived.Test.YtigabjibdepoiaaDoorAppAny
import Derived.Test.YtigabjibdepoiaaDoorPad
import Derived.Test.YtigabjibdepoiaaDoorFmtV
import Derived.Deep.RegionWith
import Derived.Test.YtigabjibdepoiaaDoorLayK
import Derived.ChangeSlices
import Derived.Test.YtigabjibdepoiaaDoorRowKit
namespace Go.Proofs.YtigabjibdepoiaaDoor.Tm
set_option linter.unusedSimpArgs false
set_option linter.unusedVariables false
open Go.RowKit Go
/-- A slice of bytes that came in: its bytes are l, now and in every world in which only new blocks stand. -/
structure ArgB (w : World) (v : Value) (l : List UInt8) : Prop where
  src : ∀ w', Below w.heap.size w w' → Src Tryd.prog 1 51 v l.length (bytes l) w'
  txt : ∀ w', Below w.heap.size w w' → (convert 51 9 v).run Tryd.prog w' = .ok (.string (mkB l)) w'
  shape : ∃ ao cap, v = .slice ao l.length cap
theorem ArgB.below {w w1 : World} {v : Value} {l : List UInt8} (h : ArgB w v l) (hb : Below w.heap.size w w1) : ArgB w1 v l :=
  ⟨fun w' hb' => h.src w' (hb.trans (hb'.mono hb.size)), fun w' hb' => h.txt w' (hb.trans (hb'.mono hb.size)), h.shape⟩
theorem argB_nil (w : World) : ArgB w (.slice none 0 0) [] :=
  ⟨fun w' _ => Src.ofNil w' Tryd.underlying51 0, fun w' _ => run_convert_bytes_nil w' 51 5 Tryd.underlying51 Tryd.underlying5 0 0 9 Tryd.underlying9, ⟨none, 0, rfl⟩⟩
theorem argB_some (w : World) (a : Addr) (cap : Nat) (l : List UInt8) (ha : 0 < l.length → a.block < w.heap.size) (hc : ∀ j (hj : j < l.length), w.cell? (a.add j) = some (.int .u8 l[j].toNat)) : ArgB w (.slice (some a) l.length cap) l := by
  have key : ∀ w', Below w.heap.size w w' → ∀ j (hj : j < l.length), w'.cell? (a.add j) = some (.int .u8 l[j].toNat) := fun w' hb j hj =>
    (hb.cell (p := a.add j) (by have : (a.add j).block = a.block := by unfold Addr.add; split <;> rfl
                                have := ha (by omega)
                                omega)).trans (hc j hj)
  refine ⟨fun w' hb => Src.ofSlice w' Tryd.underlying51 a l.length cap (bytes l) (by rw [bytes_length, Nat.mul_one]) (fun j u hj => ?_) (bytes_one l), fun w' hb => ?_, ⟨some a, cap, rfl⟩⟩
  · have hjl : j < l.length := by rw [← bytes_length l]; exact (List.getElem?_eq_some_iff.1 hj).1
    rw [key w' hb j hjl]
    simp only [bytes, List.getElem?_map, List.getElem?_eq_getElem hjl, Option.map_some] at hj
    exact hj
  · exact run_convert_bytes_back (P := Tryd.prog) w' 51 9 5 a cap l Tryd.underlying51 Tryd.underlying5 Tryd.underlying9 (key w' hb)
theorem Moved.fresh {w w' : World} {v v' : Value} {g : Nat} (h : Moved w v w' v') (hv : v.ownBlock = some g) (hg : w.heap.size ≤ g) : Below w.heap.size w w' :=
  ⟨h.grown.os, h.grown.tape, h.grown.output, h.grown.size, fun k hk => h.grown.block k hk (by rw [hv]; intro e; cases e; omega)⟩
def AppPost (l : List UInt8) (w : World) (e : Ending) (w' : World) : Prop := ∃ v', e = .returned v' ∧ Buf w' w.heap.size v' (bytes l) ∧ Below w.heap.size w w'
end Go.Proofs.YtigabjibdepoiaaDoor.Tm
namespace Go.Proofs.YtigabjibdepoiaaDoor.Tm
set_option linter.unusedSimpArgs false
set_option linter.unusedVariables false
open Go.RowKit Go
set_option maxRecDepth 100000 in
set_option maxHeartbeats 1600000 in
theorem rfcPub_any (t : Tm) (ao : Option Addr) (base : Nat) (v : Value) (xs : List Value) (nanos : Bool) (w : World) (hO : TmOk t) (hp : PlaceAt w base t (.pointer ao)) (hv : Buf w base v xs) (hbase : base ≤ w.heap.size) (hlen : xs.length + 1000 ≤ 140737488351232) :
    Calls Tryd.prog 61 #[tmV t (.pointer ao), v, .bool nanos] w (BPost w v base xs (rfcL t nanos) (xs.length + 400)) := by
  have HO := hideP hO
  have HP := hideP (hp.under ((Below.refl base w).alloc hbase (.cells #[.int .u64 t.ns, .int .i64 (unixOf t + 62135596800), .pointer ao] 61)))
  have HV := hideP (hv.alloc (.cells #[.int .u64 t.ns, .int .i64 (unixOf t + 62135596800), .pointer ao] 61))
  have HBASE := hideP hbase
  have HBASE2 := hideP (show base ≤ (w.alloc (.cells #[.int .u64 t.ns, .int .i64 (unixOf t + 62135596800), .pointer ao] 61)).heap.size by simp; omega)
  have HLEN := hideP hlen
  have HBL := hideP (below_alloc w (.cells #[.int .u64 t.ns, .int .i64 (unixOf t + 62135596800), .pointer ao] 61))
  clear hO hp hv hbase hlen
  unfold tmV
  go_enter Tryd.func61, Tryd.ntmps61
  go_wp2_with (go_at_call 83; refine (rfc_any t ao base v xs nanos _ HO.out HP.out HV.out HBASE2.out HLEN.out).mono ?_; rintro e w1 ⟨v1, rfl, hb⟩; have HB := hideP hb; clear hb)
  go_ret
  exact ⟨v1, rfl, bst_rebase HB.out HBL.out HBASE.out⟩
/-- A slice of bytes whose text is l. -/
def TxtOf (l : List UInt8) (w : World) (e : Ending) (w' : World) : Prop := ∃ v', e = .returned v' ∧ (∀ w2, Below w'.heap.size w' w2 → (convert 51 9 v').run Tryd.prog w2 = .ok (.string (mkB l)) w2) ∧ Below w.heap.size w w'
theorem buf_txt {w' : World} {base : Nat} {v : Value} {l : List UInt8} (h : Buf w' base v (bytes l)) : ∀ w2, Below w'.heap.size w' w2 → (convert 51 9 v).run Tryd.prog w2 = .ok (.string (mkB l)) w2 := fun w2 hb => run_string_buf w2 _ v _ (h.kept hb)
set_option maxRecDepth 100000 in
set_option maxHeartbeats 1600000 in
theorem rfcImpl_any (t : Tm) (vb : Value) (l : List UInt8) (nanos : Bool) (w : World) (hO : TmOk t) (hl : l.length ≤ 1048576) (hv : ArgB w vb l) :
    Calls Tryd.prog 38 #[cvV t, vb, .bool nanos] w (TxtOf (l ++ rfcL t nanos) w) := by
  have HO := hideP hO
  have HA := hideP hv
  have HL := hideP (show (bytes l).length + 1000 ≤ 140737488351232 by rw [bytes_length]; omega)
  clear hO hv
  unfold cvV
  go_enter Tryd.func38, Tryd.ntmps38
  go_wp2_with (first
    | (go_at_call 51; refine (at_any t _ HO.out).mono ?_; rintro e w1 ⟨loc, rfl, hpl, hbl⟩; obtain ⟨ao, rfl⟩ := hpl.ptr; have HPL := hideP hpl; have HBL := hideP ((below_alloc w _).trans (hbl.mono (by simp))); clear hpl hbl)
    | (at_builtin; refine wpList_buf_append rfl _ _ _ rfl w1.heap.size _ [] rfl (buf_lit w1 [] _ (by show 0 ≤ maxLen; exact Nat.zero_le _)) _ rfl l.length (bytes l) (HA.out.src _ (HBL.out.trans (((Below.refl _ _).alloc (Nat.le_refl _) _).mono HBL.out.size))) (by simp; omega) (by simp) ?_; intro v1 w2 hv1 hm1; have HV1 := hideP (show Buf w2 w1.heap.size v1 (bytes l) from hv1); have HM1 := hideP (show Moved w1 (.slice (some ⟨w1.heap.size, 0, none⟩) 0 0) w2 v1 from (Moved.below ((Below.refl _ _).alloc (Nat.le_refl _) _) _).trans hm1); clear hv1 hm1)
    | (go_at_call 61; refine (rfcPub_any t ao w1.heap.size v1 (bytes l) nanos _ HO.out (HPL.out.under (HM1.out.fresh rfl (Nat.le_refl _))) HV1.out HM1.out.grown.size HL.out).mono ?_; rintro e w3 ⟨v3, rfl, hb⟩; have HB := hideP hb; clear hb))
  go_ret
  refine ⟨v3, rfl, buf_txt (by rw [bytes_append]; exact HB.out.buf), ?_⟩
  exact HBL.out.trans (((HM1.out.trans HB.out.mov).fresh rfl (Nat.le_refl _)).mono HBL.out.size)
set_option maxRecDepth 100000 in
set_option maxHeartbeats 1600000 in
theorem appFImpl_any (t : Tm) (vb : Value) (l : List UInt8) (s : ByteArray) (w : World) (hO : TmOk t) (hT : TabOk w) (hl : l.length ≤ 1048576) (hs : s.size ≤ 2147483647) (hv : ArgB w vb l) :
    Calls Tryd.prog 37 #[vb, cvV t, .string s] w (TxtOf (l ++ fmtL t (bl s)) w) := by
  have HO := hideP hO
  have HA := hideP hv
  have HT := hideP hT
  have HLT := hideP hT.lt
  have HL := hideP (show (bytes l).length + 102 * s.size + 3000 ≤ 140737488351232 by rw [bytes_length]; omega)
  clear hO hv hT
  unfold cvV
  go_enter Tryd.func37, Tryd.ntmps37
  go_wp2_with (first
    | (go_at_call 51; refine (at_any t _ HO.out).mono ?_; rintro e w1 ⟨loc, rfl, hpl, hbl⟩; obtain ⟨ao, rfl⟩ := hpl.ptr; have HPL := hideP hpl; have HBL := hideP ((below_alloc w _).trans (hbl.mono (by simp))); clear hpl hbl)
    | (at_builtin; refine wpList_buf_append rfl _ _ _ rfl w1.heap.size _ [] rfl (buf_lit w1 [] _ (by show 0 ≤ maxLen; exact Nat.zero_le _)) _ rfl l.length (bytes l) (HA.out.src _ (HBL.out.trans (((Below.refl _ _).alloc (Nat.le_refl _) _).mono HBL.out.size))) (by simp; omega) (by simp) ?_; intro v1 w2 hv1 hm1; have HV1 := hideP (show Buf w2 w1.heap.size v1 (bytes l) from hv1); have HM1 := hideP (show Moved w1 (.slice (some ⟨w1.heap.size, 0, none⟩) 0 0) w2 v1 from (Moved.below ((Below.refl _ _).alloc (Nat.le_refl _) _) _).trans hm1); have HTB := hideP (show v1.ownBlock ≠ some 0 from (by obtain ⟨g, e1, e2, e3⟩ := hv1.own; have := HLT.out; have := HBL.out.size; rw [e1]; intro e; cases e; omega)); clear hv1 hm1)
    | (go_at_call 60; refine (appendFmt_any t ao w1.heap.size v1 (bytes l) s _ HO.out (HPL.out.under (HM1.out.fresh rfl (Nat.le_refl _))) (HT.out.below (HBL.out.trans ((HM1.out.fresh rfl (Nat.le_refl _)).mono HBL.out.size))) HV1.out HM1.out.grown.size HTB.out HL.out).mono ?_; rintro e w3 ⟨v3, rfl, hb⟩; have HB := hideP hb; clear hb))
  go_ret
  refine ⟨v3, rfl, buf_txt (by rw [bytes_append]; exact HB.out.buf), ?_⟩
  exact HBL.out.trans (((HM1.out.trans HB.out.mov).fresh rfl (Nat.le_refl _)).mono HBL.out.size)
end Go.Proofs.YtigabjibdepoiaaDoor.Tm
namespace Go.Proofs.YtigabjibdepoiaaDoor.Tm
set_option linter.unusedSimpArgs false
set_option linter.unusedVariables false
open Go.RowKit Go
set_option maxRecDepth 100000 in
set_option maxHeartbeats 6400000 in
theorem lawAppAny (vb : Value) (l : List UInt8) (s : ByteArray) (c : Cv) (w : World) (hv : ArgB w vb l) (hs : s.size ≤ 140737488351232) (hT : TabOk w) : Calls Tryd.prog 13 #[vb, .string s, civV c] w (TrueTo w) := by
  have HA := hideP hv
  obtain ⟨ao, cap, rfl⟩ := hv.shape
  clear hv
  by_cases m1 : (l.length : Int) ≤ 2147483647
  case neg =>
    unfold civV
    go_enter Tryd.func13, Tryd.ntmps13
    go_wp2
    go_ret
    exact ⟨rfl, below_alloc w _⟩
  by_cases m2 : (s.size : Int) ≤ 2147483647
  case neg =>
    unfold civV
    go_enter Tryd.func13, Tryd.ntmps13
    go_wp2
    go_ret
    exact ⟨rfl, below_alloc w _⟩
  by_cases m3 : (l.length : Int) ≤ 1048576
  case neg =>
    have FT := fits3_any c
    unfold civV at FT ⊢
    go_enter Tryd.func13, Tryd.ntmps13
    go_wp2_with (go_at_call 20; refine (FT _).mono ?_; rintro e w1 (⟨rfl, hz, hb⟩ | ⟨rfl, hb⟩) <;> (try (clear hz)) <;> (have HB := hideP hb; clear hb))
    all_goals (go_ret; exact ⟨rfl, (below_alloc w _).trans (HB.out.mono (by simp))⟩)
  by_cases hciv : CivP c
  case neg =>
    have HN := hideP hciv
    clear hciv hT
    have FT := fits3_any c; have CO := civilOk_any c
    unfold civV at FT CO ⊢
    go_enter Tryd.func13, Tryd.ntmps13
    go_wp2_with (first
      | (go_at_call 20; refine (FT _).mono ?_; rintro e w1 (⟨rfl, hz, hb⟩ | ⟨rfl, hb⟩) <;> (try (have HZ := hideP hz; clear hz)) <;> (have HB := hideP hb; have HCB := hideP ((cvb_new c w 28).kept hb); obtain ⟨c0, c1, c2, c3, c4, c5, c6, c7, c8⟩ := HCB.out; clear hb))
      | (go_at_call 28; refine (within_any _ _ _ _).mono ?_; rintro e w2 (⟨rfl, q1, q2, rfl⟩ | ⟨rfl, q1, rfl⟩))
      | (go_at_call 22; refine (CO _ (Nat.le_trans HZ.out (by decide))).mono ?_; rintro e w3 (⟨rfl, h, -⟩ | ⟨rfl, hb⟩); exact absurd h HN.out; have HB3 := hideP hb; clear hb))
    all_goals go_ret
    all_goals first
      | exact ⟨rfl, ((below_alloc w _).trans (HB.out.mono (by simp))).trans (HB3.out.mono (Nat.le_trans (by simp) HB.out.size))⟩
      | exact ⟨rfl, (below_alloc w _).trans (HB.out.mono (by simp))⟩
  obtain ⟨t, hO, hcv⟩ := civ_tm hciv
  have FT := fits3_any c; have CO := civilOk_any c
  rw [hcv] at FT CO ⊢
  have HO := hideP hO
  have HT := hideP hT
  have hxa : mkB (l ++ fmtL t (bl s)) = mkB l ++ mkB (fmtL t (bl s)) := (mkB_append _ _).symm
  have hsum : ¬ 9223372036854775807 < (mkB l).size + (mkB (fmtL t (bl s))).size := by have := fmtL_le t hO (bl s); rw [bl_length] at this; rw [mkB_size, mkB_size]; omega
  have HS := hideP (show s.size ≤ 2147483647 by omega)
  have HL := hideP (show l.length ≤ 1048576 by omega)
  generalize hF : mkB (fmtL t (bl s)) = X at hxa hsum
  generalize hG : mkB l = A at hxa hsum
  have HXA := hideP hxa; have HF := hideP hF; have HG := hideP hG
  clear hxa hF hG
  have hXX : ((A ++ X).toList == (A ++ X).toList) = true := beq_self_eq_true _
  clear hO hT hcv hciv
  unfold cvV at FT CO ⊢
  go_enter Tryd.func13, Tryd.ntmps13
  go_wp2_with (first
    | (go_at_call 20; refine (FT _).mono ?_; rintro e w1 (⟨rfl, hz, hb⟩ | ⟨rfl, hb⟩) <;> (try (have HZ := hideP hz; clear hz)) <;> (have HB := hideP hb; have HCB := hideP ((cb_new t w 28).kept hb); obtain ⟨c0, c1, c2, c3, c4, c5, c6, c7, c8⟩ := HCB.out; have HW := hideP ((below_alloc w _).trans (hb.mono (by simp))); clear hb))
    | (go_at_call 28; refine (within_any _ _ _ _).mono ?_; rintro e w2 (⟨rfl, q1, q2, rfl⟩ | ⟨rfl, q1, rfl⟩))
    | (go_at_call 22; refine (CO _ (Nat.le_trans HZ.out (by decide))).mono ?_; rintro e w4 (⟨rfl, -, hb⟩ | ⟨rfl, hb⟩) <;> (have HCB := hideP (HCB.out.kept hb); have HW := hideP (HW.out.trans (hb.mono HW.out.size)); obtain ⟨c0', c1', c2', c3', c4', c5', c6', c7', c8'⟩ := HCB.out; clear hb))
    | fail)
  all_goals first
    | (go_wp2_with (fail); go_ret; exact ⟨rfl, HW.out⟩)
    | skip
  clear c0 c1 c2 c3 c4 c5 c6 c7 c8 c0' c1' c2' c3' c4' c5' c6' c7' c8' FT CO
  have HC := hideP (show Below w4.heap.size w4 w4.drew from (Below.refl _ _).drew)
  obtain ⟨d0, d1, d2, d3, d4, d5, d6, d7, d8⟩ := HCB.out.kept HC.out
  have hcb := HA.out.txt _ (HW.out.trans (HC.out.mono HW.out.size)); rw [HG.out] at hcb
  go_region_with
    (first
      | (go_at_call 37; refine (appFImpl_any t _ l s _ HO.out (HT.out.below (HW.out.trans (HC.out.mono HW.out.size))) HL.out HS.out (HA.out.below (HW.out.trans (HC.out.mono HW.out.size)))).mono ?_; rintro e w6 ⟨v6, rfl, hcv, hb⟩; rw [HXA.out] at hcv; have hc6 := hcv _ (Below.refl _ _); have HCV := hideP hcv; clear hcv; have HC := hideP (HC.out.trans (hb.mono HC.out.size)); obtain ⟨d0, d1, d2, d3, d4, d5, d6, d7, d8⟩ := HCB.out.kept HC.out; have hcb := HA.out.txt _ (HW.out.trans (HC.out.mono HW.out.size)); rw [HG.out] at hcb; clear hb)
      | (go_at_call 24; refine (fmtImpl_any t s _ HO.out (HT.out.below (HW.out.trans (HC.out.mono HW.out.size))) HS.out).mono ?_; rintro e w5 ⟨rfl, hb⟩; rw [HF.out]; have hc5 := HCV.out _ hb; have HC := hideP (HC.out.trans (hb.mono HC.out.size)); obtain ⟨d0, d1, d2, d3, d4, d5, d6, d7, d8⟩ := HCB.out.kept HC.out; have hcb := HA.out.txt _ (HW.out.trans (HC.out.mono HW.out.size)); rw [HG.out] at hcb; clear hb)
      | (go_at_call 27; refine (writes_any _ (HT.out.below (HW.out.trans (HC.out.mono HW.out.size)))).mono ?_; rintro e w7 ⟨rfl, hb⟩; have HC := hideP (HC.out.trans (hb.mono HC.out.size)); obtain ⟨d0, d1, d2, d3, d4, d5, d6, d7, d8⟩ := HCB.out.kept HC.out; have hcb := HA.out.txt _ (HW.out.trans (HC.out.mono HW.out.size)); rw [HG.out] at hcb; clear hb))
  all_goals (go_wp2; go_ret; exact ⟨by first | rfl | kernel_rfl | simp, HW.out.trans (HC.out.mono HW.out.size)⟩)
end Go.Proofs.YtigabjibdepoiaaDoor.Tm
namespace Go.Proofs.YtigabjibdepoiaaDoor.Tm
set_option linter.unusedSimpArgs false
set_option linter.unusedVariables false
open Go.ChangeShapes Go.WideShapes Go.ChangeAt Go.RowKit Go Go.Lib
theorem cells8 : Tryd.prog.cellsOf 5 = 1 := by kernel_rfl
set_option maxRecDepth 100000 in
theorem argB_of {H : Type} {enc : TypeId × Value → H} {W : World} {v : Value} {d : DataW H} {p : List MemPlace} {base : Nat} (hval : Value.okWide Tryd.prog W .any base 51 v) (h : DataW.Trod enc Tryd.prog W 0 (fun _ => true) true 51 v d p) : ∃ l, ArgB W v l := by
  obtain ⟨a1, len1, cap1, rfl⟩ := okWide_slice Tryd.underlying51 hval
  obtain ⟨f, hf⟩ := h
  rcases open_ints Tryd.underlying51 Tryd.underlying5 cells8 hf with ⟨e, _⟩ | ⟨a, len, cap, zs, e, _, hlc, _, hzl, _, hcell, hwf⟩
  · simp [Value.cells] at e
    obtain ⟨rfl, rfl, rfl⟩ := e
    exact ⟨[], argB_nil W⟩
  · simp [Value.cells] at e
    obtain ⟨rfl, rfl, rfl⟩ := e
    rw [if_pos rfl] at hzl
    have hll : ((zs.take len1).map fun z => UInt8.ofNat z.toNat).length = len1 := by rw [List.length_map, List.length_take]; omega
    refine ⟨(zs.take len1).map fun z => UInt8.ofNat z.toNat, ?_⟩
    have hB := argB_some W a cap1 ((zs.take len1).map fun z => UInt8.ofNat z.toNat) (fun h0 => by
      have h1 := World.block_lt_of_cell? _ _ (hcell 0 (by omega))
      have h2 : (a.add 0).block = a.block := by unfold Addr.add; split <;> rfl
      omega) (fun j hj => by
      have hj2 : j < len1 := by omega
      rw [hcell j (by omega)]
      have hm : zs.getD j 0 ∈ zs := by rw [List.getD_eq_getElem?_getD, List.getElem?_eq_getElem (by omega)]; exact List.getElem_mem _
      have hw := hwf _ hm
      simp [Lit.wf, IntKind.min, IntKind.max, IntKind.signed, IntKind.bits] at hw
      simp only [List.getElem_map, List.getElem_take]
      have e2 : zs.getD j 0 = zs[j]'(by omega) := by rw [List.getD_eq_getElem?_getD, List.getElem?_eq_getElem (by omega)]; rfl
      simp only [List.getD_eq_getElem?_getD, List.getElem?_eq_getElem (show j < zs.length by omega), Option.getD_some] at hw
      rw [e2, UInt8.toNat_ofNat']
      congr 2
      omega)
    rw [hll] at hB
    exact hB
end Go.Proofs.YtigabjibdepoiaaDoor.Tm
