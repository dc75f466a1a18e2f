/- The walk of appendFormat: the loop, and the function. The walks of AppendFormat, Format and String, from the package and from the thin package. The walks of Format and String, from the package and from the thin package. The walks of the thin package's Format and String, and of the law's own question whether a time is told. -/
import Derived.Test.YtigabjibdepoiaaDoorFmtR
import Derived.Test.YtigabjibdepoiaaDoorAt
import Derived.OwnWalk
import Derived.Test.YtigabjibdepoiaaDoorRfc
namespace Go.Proofs.YtigabjibdepoiaaDoor.Tm
set_option linter.unusedSimpArgs false
set_option linter.unusedVariables false
open Go.RowKit Go
theorem wp_then {P : Program} {c : Code} {QB : Exit → Act → World → Prop} {a : Act} {w : World} (h : c.wp P (Exit.then (fun a w => QB .normal a w) QB) a w) : c.wp P QB a w :=
  Code.wp_mono (fun e a w h => by cases e <;> exact h) h
theorem chunk_P {s P D : ByteArray} {std : Nat} (h : ChunkIs s P std D) : P.size ≤ s.size := by
  rcases h with ⟨k, n, m, hk, hno, hstd, rfl, rfl⟩ | ⟨_, _, rfl, _⟩
  · rw [ByteArray.size_extract]; omega
  · exact Nat.le_refl _
theorem chunk_std {s P D : ByteArray} {std : Nat} (h : ChunkIs s P std D) (h0 : std ≠ 0) : StdIs std := by
  rcases h with ⟨k, n, m, hk, hno, hstd, rfl, rfl⟩ | ⟨h, _⟩
  · exact stdL_is hstd
  · exact absurd h h0
theorem bst_rebase {w w1 w' : World} {v v' : Value} {base : Nat} {xs : List Value} {l : List UInt8} {n : Nat} (h : BSt w1 v base xs w' v' l n) (hb : Below w.heap.size w w1) (hbase : base ≤ w.heap.size) : BSt w v base xs w' v' l n :=
  ⟨h.buf, (Moved.below hb v).trans h.mov, hbase, h.len⟩
/-- What masks tell, and the class. -/
def StdCls (std : Nat) (b8 b9 b10 : Bool) (c : Nat) : Prop :=
  (StdD std ∧ b8 = true ∧ c = std) ∨ (StdY std ∧ b9 = true ∧ c = std) ∨ (StdC std ∧ b10 = true ∧ c = std) ∨ (StdZ std ∧ c = std) ∨ (std = 23 ∧ c = std) ∨ (∃ k comma, FrNo std 34 k comma ∧ c = 34) ∨ (∃ k comma, FrNo std 35 k comma ∧ c = 35)
theorem std_masks {std : Nat} (h : StdIs std) : ∃ (b8 b9 b10 : Bool) (c : Nat), bits .and .i64 (std : Int) 256 = (if b8 = true then 256 else 0) ∧ bits .and .i64 (std : Int) 512 = (if b9 = true then 512 else 0) ∧ bits .and .i64 (std : Int) 1024 = (if b10 = true then 1024 else 0) ∧ bits .and .i64 (std : Int) 65535 = (c : Int) ∧ StdCls std b8 b9 b10 c := by
  rcases h with h | h | h | h | h | ⟨k, comma, h⟩ | ⟨k, comma, h⟩
  · refine ⟨true, false, false, std, ?_, ?_, ?_, ?_, .inl ⟨h, rfl, rfl⟩⟩ <;> rcases h with rfl | rfl | rfl | rfl | rfl | rfl | rfl | rfl | rfl | rfl | rfl <;> kernel_rfl
  · refine ⟨false, true, false, std, ?_, ?_, ?_, ?_, .inr (.inl ⟨h, rfl, rfl⟩)⟩ <;> rcases h with rfl | rfl <;> kernel_rfl
  · refine ⟨false, false, true, std, ?_, ?_, ?_, ?_, .inr (.inr (.inl ⟨h, rfl, rfl⟩))⟩ <;> rcases h with rfl | rfl | rfl | rfl | rfl | rfl | rfl | rfl | rfl <;> kernel_rfl
  · refine ⟨false, false, false, std, ?_, ?_, ?_, ?_, .inr (.inr (.inr (.inl ⟨h, rfl⟩)))⟩ <;> rcases h with rfl | rfl | rfl | rfl | rfl | rfl | rfl | rfl | rfl | rfl <;> kernel_rfl
  · refine ⟨false, false, false, std, ?_, ?_, ?_, ?_, .inr (.inr (.inr (.inr (.inl ⟨h, rfl⟩))))⟩ <;> subst h <;> kernel_rfl
  · exact ⟨false, false, false, 34, fr_mask h (by decide) 8 (by decide), fr_mask h (by decide) 9 (by decide), fr_mask h (by decide) 10 (by decide), h.and, .inr (.inr (.inr (.inr (.inr (.inl ⟨k, comma, h, rfl⟩)))))⟩
  · exact ⟨false, false, false, 35, fr_mask h (by decide) 8 (by decide), fr_mask h (by decide) 9 (by decide), fr_mask h (by decide) 10 (by decide), h.and, .inr (.inr (.inr (.inr (.inr (.inr ⟨k, comma, h, rfl⟩)))))⟩
/-- What holds at the head of each round. -/
def FmtI (t : Tm) (w0 : World) (v0 : Value) (base : Nat) (xs : List Value) (L : List UInt8) (gp : Nat) (a : Act) (wr : World) : Prop :=
  ∃ (v : Value) (s : ByteArray) (l : List UInt8) (cy cm cd cyd ch cmi cs : Int) (x18 x19 x20 x92 : Value), FmtF v s gp t.zn t.off (toldOf t) (dayOf t.y t.mo t.d : Nat) cy cm cd cyd ch cmi cs x18 x19 x20 x92 a ∧ DateC t cy cm cd ∧ YdayC t cyd ∧ ClockC t ch cmi cs ∧
    BSt w0 v0 base xs wr v l (xs.length + l.length) ∧ fmtL t L = l ++ fmtL t (bl s) ∧ s.size ≤ L.length
/-- What stays as it is while the rounds run. -/
structure FmtC (t : Tm) (w0 : World) (v0 : Value) (xs : List Value) (L : List UInt8) (gp : Nat) (x loc : Value) : Prop where
  ok : TmOk t
  tab : TabOk w0
  tabNe : v0.ownBlock ≠ some 0
  boxNe : v0.ownBlock ≠ some gp
  c0 : w0.cell? ⟨gp, 0, none⟩ = some (.int .u64 t.ns)
  c1 : w0.cell? ⟨gp, 1, none⟩ = some x
  c2 : w0.cell? ⟨gp, 2, none⟩ = some loc
  hx : x.oneCell' = true
  hloc : loc.oneCell' = true
  len : xs.length + 102 * L.length + 3000 ≤ 140737488351232
theorem TabOk.bst {w0 w : World} {v0 v : Value} {base : Nat} {xs : List Value} {l : List UInt8} {n : Nat} (h : TabOk w0) (hb : BSt w0 v0 base xs w v l n) (hne : v0.ownBlock ≠ some 0) : TabOk w :=
  ⟨hb.cell h.c0 hne, hb.cell h.c1 hne, hb.cell h.c2 hne, hb.cell h.c3 hne, hb.cell h.c4 hne, hb.cell h.c5 hne⟩
theorem fmt_round (t : Tm) (w0 : World) (v0 : Value) (base : Nat) (xs : List Value) (L : List UInt8) (gp : Nat) (x loc : Value) (hC : FmtC t w0 v0 xs L gp x loc) (a : Act) (wr : World) (hI : FmtI t w0 v0 base xs L gp a wr)
    (QQ : Exit → Act → World → Prop) (hq : ∀ a' w' v' n, a'.tmps.size = 393 → a'.defers = [] → a'.tmps.getD 1 undef = v' → BSt w0 v0 base xs w' v' (fmtL t L) n → QQ (.exit 0) a' w') :
    Code.wp Tryd.prog fmtBody (Exit.then (fun a' w' => FmtI t w0 v0 base xs L gp a' w' ∧ strLen (a'.tmps.getD 2 undef) < strLen (a.tmps.getD 2 undef)) QQ) a wr := by
  obtain ⟨v, s, l, cy, cm, cd, cyd, ch, cmi, cs, x18, x19, x20, x92, hF, hd, hy, hc, hB, hL, hsz⟩ := hI
  have hO := hC.ok
  have hlen := hC.len
  have hll : l.length ≤ 101 * L.length := by
    have h1 := fmtL_le t hO L
    rw [hL, List.length_append] at h1; omega
  have hs2 := hF.s2
  rw [fmtBody_eq]
  refine wp_seq ?_
  by_cases h0 : s.size = 0
  · obtain rfl := empty_of s h0
    refine f10_end v gp _ _ _ _ cy cm cd cyd ch cmi cs x18 x19 x20 x92 wr a hF _ _ (fun a' hF' => ?_)
    exact hq a' wr v _ hF'.size hF'.defers hF'.s1 (hB.text (by rw [hL, show bl (⟨#[]⟩ : ByteArray) = [] from rfl, fmtL_nil, List.append_nil]))
  refine f10_go v s gp _ _ _ _ cy cm cd cyd ch cmi cs x18 x19 x20 x92 wr (by omega) a hF _ _ (fun a1 hF1 => ?_)
  refine wp_block (wp_seq ?_)
  refine f11 v s gp _ _ _ _ cy cm cd cyd ch cmi cs x18 x19 x20 x92 wr (hC.tab.bst hB hC.tabNe) (by omega) a1 hF1 _ _ (fun P std D a2 w2 hF2 hch hb2 => ?_)
  have hP := chunk_P hch
  have hB2 := hB.below hb2
  refine wp_seq ?_
  refine f12 v s gp _ _ _ _ cy cm cd cyd ch cmi cs P (.int .i64 (std : Nat)) (.string D) x92 w2 w0 v0 base xs l _ hB2 (by omega) a2 hF2 _ _ (fun v3 a3 w3 hF3 hB3 => ?_)
  refine wp_seq ?_
  by_cases hs0 : std = 0
  · subst hs0
    refine f14_end v3 s gp _ _ _ _ cy cm cd cyd ch cmi cs (.string P) (.string D) x92 w3 a3 hF3 _ _ (fun a4 hF4 => ?_)
    exact hq a4 w3 v3 _ hF4.size hF4.defers hF4.s1 (hB3.text (by rw [hL, fmtL_is0 t hch]))
  obtain ⟨hE, hDs⟩ := fmtL_is t hch hs0
  obtain ⟨b8, b9, b10, c, m8, m9, m10, mc, hcls⟩ := std_masks (chunk_std hch hs0)
  refine f14_go v3 s gp _ _ _ _ cy cm cd cyd ch cmi cs (.string P) (.string D) x92 w3 std hs0 a3 hF3 _ _ (fun a4 hF4 => ?_)
  refine wp_seq ?_
  refine f15 v3 s D gp _ _ _ _ cy cm cd cyd ch cmi cs (.string P) (.int .i64 (std : Nat)) x92 w3 a4 hF4 _ _ (fun a5 hF5 => ?_)
  refine wp_seq ?_
  refine f16_any t hO v3 D gp _ _ cy cm cd cyd ch cmi cs (.string P) (.string D) x92 w3 std b8 m8 hd a5 hF5 _ _ (fun cy' cm' cd' a6 hF6 hd' hn8 => ?_)
  refine wp_seq ?_
  refine f18_any t hO v3 D gp _ _ cy' cm' cd' cyd ch cmi cs (.string P) (.string D) x92 w3 std b9 m9 hy a6 hF6 _ _ (fun cyd' a7 hF7 hy' hn9 => ?_)
  refine wp_seq ?_
  refine f20_any t hO v3 D gp _ _ cy' cm' cd' cyd' ch cmi cs (.string P) (.string D) x92 w3 std b10 m10 hc a7 hF7 _ _ (fun ch' cmi' cs' a8 hF8 hc' hn10 => ?_)
  refine wp_seq ?_
  refine f22 v3 D gp _ _ _ _ cy' cm' cd' cyd' ch' cmi' cs' (.string P) (.string D) x92 w3 std c mc a8 hF8 _ _ (fun a9 hF9 => ?_)
  refine wp_then ?_
  have hend : ∀ v' a' w' n', FmtF v' D gp t.zn t.off (toldOf t) (dayOf t.y t.mo t.d : Nat) cy' cm' cd' cyd' ch' cmi' cs' (.string P) (.int .i64 (std : Nat)) (.string D) (.int .i64 (c : Nat)) a' → BSt w0 v0 base xs w' v' ((l ++ bl P) ++ elemL t std) n' →
      FmtI t w0 v0 base xs L gp a' w' ∧ strLen (a'.tmps.getD 2 undef) < strLen (a.tmps.getD 2 undef) := by
    intro v' a' w' n' hF' hB'
    refine ⟨⟨v', D, _, cy', cm', cd', cyd', ch', cmi', cs', _, _, _, _, hF', hd', hy', hc', hB'.exact_, ?_, by omega⟩, ?_⟩
    · rw [hL, hE]; simp only [List.append_assoc]
    · rw [hF'.s2, hs2]; exact hDs
  have hn : xs.length + l.length + P.size + 1000 ≤ 140737488351232 := by omega
  rcases hcls with ⟨hm, hb, rfl⟩ | ⟨hm, hb, rfl⟩ | ⟨hm, hb, rfl⟩ | ⟨hm, rfl⟩ | ⟨rfl, rfl⟩ | ⟨k, comma, hS, rfl⟩ | ⟨k, comma, hS, rfl⟩
  · obtain ⟨rfl, rfl, rfl⟩ := hn8 hb
    exact f23_d t hO v3 D gp _ _ cyd' ch' cmi' cs' _ _ w3 w0 v0 base xs _ _ hB3 hn a9 c hm hF9 _ _ (fun v' a' w' h1 h2 => hend v' a' w' _ h1 h2)
  · obtain rfl := hn9 hb
    exact f23_y t hO v3 D gp _ _ cy' cm' cd' ch' cmi' cs' _ _ w3 w0 v0 base xs _ _ hB3 hn a9 c hm hF9 _ _ (fun v' a' w' h1 h2 => hend v' a' w' _ h1 h2)
  · obtain ⟨rfl, rfl, rfl⟩ := hn10 hb
    exact f23_c t hO v3 D gp _ _ cy' cm' cd' cyd' _ _ w3 w0 v0 base xs _ _ hB3 hn a9 c hm hF9 _ _ (fun v' a' w' h1 h2 => hend v' a' w' _ h1 h2)
  · exact f23_z t hO v3 D gp _ _ _ _ cy' cm' cd' cyd' ch' cmi' cs' _ _ w3 rfl w0 v0 base xs _ _ hB3 hn a9 c hm hF9 _ _ (fun v' a' w' h1 h2 => hend v' a' w' _ h1 h2)
  · exact e23 t hO v3 D gp _ _ _ _ cy' cm' cd' cyd' ch' cmi' cs' _ _ w3 rfl w0 v0 base xs _ _ hB3 hn a9 hF9 _ _ (fun v' a' w' h1 h2 => hend v' a' w' _ h1 h2)
  · exact e34 t hO v3 D gp _ _ _ _ cy' cm' cd' cyd' ch' cmi' cs' _ _ w3 std k comma hS x loc hC.hx hC.hloc (hB3.cell hC.c0 hC.boxNe) (hB3.cell hC.c1 hC.boxNe) (hB3.cell hC.c2 hC.boxNe) w0 v0 base xs _ _ hB3 hn a9 hF9 _ _ (fun v' a' w' h1 h2 => hend v' a' w' _ h1 (h2.text (by rw [elemL_fr t hS (.inl rfl)]; rfl)))
  · exact e35 t hO v3 D gp _ _ _ _ cy' cm' cd' cyd' ch' cmi' cs' _ _ w3 std k comma hS x loc hC.hx hC.hloc (hB3.cell hC.c0 hC.boxNe) (hB3.cell hC.c1 hC.boxNe) (hB3.cell hC.c2 hC.boxNe) w0 v0 base xs _ _ hB3 hn a9 hF9 _ _ (fun v' a' w' h1 h2 => hend v' a' w' _ h1 (h2.text (by rw [elemL_fr t hS (.inr rfl)]; rfl)))
set_option maxRecDepth 1000000 in
set_option maxHeartbeats 6400000 in
/-- What appendFormat appends. -/
theorem appendFormat_any (t : Tm) (ao : Option Addr) (base : Nat) (v : Value) (xs : List Value) (s : ByteArray) (w : World) (hO : TmOk t) (hp : PlaceAt w base t (.pointer ao)) (hT : TabOk w) (hv : Buf w base v xs) (hbase : base ≤ w.heap.size) (htab : v.ownBlock ≠ some 0)
    (hlen : xs.length + 102 * s.size + 3000 ≤ 140737488351232) :
    Calls Tryd.prog 84 #[tmV t (.pointer ao), v, .string s] w (BPost w v base xs (fmtL t (bl s)) (xs.length + (fmtL t (bl s)).length)) := by
  have HO := hideP hO
  have HP := hideP hp
  have HT := hideP hT
  have HV := hideP hv
  have HBASE := hideP hbase
  have HTB := hideP htab
  have HLEN := hideP hlen
  clear hO hp hT hv hbase htab hlen
  unfold tmV
  go_enter Tryd.func84, Tryd.ntmps84
  go_wp2_with (first
    | (go_at_call 106; refine (locabs_any t base (.pointer ao) _ HO.out (HP.out.under ((Below.refl _ _).alloc HBASE.out _))).mono ?_; rintro e w1 ⟨rfl, hbl⟩; have HBT := hideP ((below_alloc w _).trans (hbl.mono (by simp))); have HC0 := hideP (show w1.cell? ⟨w.heap.size, 0, none⟩ = some (.int .u64 t.ns) from (hbl.cell (by simp)).trans (cell_of_row _ _ 0 _ _ (0, 0) (heap_alloc_new _ _))); have HC1 := hideP (show w1.cell? ⟨w.heap.size, 1, none⟩ = some (.int .i64 (unixOf t + 62135596800)) from (hbl.cell (by simp)).trans (cell_of_row _ _ 1 _ _ (0, 0) (heap_alloc_new _ _))); have HC2 := hideP (show w1.cell? ⟨w.heap.size, 2, none⟩ = some (.pointer ao) from (hbl.cell (by simp)).trans (cell_of_row _ _ 2 _ _ (0, 0) (heap_alloc_new _ _))); clear hbl)
    | (go_at_call 99; refine (days_t t _ HO.out).mono ?_; rintro e w1 ⟨rfl, rfl⟩))
  have hne : v.ownBlock ≠ some w.heap.size := by
    obtain ⟨g, e1, _, e2⟩ := HV.out.own
    rw [e1]; intro e; cases e; omega
  have hctx : FmtC t w1 v xs (bl s) w.heap.size (.int .i64 (unixOf t + 62135596800)) (.pointer ao) := ⟨HO.out, HT.out.below HBT.out, HTB.out, hne, HC0.out, HC1.out, HC2.out, rfl, rfl, by rw [bl_length]; exact HLEN.out⟩
  have HCTX := hideP hctx
  clear hctx hne
  refine wp_loop (fun a w' => FmtI t w1 v base xs (bl s) w.heap.size a w') (fun a _ => strLen (a.tmps.getD 2 undef)) ?_ ?_
  · exact ⟨v, s, [], -1, 0, 0, -1, -1, 0, 0, _, _, _, _, ⟨by kernel_rfl, rfl, rfl, rfl, rfl, rfl, rfl, rfl, rfl, rfl, rfl, rfl, rfl, rfl, rfl, rfl, rfl, rfl, rfl, rfl⟩, .inl rfl, .inl rfl, .inl rfl, BSt.start (HV.out.kept HBT.out) (Nat.le_trans HBASE.out HBT.out.size), rfl, by rw [bl_length]; exact Nat.le_refl _⟩
  · intro a wr hI
    refine fmt_round t w1 v base xs (bl s) w.heap.size _ _ HCTX.out a wr hI _ ?_
    intro a' w' v' n h1 h2 h3 hB
    rename_i hK
    refine hK a' _ ?_
    have HB := hideP (bst_rebase hB HBT.out HBASE.out)
    clear hK hI hB
    rw [fmt_frame a' h1 h2, h3]
    clear h1 h2 h3
    go_wp2
    go_ret
    exact ⟨v', rfl, HB.out.exact_⟩
end Go.Proofs.YtigabjibdepoiaaDoor.Tm
namespace Go.Proofs.YtigabjibdepoiaaDoor.Tm
set_option linter.unusedSimpArgs false
set_option linter.unusedVariables false
open Go.RowKit Go
def rfcB : ByteArray := ⟨#[50, 48, 48, 54, 45, 48, 49, 45, 48, 50, 84, 49, 53, 58, 48, 52, 58, 48, 53, 90, 48, 55, 58, 48, 48]⟩
def rfcNB : ByteArray := ⟨#[50, 48, 48, 54, 45, 48, 49, 45, 48, 50, 84, 49, 53, 58, 48, 52, 58, 48, 53, 46, 57, 57, 57, 57, 57, 57, 57, 57, 57, 90, 48, 55, 58, 48, 48]⟩
def strB : ByteArray := ⟨#[50, 48, 48, 54, 45, 48, 49, 45, 48, 50, 32, 49, 53, 58, 48, 52, 58, 48, 53, 46, 57, 57, 57, 57, 57, 57, 57, 57, 57, 32, 45, 48, 55, 48, 48, 32, 77, 83, 84]⟩
set_option maxRecDepth 100000 in
theorem rfc_fmt (t : Tm) : fmtL t (bl rfcB) = rfcL t false := by
  have h : fmtL t (bl rfcB) = padL 48 t.y 4 ++ (45 :: (padL 48 t.mo 2 ++ (45 :: (padL 48 t.d 2 ++ (84 :: (padL 48 t.h 2 ++ (58 :: (padL 48 t.mi 2 ++ (58 :: (padL 48 t.s 2 ++ (isoL t.off true false true ++ []))))))))))) := by kernel_rfl
  rw [h]; unfold rfcL; simp
set_option maxRecDepth 100000 in
theorem rfcN_fmt (t : Tm) : fmtL t (bl rfcNB) = rfcL t true := by
  have h : fmtL t (bl rfcNB) = padL 48 t.y 4 ++ (45 :: (padL 48 t.mo 2 ++ (45 :: (padL 48 t.d 2 ++ (84 :: (padL 48 t.h 2 ++ (58 :: (padL 48 t.mi 2 ++ (58 :: (padL 48 t.s 2 ++ (nanoL t.ns 9 false true ++ (isoL t.off true false true ++ [])))))))))))) := by kernel_rfl
  rw [h]; unfold rfcL; simp
section
variable (t : Tm) (ao : Option Addr) (base : Nat) (v : Value) (xs : List Value) (s : ByteArray) (w : World) (hO : TmOk t) (hp : PlaceAt w base t (.pointer ao)) (hT : TabOk w) (hv : Buf w base v xs) (hbase : base ≤ w.heap.size) (htab : v.ownBlock ≠ some 0)
    (hlen : xs.length + 102 * s.size + 3000 ≤ 140737488351232)
include hO hp hT hv hbase htab hlen
set_option maxRecDepth 100000 in
set_option maxHeartbeats 1600000 in
theorem appendFmt_any : Calls Tryd.prog 60 #[tmV t (.pointer ao), v, .string s] w (BPost w v base xs (fmtL t (bl s)) (xs.length + (fmtL t (bl s)).length)) := by
  have HO := hideP hO
  have HP := hideP (hp.under ((Below.refl base w).alloc hbase (.cells #[.int .u64 t.ns, .int .i64 (unixOf t + 62135596800), .pointer ao] 61)))
  have HT := hideP (hT.below (below_alloc w (.cells #[.int .u64 t.ns, .int .i64 (unixOf t + 62135596800), .pointer ao] 61)))
  have HV := hideP (hv.alloc (.cells #[.int .u64 t.ns, .int .i64 (unixOf t + 62135596800), .pointer ao] 61))
  have HBASE := hideP hbase
  have HBASE2 := hideP (show base ≤ (w.alloc (.cells #[.int .u64 t.ns, .int .i64 (unixOf t + 62135596800), .pointer ao] 61)).heap.size by simp; omega)
  have HTB := hideP htab
  have HLEN := hideP hlen
  have HLEN2 := hideP (show xs.length + 1000 ≤ 140737488351232 by omega)
  have HBL := hideP (below_alloc w (.cells #[.int .u64 t.ns, .int .i64 (unixOf t + 62135596800), .pointer ao] 61))
  clear hO hp hT hv hbase htab hlen
  by_cases h1 : s = rfcB
  · subst h1
    have hq : rfcB.toList = [50, 48, 48, 54, 45, 48, 49, 45, 48, 50, 84, 49, 53, 58, 48, 52, 58, 48, 53, 90, 48, 55, 58, 48, 48] := by rw [toList_eq]; rfl
    have HF := hideP (rfc_fmt t)
    generalize fmtL t (bl rfcB) = FL at *
    unfold tmV
    go_enter Tryd.func60, Tryd.ntmps60
    go_wp2_with (go_at_call 83; refine (rfc_any t ao base v xs false _ HO.out HP.out HV.out HBASE2.out HLEN2.out).mono ?_; rintro e w1 ⟨v1, rfl, hb⟩; have HB := hideP hb; clear hb)
    go_ret
    exact ⟨v1, rfl, by rw [HF.out]; exact (bst_rebase HB.out HBL.out HBASE.out).exact_⟩
  by_cases h2 : s = rfcNB
  · have hq : s.toList = [50, 48, 48, 54, 45, 48, 49, 45, 48, 50, 84, 49, 53, 58, 48, 52, 58, 48, 53, 46, 57, 57, 57, 57, 57, 57, 57, 57, 57, 90, 48, 55, 58, 48, 48] := by rw [h2, toList_eq]; rfl
    have HF := hideP (show fmtL t (bl s) = rfcL t true by rw [h2]; exact rfcN_fmt t)
    unfold tmV
    clear h1 h2
    go_enter Tryd.func60, Tryd.ntmps60
    go_wp2_with (go_at_call 83; refine (rfc_any t ao base v xs true _ HO.out HP.out HV.out HBASE2.out HLEN2.out).mono ?_; rintro e w1 ⟨v1, rfl, hb⟩; have HB := hideP hb; clear hb)
    go_ret
    exact ⟨v1, rfl, by rw [HF.out]; exact (bst_rebase HB.out HBL.out HBASE.out).exact_⟩
  · have hq1 : (s.toList == [50, 48, 48, 54, 45, 48, 49, 45, 48, 50, 84, 49, 53, 58, 48, 52, 58, 48, 53, 90, 48, 55, 58, 48, 48]) = false := by
      rw [beq_eq_false_iff_ne, toList_eq]; intro e; exact h1 (ba_ext e)
    have hq2 : (s.toList == [50, 48, 48, 54, 45, 48, 49, 45, 48, 50, 84, 49, 53, 58, 48, 52, 58, 48, 53, 46, 57, 57, 57, 57, 57, 57, 57, 57, 57, 90, 48, 55, 58, 48, 48]) = false := by
      rw [beq_eq_false_iff_ne, toList_eq]; intro e; exact h2 (ba_ext e)
    clear h1 h2
    unfold tmV
    go_enter Tryd.func60, Tryd.ntmps60
    go_wp2_with (fail)
    refine (appendFormat_any t ao base v xs s _ HO.out HP.out HT.out HV.out HBASE2.out HTB.out HLEN.out).mono ?_
    rintro e w1 ⟨v1, rfl, hb⟩
    have HB := hideP hb
    clear hb
    go_wp2
    go_ret
    exact ⟨v1, rfl, (bst_rebase HB.out HBL.out HBASE.out).exact_⟩
end
end Go.Proofs.YtigabjibdepoiaaDoor.Tm
namespace Go.Proofs.YtigabjibdepoiaaDoor.Tm
set_option linter.unusedSimpArgs false
set_option linter.unusedVariables false
open Go.RowKit Go
theorem PlaceAt.ptr {w : World} {base : Nat} {t : Tm} {loc : Value} (h : PlaceAt w base t loc) : ∃ ao, loc = .pointer ao := by
  rcases h with ⟨h, _⟩ | ⟨b, zb, tb, h, _⟩ <;> exact ⟨_, h⟩
theorem PlaceAt.more {w : World} {base b2 : Nat} {t : Tm} {loc : Value} (h : PlaceAt w base t loc) (hb : base ≤ b2) : PlaceAt w b2 t loc := by
  rcases h with h | ⟨b, zb, tb, h1, h2, h3, h4⟩
  · exact .inl h
  · exact .inr ⟨b, zb, tb, h1, by omega, by omega, h4⟩
theorem TabOk.lt {w : World} (h : TabOk w) : 0 < w.heap.size := World.block_lt_of_cell? _ _ h.c0
theorem grown_below2 {w w' : World} (h : w.grownBy w' none) : Below w.heap.size w w' := ⟨h.os, h.tape, h.output, h.size, fun k hk => h.block k hk (by simp)⟩
/-- A row that make laid, as a buffer. -/
theorem buf_of_own {w : World} {base g n : Nat} {e : TypeId} (h : w.ownsRow base e 1 (.slice (some ⟨g, 0, none⟩) 0 n) 0 []) : Buf w base (.slice (some ⟨g, 0, none⟩) 0 n) [] := by
  rcases h.2 with ⟨h, _⟩ | ⟨g', cap, cur, hv, hb, hh, h1, h2, h3, h4⟩
  · cases h
  · simp only [Value.slice.injEq, Option.some.injEq, Addr.mk.injEq, and_true, true_and] at hv
    obtain ⟨rfl, rfl⟩ := hv
    exact ⟨g, n, cur, e, rfl, hb, hh, Nat.zero_le _, h2, by simpa using h3, rfl⟩
/-- A new block of n cells, seen as an empty buffer. -/
theorem buf_of_block (w : World) (base n : Nat) (cur : Array Value) (tag : TypeId) (hn : cur.size = n) (hm : n ≤ maxLen) (hb : base ≤ w.heap.size) : Buf (w.alloc (.cells cur tag)) base (.slice (some ⟨w.heap.size, 0, none⟩) 0 n) [] :=
  ⟨w.heap.size, n, cur, tag, rfl, hb, heap_alloc_new w _, Nat.zero_le _, hm, hn, rfl⟩
/-- AppendFormat onto an empty buffer of the call's own, and its text. -/
def StrTo (t : Tm) (s : ByteArray) (w : World) (e : Ending) (w' : World) : Prop := ∃ v', e = .returned v' ∧ (convert 51 9 v').run Tryd.prog w' = .ok (.string (mkB (fmtL t (bl s)))) w' ∧ Below w.heap.size w w'
theorem fmt_call (t : Tm) (ao : Option Addr) (s : ByteArray) (w W : World) (v : Value) (hO : TmOk t) (hp : PlaceAt w w.heap.size t (.pointer ao)) (hT : TabOk w) (hs : s.size ≤ 2147483647) (hb : Below w.heap.size w W) (hv : Buf W w.heap.size v []) :
    Calls Tryd.prog 60 #[.agg #[.int .u64 t.ns, .int .i64 (unixOf t + 62135596800), .pointer ao], v, .string s] W (StrTo t s w) := by
  have htab : v.ownBlock ≠ some 0 := by
    obtain ⟨g, e1, e2, e3⟩ := hv.own
    have := hT.lt
    rw [e1]; intro e; cases e; omega
  refine (appendFmt_any t ao w.heap.size v [] s W hO (hp.under hb) (hT.below hb) hv hb.size htab (by simp; omega)).mono ?_
  rintro e w' ⟨v', rfl, hB⟩
  exact ⟨v', rfl, run_string_buf w' _ v' _ (by simpa using hB.buf), hb.trans (hB.below_base hv)⟩
set_option maxRecDepth 100000 in
set_option maxHeartbeats 400000 in
theorem format_any (t : Tm) (ao : Option Addr) (s : ByteArray) (w : World) (hO : TmOk t) (hp : PlaceAt w w.heap.size t (.pointer ao)) (hT : TabOk w) (hs : s.size ≤ 2147483647) :
    Calls Tryd.prog 52 #[tmV t (.pointer ao), .string s] w (TextPost (mkB (fmtL t (bl s))) w) := by
  obtain ⟨i8, hi, hz, hi1, hi2⟩ := info_parts info8
  have HO := hideP hO
  have HP := hideP hp
  have HT := hideP hT
  have HLT := hideP hT.lt
  have HLEN := hideP (show ([] : List Value).length + 102 * s.size + 3000 ≤ 140737488351232 by simp; omega)
  clear hO hp hT
  unfold tmV
  by_cases h1 : (s.size : Int) + 10 < 64
  · obtain ⟨Z, hZ⟩ : ∃ Z : Array Value, Z = #[.int .u8 0, .int .u8 0, .int .u8 0, .int .u8 0, .int .u8 0, .int .u8 0, .int .u8 0, .int .u8 0, .int .u8 0, .int .u8 0, .int .u8 0, .int .u8 0, .int .u8 0, .int .u8 0, .int .u8 0, .int .u8 0, .int .u8 0, .int .u8 0, .int .u8 0, .int .u8 0, .int .u8 0, .int .u8 0, .int .u8 0, .int .u8 0, .int .u8 0, .int .u8 0, .int .u8 0, .int .u8 0, .int .u8 0, .int .u8 0, .int .u8 0, .int .u8 0, .int .u8 0, .int .u8 0, .int .u8 0, .int .u8 0, .int .u8 0, .int .u8 0, .int .u8 0, .int .u8 0, .int .u8 0, .int .u8 0, .int .u8 0, .int .u8 0, .int .u8 0, .int .u8 0, .int .u8 0, .int .u8 0, .int .u8 0, .int .u8 0, .int .u8 0, .int .u8 0, .int .u8 0, .int .u8 0, .int .u8 0, .int .u8 0, .int .u8 0, .int .u8 0, .int .u8 0, .int .u8 0, .int .u8 0, .int .u8 0, .int .u8 0, .int .u8 0] := ⟨_, rfl⟩
    have hZs : Z.size = 64 := by rw [hZ]; rfl
    have hv := (buf_of_block (w.alloc (.cells #[.int .u64 t.ns, .int .i64 (unixOf t + 62135596800), .pointer ao] 61)) w.heap.size 64 Z 99 hZs (by decide) (by simp))
    rw [show (w.alloc (.cells #[.int .u64 t.ns, .int .i64 (unixOf t + 62135596800), .pointer ao] 61)).heap.size = w.heap.size + 1 from by simp] at hv
    have HV := hideP hv
    clear hv
    have HBZ := hideP ((below_alloc w (.cells #[.int .u64 t.ns, .int .i64 (unixOf t + 62135596800), .pointer ao] 61)).alloc (by simp) (.cells Z 99))
    have HZ := hideP hZ
    clear hZ hZs
    go_enter Tryd.func52, Tryd.ntmps52
    go_wp2_with (fail)
    rw [← HZ.out]
    generalize (w.alloc (.cells #[.int .u64 t.ns, .int .i64 (unixOf t + 62135596800), .pointer ao] 61)).alloc (.cells Z 99) = W at *
    refine (fmt_call t ao s w W _ HO.out HP.out HT.out hs HBZ.out HV.out).mono ?_
    rintro e w2 ⟨v2, rfl, hcv, hb⟩
    have HB := hideP hb
    clear hb
    go_wp2
    go_ret
    exact ⟨rfl, HB.out⟩
  · go_enter Tryd.func52, Tryd.ntmps52
    go_wp2_with (at_make; refine wpList_make_own _ rfl _ _ _ rfl w.heap.size 5 i8 (.int .u8 0) 1 Tryd.underlying51 hi hz hi1 .i64 .i64 _ (s.size + 10) rfl rfl (by omega) (by rw [hi2]; omega) (by unfold maxLen; omega) (by simp) ?_; intro w1 hown hgrow; have HV := hideP (buf_of_own hown); have HG := hideP ((below_alloc w _).trans ((grown_below2 hgrow).mono (by simp))); have q0 := (show w1.cell? ⟨w.heap.size, 0, none⟩ = some (.int .u64 t.ns) from ((grown_below2 hgrow).cell (by simp)).trans (cell_of_row _ _ 0 _ _ (0, 0) (heap_alloc_new _ _))); have q1 := (show w1.cell? ⟨w.heap.size, 1, none⟩ = some (.int .i64 (unixOf t + 62135596800)) from ((grown_below2 hgrow).cell (by simp)).trans (cell_of_row _ _ 1 _ _ (0, 0) (heap_alloc_new _ _))); have q2 := (show w1.cell? ⟨w.heap.size, 2, none⟩ = some (.pointer ao) from ((grown_below2 hgrow).cell (by simp)).trans (cell_of_row _ _ 2 _ _ (0, 0) (heap_alloc_new _ _))); clear hown hgrow)
    have hv := HV.out
    rw [show (w.alloc (.cells #[.int .u64 t.ns, .int .i64 (unixOf t + 62135596800), .pointer ao] 61)).heap.size = w.heap.size + 1 from by simp] at hv
    have HV2 := hideP hv
    clear hv
    refine (fmt_call t ao s w _ _ HO.out HP.out HT.out hs HG.out HV2.out).mono ?_
    rintro e w2 ⟨v2, rfl, hcv, hb⟩
    have HB := hideP hb
    clear hb
    go_wp2
    go_ret
    exact ⟨rfl, HB.out⟩
end Go.Proofs.YtigabjibdepoiaaDoor.Tm
namespace Go.Proofs.YtigabjibdepoiaaDoor.Tm
set_option linter.unusedSimpArgs false
set_option linter.unusedVariables false
open Go.RowKit Go
set_option maxRecDepth 100000 in
set_option maxHeartbeats 800000 in
theorem fmtImpl_any (t : Tm) (s : ByteArray) (w : World) (hO : TmOk t) (hT : TabOk w) (hs : s.size ≤ 2147483647) :
    Calls Tryd.prog 24 #[cvV t, .string s] w (TextPost (mkB (fmtL t (bl s))) w) := by
  have HO := hideP hO
  have HT := hideP hT
  clear hO hT
  unfold cvV
  go_enter Tryd.func24, Tryd.ntmps24
  go_wp2_with (first
    | (go_at_call 51; refine (at_any t _ HO.out).mono ?_; rintro e w1 ⟨loc, rfl, hpl, hbl⟩; obtain ⟨ao, rfl⟩ := hpl.ptr; have HPL := hideP hpl; have HBL := hideP ((below_alloc w _).trans (hbl.mono (by simp))); clear hpl hbl)
    | (go_at_call 52; refine (format_any t ao s _ HO.out HPL.out (HT.out.below HBL.out) hs).mono ?_; rintro e w2 ⟨rfl, hb⟩; have HB := hideP hb; clear hb))
  go_ret
  exact ⟨rfl, HBL.out.trans (HB.out.mono HBL.out.size)⟩
set_option maxRecDepth 100000 in
set_option maxHeartbeats 800000 in
theorem timeStr_any (t : Tm) (ao : Option Addr) (w : World) (hO : TmOk t) (hp : PlaceAt w w.heap.size t (.pointer ao)) (hT : TabOk w) :
    Calls Tryd.prog 81 #[tmV t (.pointer ao)] w (TextPost (mkB (fmtL t (bl strB))) w) := by
  have HO := hideP hO
  have HP := hideP hp
  have HT := hideP hT
  have ha := and_mono t.ns hO.ns
  clear hO hp hT
  unfold tmV
  go_enter Tryd.func81, Tryd.ntmps81
  go_wp2_with (go_at_call 52; refine (format_any t ao strB _ HO.out ((HP.out.under (below_alloc w _)).more (by simp)) (HT.out.below (below_alloc w _)) (by decide)).mono ?_; rintro e w2 ⟨rfl, hb⟩; have HB := hideP hb; have q0 := (show w2.cell? ⟨w.heap.size, 0, none⟩ = some (.int .u64 t.ns) from (hb.cell (by simp)).trans (cell_of_row _ _ 0 _ _ (0, 0) (heap_alloc_new _ _))); clear hb)
  go_ret
  exact ⟨rfl, (below_alloc w _).trans (HB.out.mono (by simp))⟩
set_option maxRecDepth 100000 in
set_option maxHeartbeats 800000 in
theorem strImpl_any (t : Tm) (w : World) (hO : TmOk t) (hT : TabOk w) :
    Calls Tryd.prog 55 #[cvV t] w (TextPost (mkB (fmtL t (bl strB))) w) := by
  have HO := hideP hO
  have HT := hideP hT
  clear hO hT
  unfold cvV
  go_enter Tryd.func55, Tryd.ntmps55
  go_wp2_with (first
    | (go_at_call 51; refine (at_any t _ HO.out).mono ?_; rintro e w1 ⟨loc, rfl, hpl, hbl⟩; obtain ⟨ao, rfl⟩ := hpl.ptr; have HPL := hideP hpl; have HBL := hideP ((below_alloc w _).trans (hbl.mono (by simp))); clear hpl hbl)
    | (go_at_call 81; refine (timeStr_any t ao _ HO.out HPL.out (HT.out.below HBL.out)).mono ?_; rintro e w2 ⟨rfl, hb⟩; have HB := hideP hb; clear hb))
  go_ret
  exact ⟨rfl, HBL.out.trans (HB.out.mono HBL.out.size)⟩
/-! The law's own question whether a time is told. -/
def tmW1 : Tm := ⟨2006, 1, 2, 15, 0, 0, 0, utcB, 0⟩
def tmW2 : Tm := ⟨2006, 1, 2, 0, 0, 0, 0, utcB, 0⟩
theorem tmW1_ok : TmOk tmW1 := ⟨⟨by decide, by decide, by decide, by decide, by decide, fun h => by cases h⟩, ⟨by decide, by decide, by decide⟩, by decide, by decide, by decide, by decide, by decide, .inl rfl, fun _ => rfl⟩
theorem tmW2_ok : TmOk tmW2 := ⟨⟨by decide, by decide, by decide, by decide, by decide, fun h => by cases h⟩, ⟨by decide, by decide, by decide⟩, by decide, by decide, by decide, by decide, by decide, .inl rfl, fun _ => rfl⟩
def wB : ByteArray := ⟨#[50, 48, 48, 54, 32, 49, 53]⟩
theorem tmW1_txt : mkB (fmtL tmW1 (bl wB)) = wB := by
  have h : fmtL tmW1 (bl wB) = padL 48 2006 4 ++ (32 :: (padL 48 15 2 ++ [])) := by kernel_rfl
  rw [h, pad4 (by decide), pad2 (by decide)]
  rfl
theorem tmW2_txt : 0 < (mkB (fmtL tmW2 (bl strB))).size := by
  have h : ∃ r, fmtL tmW2 (bl strB) = padL 48 2006 4 ++ r := ⟨_, (fmtL_some tmW2 _ 275 0 4 (by decide +kernel)).trans rfl⟩
  obtain ⟨r, hr⟩ := h
  rw [hr, mkB_size, pad4 (by decide)]; simp
theorem fmtW (w : World) (hT : TabOk w) : Calls Tryd.prog 24 #[.agg #[.int .i64 2006, .int .i64 1, .int .i64 2, .int .i64 15, .int .i64 0, .int .i64 0, .int .i64 0, .string ⟨#[85, 84, 67]⟩, .int .i64 0], .string wB] w (TextPost wB w) := by
  have := fmtImpl_any tmW1 wB w tmW1_ok hT (by decide)
  rw [tmW1_txt] at this
  exact this
theorem strW (w : World) (hT : TabOk w) : Calls Tryd.prog 55 #[.agg #[.int .i64 2006, .int .i64 1, .int .i64 2, .int .i64 0, .int .i64 0, .int .i64 0, .int .i64 0, .string ⟨#[85, 84, 67]⟩, .int .i64 0]] w (fun e w' => ∃ s, e = .returned (.string s) ∧ 0 < s.size ∧ Below w.heap.size w w') :=
  (strImpl_any tmW2 w tmW2_ok hT).mono fun e w' ⟨he, hb⟩ => ⟨_, he, tmW2_txt, hb⟩
def TrueTo (w : World) (e : Ending) (w' : World) : Prop := e = .returned (.bool true) ∧ Below w.heap.size w w'
set_option maxRecDepth 100000 in
set_option maxHeartbeats 800000 in
theorem writes_any (w : World) (hT : TabOk w) : Calls Tryd.prog 27 #[] w (TrueTo w) := by
  have HT := hideP hT
  have hq : wB.toList = [50, 48, 48, 54, 32, 49, 53] := by rw [toList_eq]; rfl
  clear hT
  go_enter Tryd.func27, Tryd.ntmps27
  go_wp2_with (first
    | (go_at_call 24; refine (fmtW _ HT.out).mono ?_; rintro e w1 ⟨rfl, hb⟩; have HB := hideP hb; clear hb)
    | (go_at_call 55; refine (strW _ (HT.out.below HB.out)).mono ?_; rintro e w2 ⟨s, rfl, hs, hb⟩; have t2 : s.toList ≠ [] := toList_ne s hs; have t3 : s.toList.isEmpty = false := isEmpty_ne s hs; have HB2 := hideP hb; clear hb hs))
  go_ret
  exact ⟨by simp, HB.out.trans (HB2.out.mono HB.out.size)⟩
end Go.Proofs.YtigabjibdepoiaaDoor.Tm
