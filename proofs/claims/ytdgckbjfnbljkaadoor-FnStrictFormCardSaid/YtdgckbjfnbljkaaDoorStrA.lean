/- What the walk of parseRFC3339 states. -/
import Derived.Deep.RegionWith
import Derived.Deep.CutBlock
import Derived.Test.YtdgckbjfnbljkaaDoorStr3
import Derived.Test.YtdgckbjfnbljkaaDoorStr1
import Derived.Test.YtdgckbjfnbljkaaDoorNanoS
import Derived.Test.YtdgckbjfnbljkaaDoorSpF
namespace Go.Proofs.YtdgckbjfnbljkaaDoor.Tm
set_option linter.unusedSimpArgs false
set_option linter.unusedVariables false
open Go.RowKit Go
/-- What stands while a text is read: the result's cells, the variable ok. -/
structure PSt (w0 : World) (w : World) (b : Bool) : Prop where
  bel : Below w0.heap.size w0 w
  res : Blk w w0.heap.size 33 #[.int .u64 0, .int .i64 0, .pointer none]
  ok : OkAt w (w0.heap.size + 1) b
theorem PSt.go {w0 w w' : World} {b b' : Bool} (h : PSt w0 w b) (hg : w.grownBy w' (some (w0.heap.size + 1))) (hok : OkAt w' (w0.heap.size + 1) b') : PSt w0 w' b' :=
  ⟨⟨hg.os.trans h.bel.os, hg.tape.trans h.bel.tape, hg.output.trans h.bel.output, Nat.le_trans h.bel.size hg.size, fun k hk => (hg.block k (Nat.lt_of_lt_of_le hk h.bel.size) (by intro e; injection e; omega)).trans (h.bel.block k hk)⟩,
   (hg.block _ h.res.lt (by intro e; injection e; omega)).trans h.res, hok⟩
theorem PSt.kept {w0 w w' : World} {b : Bool} (h : PSt w0 w b) (hb : Below w.heap.size w w') : PSt w0 w' b := ⟨h.bel.trans (hb.mono h.bel.size), h.res.kept hb, h.ok.kept hb⟩
theorem pst_start (w : World) : PSt w ((w.alloc (.cells #[.int .u64 0, .int .i64 0, .pointer none] 33)).alloc (.cells #[.bool true] 4)) true :=
  ⟨(below_alloc w _).alloc (by simp) _, (Blk.new w _ _).alloc _, by
    have h := Blk.new (w.alloc (.cells #[.int .u64 0, .int .i64 0, .pointer none] 33)) 4 #[.bool true]
    have e : (w.alloc (.cells #[.int .u64 0, .int .i64 0, .pointer none] 33)).heap.size = w.heap.size + 1 := by simp
    rw [e] at h
    exact h⟩
/-- The form of a text that is read. -/
def DigAt (s : ByteArray) (a b : Nat) : Prop := ∀ c ∈ bl (s.extract a b), isDig c = true
def SepAt (s : ByteArray) : Prop := (bl s)[4]? = some 45 ∧ (bl s)[7]? = some 45 ∧ (bl s)[10]? = some 84 ∧ (bl s)[13]? = some 58 ∧ (bl s)[16]? = some 58
structure FormP (s : ByteArray) : Prop where
  len : 20 ≤ s.size
  y : DigAt s 0 4
  mo : DigAt s 5 7
  d : DigAt s 8 10
  h : DigAt s 11 13
  mi : DigAt s 14 16
  sc : DigAt s 17 19
  s4 : (bl s)[4]? = some 45
  s7 : (bl s)[7]? = some 45
  s10 : (bl s)[10]? = some 84
  s13 : (bl s)[13]? = some 58
  s16 : (bl s)[16]? = some 58
  last : ∃ c, (bl s)[s.size - 1]? = some c ∧ (c = 90 ∨ isDig c = true)
/-- A place that a time bears, laid not below n. -/
def LocN (n : Nat) (w : World) (t : Tm) (loc : Value) : Prop := (loc = .pointer none ∧ t.off = 0) ∨ ∃ b zb tb, loc = .pointer (some ⟨b, 0, none⟩) ∧ n ≤ b ∧ n ≤ zb ∧ LocAt w b t.zn t.off zb tb
theorem LocN.locV {n : Nat} {w : World} {t : Tm} {loc : Value} (h : LocN n w t loc) : LocV w t loc := by
  rcases h with h | ⟨b, zb, tb, h1, _, _, h2⟩
  · exact .inl h
  · exact .inr ⟨b, zb, tb, h1, h2⟩
theorem LocN.le {n m : Nat} {w : World} {t : Tm} {loc : Value} (h : LocN n w t loc) (hm : m ≤ n) : LocN m w t loc := by
  rcases h with h | ⟨b, zb, tb, h1, h2, h3, h4⟩
  · exact .inl h
  · exact .inr ⟨b, zb, tb, h1, Nat.le_trans hm h2, Nat.le_trans hm h3, h4⟩
theorem LocN.kept {n : Nat} {w w' : World} {t : Tm} {loc : Value} (h : LocN n w t loc) (hb : Below w.heap.size w w') : LocN n w' t loc := by
  rcases h with h | ⟨b, zb, tb, h1, h2, h3, h4⟩
  · exact .inl h
  · exact .inr ⟨b, zb, tb, h1, h2, h3, h4.kept hb⟩
theorem loc_far {w : World} {b : Nat} {s : ByteArray} {z : Int} {zb tb g : Nat} (h : LocAt w b s z zb tb) (hb : b ≠ g) (hz : zb ≠ g) (i : Nat) (v : Value) : LocAt (w.setCell ⟨g, i, none⟩ v) b s z zb tb := by
  have k : ∀ (p : Addr) (u : Value), p.block ≠ g → w.cell? p = some u → (w.setCell ⟨g, i, none⟩ v).cell? p = some u := by
    intro p u hp hc
    rw [World.cell?_setCell_other _ _ p _ (fun e => hp (by rw [← e]))]
    exact hc
  exact ⟨k _ _ hb h.c0, k _ _ hb h.c1, k _ _ hb h.c2, k _ _ hb h.c3, k _ _ hb h.c5, k _ _ hb h.c6, k _ _ hb h.c7, k _ _ hz h.z0, k _ _ hz h.z1, k _ _ hz h.z2⟩
theorem LocN.far {n : Nat} {w : World} {t : Tm} {loc : Value} (h : LocN n w t loc) {g : Nat} (hg : g < n) (i : Nat) (v : Value) : LocN n (w.setCell ⟨g, i, none⟩ v) t loc := by
  rcases h with h | ⟨b, zb, tb, h1, h2, h3, h4⟩
  · exact .inl h
  · exact .inr ⟨b, zb, tb, h1, h2, h3, loc_far h4 (by omega) (by omega) _ _⟩
def ParsePost (s : ByteArray) (w : World) (e : Ending) (w' : World) : Prop := Below w.heap.size w w' ∧
  (e = .returned (.tuple #[.agg #[.int .u64 0, .int .i64 0, .pointer none], .bool false]) ∨ ∃ t loc, e = .returned (.tuple #[tmV t loc, .bool true]) ∧ TmD t ∧ LocN w.heap.size w' t loc ∧ FormP s)
theorem ext_le (s : ByteArray) (a b : Nat) (h : b ≤ a + 4) : (s.extract a b).size ≤ 10 := by rw [ByteArray.size_extract]; omega
theorem exit_no (s : ByteArray) (w W : World) (b : Bool) (h : PSt w W b) : Below w.heap.size w (((W.setCell ⟨w.heap.size, 0, none⟩ (.int .u64 0)).setCell ⟨w.heap.size, 1, none⟩ (.int .i64 0)).setCell ⟨w.heap.size, 2, none⟩ (.pointer none)) ∧
    Blk (((W.setCell ⟨w.heap.size, 0, none⟩ (.int .u64 0)).setCell ⟨w.heap.size, 1, none⟩ (.int .i64 0)).setCell ⟨w.heap.size, 2, none⟩ (.pointer none)) w.heap.size 33 #[.int .u64 0, .int .i64 0, .pointer none] :=
  ⟨((h.bel.setCell (Nat.le_refl _) _).setCell (Nat.le_refl _) _).setCell (Nat.le_refl _) _, ((h.res.set 0 _).set 1 _).set 2 _⟩
theorem Blk.three {w : World} {g : Nat} {T : TypeId} {a0 a1 a2 : Value} (h : Blk w g T #[a0, a1, a2]) (b0 b1 b2 : Value) :
    w.cell? ⟨g, 0, none⟩ = some a0 ∧ w.frozen? ⟨g, 0, none⟩ = false ∧ (w.setCell ⟨g, 0, none⟩ b0).cell? ⟨g, 1, none⟩ = some a1 ∧ (w.setCell ⟨g, 0, none⟩ b0).frozen? ⟨g, 1, none⟩ = false ∧
    ((w.setCell ⟨g, 0, none⟩ b0).setCell ⟨g, 1, none⟩ b1).cell? ⟨g, 2, none⟩ = some a2 ∧ ((w.setCell ⟨g, 0, none⟩ b0).setCell ⟨g, 1, none⟩ b1).frozen? ⟨g, 2, none⟩ = false ∧
    (((w.setCell ⟨g, 0, none⟩ b0).setCell ⟨g, 1, none⟩ b1).setCell ⟨g, 2, none⟩ b2).cell? ⟨g, 0, none⟩ = some b0 ∧ (((w.setCell ⟨g, 0, none⟩ b0).setCell ⟨g, 1, none⟩ b1).setCell ⟨g, 2, none⟩ b2).cell? ⟨g, 1, none⟩ = some b1 ∧
    (((w.setCell ⟨g, 0, none⟩ b0).setCell ⟨g, 1, none⟩ b1).setCell ⟨g, 2, none⟩ b2).cell? ⟨g, 2, none⟩ = some b2 :=
  ⟨h.cell 0, h.free 0, (h.set 0 b0).cell 1, (h.set 0 b0).free 1, ((h.set 0 b0).set 1 b1).cell 2, ((h.set 0 b0).set 1 b1).free 2, (((h.set 0 b0).set 1 b1).set 2 b2).cell 0, (((h.set 0 b0).set 1 b1).set 2 b2).cell 1, (((h.set 0 b0).set 1 b1).set 2 b2).cell 2⟩
theorem tm_ok0 (y mo d h mi sc ns : Nat) (y1 : (y : Int) ≤ 9999) (m0 : 1 ≤ (mo : Int)) (m1 : (mo : Int) ≤ 12) (d0 : 1 ≤ (d : Int)) (d1 : (d : Int) ≤ (daysIn y mo : Nat)) (h1 : (h : Int) ≤ 23) (mi1 : (mi : Int) ≤ 59) (s1 : (sc : Int) ≤ 59) (n1 : ns ≤ 999999999) : TmOk ⟨y, mo, d, h, mi, sc, ns, utcB, 0⟩ := by
  obtain ⟨a, b⟩ := mLen_days y mo d (by omega) (by omega) (by omega)
  exact ⟨⟨by show y ≤ 9999; omega, by show 1 ≤ mo; omega, by show mo ≤ 12; omega, by show 1 ≤ d; omega, a, b⟩, ⟨by show h ≤ 23; omega, by show mi ≤ 59; omega, by show sc ≤ 59; omega⟩, n1, (by decide : 0 < utcB.size), (by decide : utcB.size ≤ 100), (by decide : (-86399 : Int) ≤ 0), (by decide : (0 : Int) ≤ 86399), .inl rfl, fun _ => rfl⟩
end Go.Proofs.YtdgckbjfnbljkaaDoor.Tm
