/- Str2: what is needed here. -/
import Derived.Deep.RegionHeld3
import Derived.Test.YtdgckbjfnbljkaaDoorProg
import Derived.Test.YtdgckbjfnbljkaaDoorCiv
namespace Go.Proofs.YtdgckbjfnbljkaaDoor.Tm
set_option linter.unusedSimpArgs false
set_option linter.unusedVariables false
open Go.RowKit Go
set_option maxRecDepth 100000 in
set_option maxHeartbeats 800000 in
theorem addSec_any (p : Nat) (n : Nat) (x d : Int) (w : World) (hn : n ≤ 999999999) (x1 : -100000000000000 ≤ x) (x2 : x ≤ 100000000000000) (d1 : -86400 ≤ d) (d2 : d ≤ 86400) (c0 : w.cell? ⟨p, 0, none⟩ = some (.int .u64 n)) (c1 : w.cell? ⟨p, 1, none⟩ = some (.int .i64 x)) (hf : w.frozen? ⟨p, 1, none⟩ = false) :
    Calls Tryd.prog 18 #[.pointer (some ⟨p, 0, none⟩), .int .i64 d] w (fun e w' => e = .returned (.tuple #[]) ∧ w' = w.setCell ⟨p, 1, none⟩ (.int .i64 (x + d))) := by
  have ha := and_mono n hn
  by_cases hd : 0 < d
  · have h1 : x < x + d := by omega
    have h2 : decide (x < x + d) = true := decide_eq_true h1
    have h3 : decide (0 < d) = true := decide_eq_true hd
    go_enter Tryd.func18, Tryd.ntmps18
    go_wp2
    go_end0
    exact ⟨rfl, rfl⟩
  · have h1 : ¬ x < x + d := by omega
    have h2 : decide (x < x + d) = false := decide_eq_false h1
    have h3 : decide (0 < d) = false := decide_eq_false hd
    go_enter Tryd.func18, Tryd.ntmps18
    go_wp2
    go_end0
    exact ⟨rfl, rfl⟩
theorem tup2 {a b a' b' : Value} (h1 : a = a') (h2 : b = b') : Ending.returned (.tuple #[a, b]) = .returned (.tuple #[a', b']) := by rw [h1, h2]
def ZonePost (t : Tm) (w : World) (e : Ending) (w' : World) : Prop := ∃ s : ByteArray, e = .returned (.tuple #[.string s, .int .i64 t.off]) ∧ Below w.heap.size w w'
set_option maxRecDepth 100000 in
set_option maxHeartbeats 800000 in
theorem get_none2 (w : World) (sec : Int) : Calls Tryd.prog 19 #[.pointer none, .int .i64 sec] w (fun e w' => e = .returned (.tuple #[.string ⟨#[85, 84, 67]⟩, .int .i64 0, .int .i64 (-9223372036854775808), .int .i64 9223372036854775807, .bool false]) ∧ Below w.heap.size w w') := by
  go_enter Tryd.func19, Tryd.ntmps19
  go_wp2_with (go_at_call 35; refine (get_none _).mono ?_; rintro e w1 ⟨b, rfl, hb, hu, hbel⟩; have hu0 := hu.c0; have hu2 := hu.c2; have HB := hideP hbel; clear hu hb hbel)
  (try simp only [Exit.inBlock, Exit.then]); refine bodyPost_ret (results_tmp5 rfl _ _ _) rfl ?_
  exact ⟨rfl, HB.out⟩
set_option maxRecDepth 100000 in
set_option maxHeartbeats 1600000 in
theorem zone_any (t : Tm) (loc : Value) (w : World) (h : TmD t) (hp : LocV w t loc) : Calls Tryd.prog 12 #[tmV t loc] w (ZonePost t w) := by
  have H := hideP h
  have hns := h.ns
  have o1 := h.off1
  have hx : -100000000000000 ≤ unixOf t + 62135596800 ∧ unixOf t + 62135596800 ≤ 100000000000000 := by
    have := toldD_b h
    have := h.off0
    have := h.off1
    unfold unixOf; omega
  have HX := hideP hx
  have HNS := hideP hns
  clear h hns hx
  have HB0 := hideP (below_alloc w (.cells #[.int .u64 t.ns, .int .i64 (unixOf t + 62135596800), loc] 33))
  have k0 := cell_of_row _ _ 0 _ _ (0, 0) (heap_alloc_new w (.cells #[.int .u64 t.ns, .int .i64 (unixOf t + 62135596800), loc] 33))
  have k1 := cell_of_row _ _ 1 _ _ (0, 0) (heap_alloc_new w (.cells #[.int .u64 t.ns, .int .i64 (unixOf t + 62135596800), loc] 33))
  have k2 := cell_of_row _ _ 2 _ _ (0, 0) (heap_alloc_new w (.cells #[.int .u64 t.ns, .int .i64 (unixOf t + 62135596800), loc] 33))
  have HK := hideP (show ∀ w2, Below (w.alloc (.cells #[.int .u64 t.ns, .int .i64 (unixOf t + 62135596800), loc] 33)).heap.size (w.alloc (.cells #[.int .u64 t.ns, .int .i64 (unixOf t + 62135596800), loc] 33)) w2 → w2.cell? ⟨w.heap.size, 0, none⟩ = some (.int .u64 t.ns) ∧ w2.cell? ⟨w.heap.size, 1, none⟩ = some (.int .i64 (unixOf t + 62135596800)) ∧ w2.cell? ⟨w.heap.size, 2, none⟩ = some loc from fun w2 hb => ⟨(hb.cell (World.block_lt_of_cell? _ _ k0)).trans k0, (hb.cell (World.block_lt_of_cell? _ _ k1)).trans k1, (hb.cell (World.block_lt_of_cell? _ _ k2)).trans k2⟩)
  clear k0 k1 k2
  rcases hp with ⟨rfl, ho⟩ | ⟨b, zb, tb, rfl, hl⟩
  · have HO := hideP ho
    clear ho
    unfold tmV
    go_enter Tryd.func12, Tryd.ntmps12
    go_wp2
    generalize (w.alloc (.cells #[.int .u64 t.ns, .int .i64 (unixOf t + 62135596800), .pointer none] 33)) = W at *
    have HC := hideP (show Below W.heap.size W W.drew from (Below.refl _ _).drew)
    obtain ⟨d0, d1, d2⟩ := HK.out _ HC.out
    go_region_held3 (fun w' => w'.cell? ⟨w.heap.size, 0, none⟩ = some (.int .u64 t.ns) ∧ w'.cell? ⟨w.heap.size, 1, none⟩ = some (.int .i64 (unixOf t + 62135596800)) ∧ w'.cell? ⟨w.heap.size, 2, none⟩ = some (.pointer none)) (go_keep)
      (first
        | (go_at_call 20; refine (unixSec_any w.heap.size t.ns (unixOf t + 62135596800) _ HNS.out HX.out (HK.out _ HC.out).1 (HK.out _ HC.out).2.1).mono ?_; rintro e w5 ⟨rfl, rfl⟩)
        | (go_at_call 19; refine (get_none2 _ _).mono ?_; rintro e w6 ⟨rfl, hb⟩; have HC := hideP (HC.out.trans (hb.mono HC.out.size)); obtain ⟨d0, d1, d2⟩ := HK.out _ HC.out; clear hb))
    all_goals (go_wp2; go_ret2; exact ⟨_, tup2 rfl (congrArg (Value.int .i64) HO.out.symm), HB0.out.trans (HC.out.mono HB0.out.size)⟩)
  · have hoff : t.off ≤ 86399 := o1
    have HU := hideP (show -9223372036854775808 ≤ unixOf t ∧ unixOf t < 9223372036854775807 by have := HX.out; omega)
    have HL := hideP (hl.kept (below_alloc w (.cells #[.int .u64 t.ns, .int .i64 (unixOf t + 62135596800), .pointer (some ⟨b, 0, none⟩)] 33)))
    clear hl hoff o1
    unfold tmV
    go_enter Tryd.func12, Tryd.ntmps12
    go_wp2
    generalize (w.alloc (.cells #[.int .u64 t.ns, .int .i64 (unixOf t + 62135596800), .pointer (some ⟨b, 0, none⟩)] 33)) = W at *
    have HC := hideP (show Below W.heap.size W W.drew from (Below.refl _ _).drew)
    obtain ⟨d0, d1, d2⟩ := HK.out _ HC.out
    go_region_held3 (fun w' => w'.cell? ⟨w.heap.size, 0, none⟩ = some (.int .u64 t.ns) ∧ w'.cell? ⟨w.heap.size, 1, none⟩ = some (.int .i64 (unixOf t + 62135596800)) ∧ w'.cell? ⟨w.heap.size, 2, none⟩ = some (.pointer (some ⟨b, 0, none⟩))) (go_keep)
      (first
        | (go_at_call 20; refine (unixSec_any w.heap.size t.ns (unixOf t + 62135596800) _ HNS.out HX.out (HK.out _ HC.out).1 (HK.out _ HC.out).2.1).mono ?_; rintro e w5 ⟨rfl, rfl⟩)
        | (go_at_call 19; refine (lookup_loc b t.zn t.off _ zb tb _ (HL.out.kept HC.out) HU.out.1 HU.out.2).mono ?_; rintro e w6 ⟨rfl, rfl⟩))
    all_goals (go_wp2; go_ret2; exact ⟨_, rfl, HB0.out.trans (HC.out.mono HB0.out.size)⟩)
end Go.Proofs.YtdgckbjfnbljkaaDoor.Tm
