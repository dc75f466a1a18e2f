/- More of the buffer: cut longer within its capacity, made longer by zeros, a byte stored, a byte read. -/
import Derived.Test.YtigabjibdepoiaaDoorBuf
namespace Go.Proofs.YtigabjibdepoiaaDoor.Tm
set_option linter.unusedSimpArgs false
set_option linter.unusedVariables false
open Go.RowKit Go
theorem slice_own {g n cap : Nat} {xs : List Value} {w : World} {base : Nat} (h : Buf w base (.slice (some ⟨g, 0, none⟩) n cap) xs) :
    n = xs.length ∧ base ≤ g ∧ n ≤ cap ∧ cap ≤ maxLen ∧ g < w.heap.size ∧ ∃ cur tag, w.heap[g]? = some (.cells cur tag (0, 0)) ∧ cur.size = cap ∧ cur.toList.take xs.length = xs := by
  obtain ⟨g', cap', cur, tag, hv, hb, hg, h1, h2, h3, h4⟩ := h
  simp only [Value.slice.injEq, Option.some.injEq, Addr.mk.injEq, and_true, true_and] at hv
  obtain ⟨rfl, rfl, rfl⟩ := hv
  exact ⟨rfl, hb, h1, h2, (Array.getElem?_eq_some_iff.1 hg).1, cur, tag, hg, h3, h4⟩
theorem Buf.cut {w : World} {base g cap : Nat} {ys : List Value} {l : Nat} (h : Buf w base (.slice (some ⟨g, 0, none⟩) l cap) ys) (n : Nat) (hn : l + n ≤ cap) :
    ∃ junk : List Value, junk.length = n ∧ Buf w base (.slice (some ⟨g, 0, none⟩) (l + n) cap) (ys ++ junk) := by
  obtain ⟨rfl, hb, h1, h2, hlt, cur, tag, hg, h3, h4⟩ := slice_own h
  have hjl : ((cur.toList.drop ys.length).take n).length = n := by
    rw [List.length_take, List.length_drop, Array.length_toList, h3]; omega
  refine ⟨(cur.toList.drop ys.length).take n, hjl, g, cap, cur, tag, by rw [List.length_append, hjl], hb, hg, by rw [List.length_append, hjl]; exact hn, h2, h3, ?_⟩
  rw [List.length_append, hjl, List.take_add, h4]
theorem Buf.shorter {w : World} {base g cap : Nat} {xs ys : List Value} {l : Nat} (h : Buf w base (.slice (some ⟨g, 0, none⟩) l cap) (xs ++ ys)) : Buf w base (.slice (some ⟨g, 0, none⟩) xs.length cap) xs := by
  obtain ⟨rfl, hb, h1, h2, hlt, cur, tag, hg, h3, h4⟩ := slice_own h
  rw [List.length_append] at h1 h4
  refine ⟨g, cap, cur, tag, rfl, hb, hg, by omega, h2, h3, ?_⟩
  have := congrArg (List.take xs.length) h4
  rwa [List.take_take, Nat.min_eq_left (by omega), List.take_left] at this
theorem Buf.cellAt {w : World} {base g n cap : Nat} {xs : List Value} (h : Buf w base (.slice (some ⟨g, 0, none⟩) n cap) xs) (i : Nat) (hi : i < xs.length) : w.cell? ⟨g, i, none⟩ = some xs[i] := by
  obtain ⟨rfl, hb, h1, h2, hlt, cur, tag, hg, h3, h4⟩ := slice_own h
  rw [cell_of_row w g i cur tag (0, 0) hg]
  have : (cur.toList.take xs.length)[i]? = xs[i]? := by rw [h4]
  rw [List.getElem?_take, if_pos hi] at this
  rw [← Array.getElem?_toList, this, List.getElem?_eq_getElem hi]
theorem Buf.frozenAt {w : World} {base g n cap : Nat} {xs : List Value} (h : Buf w base (.slice (some ⟨g, 0, none⟩) n cap) xs) (i : Nat) : w.frozen? ⟨g, i, none⟩ = false := by
  obtain ⟨rfl, hb, h1, h2, hlt, cur, tag, hg, h3, h4⟩ := slice_own h
  exact frozen_of_row w g i cur tag hg
theorem Buf.store {w : World} {base g n cap : Nat} {xs : List Value} (h : Buf w base (.slice (some ⟨g, 0, none⟩) n cap) xs) (i : Nat) (u : Value) :
    Buf (w.setCell ⟨g, i, none⟩ u) base (.slice (some ⟨g, 0, none⟩) n cap) (xs.set i u) ∧ Moved w (.slice (some ⟨g, 0, none⟩) n cap) (w.setCell ⟨g, i, none⟩ u) (.slice (some ⟨g, 0, none⟩) n cap) := by
  obtain ⟨rfl, hb, h1, h2, hlt, cur, tag, hg, h3, h4⟩ := slice_own h
  refine ⟨⟨g, cap, cur.setIfInBounds i u, tag, by rw [List.length_set], hb, heap_setCell_same w g i cur tag u hg, by rwa [List.length_set], h2, by simpa using h3, ?_⟩,
    ⟨⟨rfl, rfl, rfl, by simp, fun k _ hk => heap_setCell_other w ⟨g, i, none⟩ k u (fun e => hk (by simp [e, Value.ownBlock]))⟩, .inl rfl⟩⟩
  rw [Array.toList_setIfInBounds, List.length_set, List.take_set, h4]
theorem set_mid (a b : List Value) (x u : Value) (i : Nat) (h : i = a.length) : (a ++ x :: b).set i u = a ++ u :: b := by
  subst h; simp
theorem run_buf_zeros (ty : TypeId) (w : World) (base : Nat) (g cap l : Nat) (xs : List Value) (hv : Buf w base (.slice (some ⟨g, 0, none⟩) l cap) xs) (n : Nat) (hn : 0 < n) (hroom : ¬ l + n ≤ cap)
    (hsz : l + n ≤ 140737488355328) (hbase : base ≤ w.heap.size) :
    ∃ v' w', (Builtin.append_ #[51, 3] ty #[.slice (some ⟨g, 0, none⟩) l cap, .int .i64 n]).run Tryd.prog w = .ok v' w' ∧ Buf w' base v' (xs ++ List.replicate n (.int .u8 0)) ∧ Moved w (.slice (some ⟨g, 0, none⟩) l cap) w' v' := by
  obtain ⟨i, hi, hz, hi1, hi2⟩ := info_parts info8
  obtain ⟨rfl, hb, h1, h2, hlt, cur, tag, hg, h3, h4⟩ := slice_own hv
  have hlen : (xs ++ List.replicate n (Value.int .u8 0)).length = xs.length + n := by rw [List.length_append, List.length_replicate]
  have holds : ∀ j u, xs[j]? = some u → w.drew.cell? ((⟨g, 0, none⟩ : Addr).add j) = some u := by
    intro j u hu
    have hadd : (⟨g, 0, none⟩ : Addr).add j = ⟨g, j, none⟩ := by unfold Addr.add; split <;> simp_all
    rw [hadd, cell_of_row w.drew g j cur tag (0, 0) hg]
    rw [← h4, List.getElem?_take] at hu
    split at hu
    · simpa using hu
    · cases hu
  have hold : (Builtin.firstCells i.size xs.length (.slice (some ⟨g, 0, none⟩) xs.length cap)).run Tryd.prog w.drew = .ok xs.toArray w.drew :=
    run_firstCells_some w.drew i.size xs.length ⟨g, 0, none⟩ xs.length cap xs (by rw [hi1, Nat.mul_one]) holds
  rw [hi1] at hold
  have hfit : Builtin.nextslicecap (xs.length + n) cap * 1 ≤ 281474976710656 := growslice_fits (by omega) (by omega)
  have hge := grownCap_ge w (xs.length + n) cap 5
  have hcm : grownCap w (xs.length + n) cap 5 ≤ maxLen := grownCap_le_maxLen w (xs.length + n) cap 5 (by simp only [maxLen]; omega)
  have hrun : (Builtin.append_ #[51, 3] ty #[.slice (some ⟨g, 0, none⟩) xs.length cap, .int .i64 n]).run Tryd.prog w =
      .ok (.slice (some ⟨w.heap.size, 0, none⟩) (xs.length + n) (grownCap w (xs.length + n) cap 5))
        (w.drew.alloc (.cells (xs.toArray ++ Builtin.zeroCells (Value.int .u8 0).cells n ++ Builtin.zeroCells (Value.int .u8 0).cells (grownCap w (xs.length + n) cap 5 - (xs.length + n))) 5)) := by
    have hw : IntKind.i64.wrap (n : Int) = n := by rw [IntKind.wrap_i64]; omega
    have a1 : ¬ ((n : Int) < 0) := by omega
    have a2 : ¬ (281474976710656 < (n : Int)) := by omega
    have a3 : ¬ (9223372036854775807 < ((xs.length : Int) + (n : Int))) := by omega
    have a4 : ¬ (281474976710656 < Builtin.nextslicecap (xs.length + n) cap) := by omega
    have a5 : n ≠ 0 := by omega
    have a6 : ¬ ((n : Int) ≤ 0) := by omega
    have a7 : ((n : Int)).toNat = n := Int.toNat_natCast n
    simp [Builtin.append_, run_underlying Tryd.underlying51, run_underlying Tryd.underlying3, sizeOf, typeInfo, zeroValue, asInt, asIntOf, hi, hz, hi1, hi2, hw, a1, a2, a3, a4, a5, a6, a7, hroom, Question.forced, hold, newRow, grownCap]
  refine ⟨_, _, hrun, ⟨w.heap.size, _, _, 5, by rw [hlen], hbase, heap_alloc_new w.drew _, by omega, hcm, ?_, ?_⟩, ⟨⟨rfl, rfl, rfl, by simp, fun k hk _ => Below.heap_alloc w.drew _ k hk⟩, .inr ⟨w.heap.size, rfl, Nat.le_refl _⟩⟩⟩
  · simp only [Array.size_append, List.size_toArray, size_zeroCells]
    simp [Value.cells]
    omega
  · rw [Array.toList_append, Array.toList_append]
    have hz2 : (Builtin.zeroCells (Value.int .u8 0).cells n).toList = List.replicate n (.int .u8 0) := by
      apply List.ext_getElem?
      intro j
      by_cases hj : j < n
      · simp [Builtin.zeroCells, Value.cells, hj, Nat.mod_one]
      · simp [Builtin.zeroCells, Value.cells, hj]
    rw [hz2]
    exact List.take_left
theorem wpList_buf_zeros {w : World} {ops : Array Oper} {rest : List Oper} {o : Oper} {a : Act} {Q : Exit → Act → World → Prop} (hgd : o.guard = none) (s y : Operand)
    (ho : o.op = .call { callee := .builtin .append, args := #[s, y], argTypes := #[51, 3] })
    (base g l cap : Nat) (xs : List Value) (hsv : a.eval s = .slice (some ⟨g, 0, none⟩) l cap) (hv : Buf w base (.slice (some ⟨g, 0, none⟩) l cap) xs) (n : Nat) (hxv : a.eval y = .int .i64 n) (hn : 0 < n) (hroom : ¬ l + n ≤ cap)
    (hsz : l + n ≤ 140737488355328) (hbase : base ≤ w.heap.size)
    (h : ∀ v' w', Buf w' base v' (xs ++ List.replicate n (.int .u8 0)) → Moved w (.slice (some ⟨g, 0, none⟩) l cap) w' v' → wpList Tryd.prog ops Q rest (a.put o.dst v') w') : wpList Tryd.prog ops Q (o :: rest) a w := by
  refine wpList_plain hgd fun K hK => ?_
  obtain ⟨v', w', hr, h2, h3⟩ := run_buf_zeros o.type w base g cap l xs hv n hn hroom hsz hbase
  unfold Oper.wp execOp
  simp only [ho, resolve, invoke, builtin, Sem.run_bind, Sem.run_pure, Result.andThen_ok, List.map_toArray, List.map_cons, List.map_nil, hsv, hxv, hr]
  exact hK _ _ (h v' w' h2 h3)
end Go.Proofs.YtigabjibdepoiaaDoor.Tm
