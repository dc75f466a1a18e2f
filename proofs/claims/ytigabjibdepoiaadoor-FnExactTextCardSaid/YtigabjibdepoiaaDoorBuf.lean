/- A buffer of bytes that the call itself made: what each append, cut and store leaves of it. -/
import Derived.WalkKit
import Derived.Deep.AppendSrc
import Derived.Test.YtigabjibdepoiaaDoorProg
import Derived.Test.YtigabjibdepoiaaDoorBase
namespace Go.Proofs.YtigabjibdepoiaaDoor.Tm
set_option linter.unusedSimpArgs false
set_option linter.unusedVariables false
open Go.RowKit Go

/-- The slice v begins at the head of a block of the call's own (from 'base' on), and its elements are xs. -/
def Buf (w : World) (base : Nat) (v : Value) (xs : List Value) : Prop :=
  ∃ g cap cur tag, v = .slice (some ⟨g, 0, none⟩) xs.length cap ∧ base ≤ g ∧ w.heap[g]? = some (.cells cur tag (0, 0)) ∧ xs.length ≤ cap ∧ cap ≤ maxLen ∧ cur.size = cap ∧ cur.toList.take xs.length = xs
/-- A byte as a cell. -/
def u8 (c : UInt8) : Value := .int .u8 c.toNat
def bytes (l : List UInt8) : List Value := l.map u8
theorem bytes_append (a b : List UInt8) : bytes (a ++ b) = bytes a ++ bytes b := by simp [bytes]
theorem bytes_length (a : List UInt8) : (bytes a).length = a.length := by simp [bytes]
theorem bytes_one (l : List UInt8) : ∀ u ∈ bytes l, u.oneCell' = true := by
  intro u hu; obtain ⟨c, _, rfl⟩ := List.mem_map.1 hu; rfl

/-- What a step leaves of the world: but the buffer's own block all is as it was; the buffer stays where it is, or goes to a new block. -/
structure Moved (w : World) (v : Value) (w' : World) (v' : Value) : Prop where
  grown : w.grownBy w' v.ownBlock
  place : v'.ownBlock = v.ownBlock ∨ ∃ g, v'.ownBlock = some g ∧ w.heap.size ≤ g
theorem grown_refl (w : World) (row : Option Nat) : w.grownBy w row := ⟨rfl, rfl, rfl, Nat.le_refl _, fun _ _ _ => rfl⟩
theorem Moved.refl (w : World) (v : Value) : Moved w v w v := ⟨grown_refl _ _, .inl rfl⟩
theorem Moved.same {w w' : World} {v v' : Value} (h : w.grownBy w' v.ownBlock) (hv : v'.ownBlock = v.ownBlock) : Moved w v w' v' := ⟨h, .inl hv⟩
theorem Moved.trans {a b c : World} {u v x : Value} (h : Moved a u b v) (k : Moved b v c x) : Moved a u c x := by
  refine ⟨?_, ?_⟩
  · rcases h.place with e | ⟨g, e, hg⟩
    · exact World.grownBy.trans h.grown (e ▸ k.grown)
    · exact ⟨k.grown.os.trans h.grown.os, k.grown.tape.trans h.grown.tape, k.grown.output.trans h.grown.output, Nat.le_trans h.grown.size k.grown.size, fun i hi hne =>
        (k.grown.block i (Nat.lt_of_lt_of_le hi h.grown.size) (by rw [e]; intro he; cases he; omega)).trans (h.grown.block i hi hne)⟩
  · rcases k.place with e | ⟨g, e, hg⟩
    · rw [e]; exact h.place
    · exact .inr ⟨g, e, Nat.le_trans h.grown.size hg⟩
/-- A world in which only new blocks stand. -/
theorem grown_below {w w' : World} (h : Below w.heap.size w w') (row : Option Nat) : w.grownBy w' row := ⟨h.os, h.tape, h.output, h.size, fun i hi _ => h.block i hi⟩
theorem Moved.below {w w' : World} (h : Below w.heap.size w w') (v : Value) : Moved w v w' v := ⟨grown_below h _, .inl rfl⟩
theorem Buf.own {w : World} {base : Nat} {v : Value} {xs : List Value} (h : Buf w base v xs) : ∃ g, v.ownBlock = some g ∧ base ≤ g ∧ g < w.heap.size := by
  obtain ⟨g, cap, cur, tag, rfl, hb, hg, _⟩ := h
  exact ⟨g, rfl, hb, (Array.getElem?_eq_some_iff.1 hg).1⟩
theorem Moved.out {w w' : World} {v v' : Value} {base : Nat} {xs : List Value} (h : Moved w v w' v') (hv : Buf w base v xs) : Below base w w' := by
  obtain ⟨g, hg, hb, hlt⟩ := hv.own
  exact ⟨h.grown.os, h.grown.tape, h.grown.output, h.grown.size, fun k hk => h.grown.block k (by omega) (by rw [hg]; intro e; cases e; omega)⟩
theorem Buf.kept {w w' : World} {base : Nat} {v : Value} {xs : List Value} (h : Buf w base v xs) (hb : Below w.heap.size w w') : Buf w' base v xs := by
  obtain ⟨g, cap, cur, tag, rfl, h1, hg, h2⟩ := h
  exact ⟨g, cap, cur, tag, rfl, h1, (hb.block g (Array.getElem?_eq_some_iff.1 hg).1).trans hg, h2⟩
theorem Buf.alloc {w : World} {base : Nat} {v : Value} {xs : List Value} (h : Buf w base v xs) (o : Obj) : Buf (w.alloc o) base v xs :=
  h.kept ((Below.refl _ _).alloc (Nat.le_refl _) o)
/-- A cell that is not the buffer's own, behind a step. -/
theorem Moved.cell {w w' : World} {v v' : Value} (h : Moved w v w' v') {p : Addr} {u : Value} (hp : w.cell? p = some u) (hne : v.ownBlock ≠ some p.block) : w'.cell? p = some u :=
  h.grown.cell hp (fun e => hne e.symm)
/-- What is not the buffer's block ahead of a step is not behind it. -/
theorem Moved.apart {w w' : World} {v v' : Value} (h : Moved w v w' v') {b : Nat} (hb : b < w.heap.size) (hne : v.ownBlock ≠ some b) : v'.ownBlock ≠ some b := by
  rcases h.place with e | ⟨g, e, hg⟩
  · rw [e]; exact hne
  · rw [e]; intro he; cases he; omega

theorem info8 : (Tryd.prog.info? 5).map (fun i => (i.zero, i.size, i.bytes)) = some (some (.int .u8 0), 1, 1) := by kernel_rfl

theorem run_buf_append (tx ty : TypeId) (w : World) (base : Nat) (v : Value) (xs : List Value) (hv : Buf w base v xs) (x : Value) (n : Nat) (news : List Value) (hs : Src Tryd.prog 1 tx x n news w)
    (hsz : xs.length + n ≤ 140737488355328) (hbase : base ≤ w.heap.size) :
    ∃ v' w', (Builtin.append_ #[51, tx] ty #[v, x]).run Tryd.prog w = .ok v' w' ∧ Buf w' base v' (xs ++ news) ∧ Moved w v w' v' := by
  obtain ⟨i, hi, hz, hi1, hi2⟩ := info_parts info8
  obtain ⟨g, cap, cur, tag, rfl, hb, hg, h1, h2, h3, h4⟩ := hv
  have hnl : news.length = n := by rw [hs.newsLen, Nat.mul_one]
  have hlen : (xs ++ news).length = xs.length + n := by rw [List.length_append, hnl]
  by_cases hroom : xs.length + n ≤ cap
  · have hst := run_storeCells_at Tryd.prog g xs.length tag news 0 cur w hg (by rw [hnl]; omega) hs.one
    simp only [Nat.add_zero] at hst
    refine ⟨.slice (some ⟨g, 0, none⟩) (xs.length + n) cap, w.setRow g (cur.toList.take xs.length ++ news ++ cur.toList.drop (xs.length + news.length)).toArray, ?_,
      ⟨g, cap, _, tag, by rw [hlen], hb, setRow_heap w g cur _ tag _ hg, by omega, h2, ?_, ?_⟩, ⟨⟨rfl, rfl, rfl, by simp, fun k _ hk => setRow_other w g k _ (fun e => hk (by simp [Value.ownBlock, e]))⟩, .inl rfl⟩⟩
    · simp only [List.append_assoc] at hst
      rcases hs.kind with ⟨e', hk⟩ | hk <;> simp [Builtin.append_, run_underlying Tryd.underlying51, run_underlying hk, sizeOf, typeInfo, hi, hs.len, hroom, hs.cells, Addr.add_lit, hi1, hst]
    · simp only [List.size_toArray, List.length_append, List.length_take, List.length_drop, Array.length_toList]
      omega
    · rw [h4, ← hnl] at *
      show ((xs ++ news) ++ cur.toList.drop (xs.length + news.length)).take (xs ++ news).length = xs ++ news
      exact List.take_left
  · have holds : ∀ j u, xs[j]? = some u → w.drew.cell? ((⟨g, 0, none⟩ : Addr).add j) = some u := by
      intro j u hu
      have hadd : (⟨g, 0, none⟩ : Addr).add j = ⟨g, j, none⟩ := by unfold Addr.add; split <;> simp_all
      rw [hadd, cell_of_row w.drew g j cur tag (0, 0) hg]
      rw [← h4, List.getElem?_take] at hu
      split at hu
      · simpa using hu
      · cases hu
    have hold : (Builtin.firstCells i.size xs.length (.slice (some ⟨g, 0, none⟩) xs.length cap)).run Tryd.prog w.drew = .ok xs.toArray w.drew :=
      run_firstCells_some w.drew i.size xs.length ⟨g, 0, none⟩ xs.length cap xs (by rw [hi1, Nat.mul_one]) holds
    have hr := run_append_grow_src (P := Tryd.prog) w 51 tx ty 5 i _ Tryd.underlying51 hi hz (some ⟨g, 0, none⟩) xs.length cap xs hold x n news (by rw [hi1]; exact hs) (by omega) (by omega)
      (by rw [hi2]; exact growslice_fits (by omega) (by omega))
    have hge := grownCap_ge w (xs.length + n) cap 5
    have hcm : grownCap w (xs.length + n) cap 5 ≤ maxLen := grownCap_le_maxLen w (xs.length + n) cap 5 (by simp only [maxLen]; omega)
    refine ⟨_, _, hr, ⟨w.heap.size, _, _, 5, by rw [hlen], hbase, heap_alloc_new w.drew _, by omega, hcm, ?_, ?_⟩, ⟨⟨rfl, rfl, rfl, by simp, fun k hk _ => Below.heap_alloc w.drew _ k hk⟩, .inr ⟨w.heap.size, rfl, Nat.le_refl _⟩⟩⟩
    · simp only [Array.size_append, List.size_toArray, size_zeroCells, hlen]
      simp [Value.cells]
      omega
    · rw [Array.toList_append]
      exact List.take_left
/-- The operation 'b = append(b, ..)', for the walk. -/
theorem wpList_buf_append {w : World} {ops : Array Oper} {rest : List Oper} {o : Oper} {a : Act} {Q : Exit → Act → World → Prop} (hgd : o.guard = none) (s y : Operand) (tx : TypeId)
    (ho : o.op = .call { callee := .builtin .append, args := #[s, y], argTypes := #[51, tx] })
    (base : Nat) (v : Value) (xs : List Value) (hsv : a.eval s = v) (hv : Buf w base v xs) (x : Value) (hxv : a.eval y = x) (n : Nat) (news : List Value) (hs : Src Tryd.prog 1 tx x n news w)
    (hsz : xs.length + n ≤ 140737488355328) (hbase : base ≤ w.heap.size)
    (h : ∀ v' w', Buf w' base v' (xs ++ news) → Moved w v w' v' → wpList Tryd.prog ops Q rest (a.put o.dst v') w') : wpList Tryd.prog ops Q (o :: rest) a w := by
  refine wpList_plain hgd fun K hK => ?_
  obtain ⟨v', w', hr, h2, h3⟩ := run_buf_append tx o.type w base v xs hv x n news hs hsz hbase
  unfold Oper.wp execOp
  simp only [ho, resolve, invoke, builtin, Sem.run_bind, Sem.run_pure, Result.andThen_ok, List.map_toArray, List.map_cons, List.map_nil, hsv, hxv, hr]
  exact hK _ _ (h v' w' h2 h3)
/-- The bytes that a literal of bytes laid in a new block, as a source. -/
theorem src_new (w : World) (news : List Value) (h1 : ∀ u ∈ news, u.oneCell' = true) (tag : TypeId) (c : Nat) : Src Tryd.prog 1 51 (.slice (some ⟨w.heap.size, 0, none⟩) news.length c) news.length news (w.alloc (.cells news.toArray tag)) :=
  Src.ofSlice _ Tryd.underlying51 ⟨w.heap.size, 0, none⟩ news.length c news (by rw [Nat.mul_one]) (by
    intro j u hj
    have hadd : (⟨w.heap.size, 0, none⟩ : Addr).add j = ⟨w.heap.size, j, none⟩ := by unfold Addr.add; split <;> simp_all
    rw [hadd, cell_of_row _ w.heap.size j news.toArray tag (0, 0) (heap_alloc_new w _)]
    simpa using hj) h1
theorem src_string (w : World) (s : ByteArray) : Src Tryd.prog 1 9 (.string s) s.size (bytes (bl s)) w := Src.ofString _ Tryd.underlying9 s
end Go.Proofs.YtigabjibdepoiaaDoor.Tm
