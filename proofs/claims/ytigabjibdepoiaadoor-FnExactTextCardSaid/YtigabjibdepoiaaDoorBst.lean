/- A buffer while it is written: what stands in it, and what became of the world. -/
import Derived.Test.YtigabjibdepoiaaDoorAppAny
import Derived.Test.YtigabjibdepoiaaDoorPad
namespace Go.Proofs.YtigabjibdepoiaaDoor.Tm
set_option linter.unusedSimpArgs false
set_option linter.unusedVariables false
open Go.RowKit Go
/-- The buffer v holds xs and then the bytes l; since the world w0, in which it was v0, but the buffer's block all old blocks are as they were; at most n elements. -/
structure BSt (w0 : World) (v0 : Value) (base : Nat) (xs : List Value) (w : World) (v : Value) (l : List UInt8) (n : Nat) : Prop where
  buf : Buf w base v (xs ++ bytes l)
  mov : Moved w0 v0 w v
  base_le : base ≤ w0.heap.size
  len : xs.length + l.length ≤ n
section
variable {w0 : World} {v0 : Value} {base : Nat} {xs : List Value} {w w' : World} {v v' : Value} {l : List UInt8} {n : Nat}
theorem BSt.start (h : Buf w base v xs) (hb : base ≤ w.heap.size) : BSt w v base xs w v [] xs.length :=
  ⟨by simpa [bytes] using h, Moved.refl _ _, hb, by simp⟩
theorem BSt.le (h : BSt w0 v0 base xs w v l n) : base ≤ w.heap.size := Nat.le_trans h.base_le h.mov.grown.size
theorem BSt.lenBuf (h : BSt w0 v0 base xs w v l n) : (xs ++ bytes l).length ≤ n := by rw [List.length_append, bytes_length]; exact h.len
theorem BSt.below (h : BSt w0 v0 base xs w v l n) (hb : Below w.heap.size w w') : BSt w0 v0 base xs w' v l n :=
  ⟨h.buf.kept hb, h.mov.trans (Moved.below hb v), h.base_le, h.len⟩
theorem BSt.alloc (h : BSt w0 v0 base xs w v l n) (o : Obj) : BSt w0 v0 base xs (w.alloc o) v l n := h.below ((Below.refl _ _).alloc (Nat.le_refl _) o)
theorem BSt.step (h : BSt w0 v0 base xs w v l n) {m : List UInt8} {k : Nat} (hb : Buf w' base v' ((xs ++ bytes l) ++ bytes m)) (hm : Moved w v w' v') (hk : m.length ≤ k) : BSt w0 v0 base xs w' v' (l ++ m) (n + k) :=
  ⟨by rw [bytes_append, ← List.append_assoc]; exact hb, h.mov.trans hm, h.base_le, by have := h.len; rw [List.length_append]; omega⟩
theorem BSt.exact_ (h : BSt w0 v0 base xs w v l n) : BSt w0 v0 base xs w v l (xs.length + l.length) := ⟨h.buf, h.mov, h.base_le, Nat.le_refl _⟩
theorem BSt.more (h : BSt w0 v0 base xs w v l n) {k : Nat} (hk : n ≤ k) : BSt w0 v0 base xs w v l k := ⟨h.buf, h.mov, h.base_le, Nat.le_trans h.len hk⟩
theorem BSt.text (h : BSt w0 v0 base xs w v l n) {m : List UInt8} (e : l = m) : BSt w0 v0 base xs w v m n := e ▸ h
theorem BSt.below_base (h : BSt w0 v0 base xs w v l n) (hv : Buf w0 base v0 xs) : Below base w0 w := h.mov.out hv
/-- A cell of another block. -/
theorem BSt.cell (h : BSt w0 v0 base xs w v l n) {p : Addr} {u : Value} (hp : w0.cell? p = some u) (hne : v0.ownBlock ≠ some p.block) : w.cell? p = some u := h.mov.cell hp hne
/-- 'b = append(b, c)'. -/
theorem wpList_bst_one {ops : Array Oper} {rest : List Oper} {o : Oper} {a : Act} {Q : Exit → Act → World → Prop} (c : UInt8) (x : Value) (tag : TypeId) (hgd : o.guard = none) (s y : Operand)
    (ho : o.op = .call { callee := .builtin .append, args := #[s, y], argTypes := #[51, 51] }) (h : BSt w0 v0 base xs w v l n)
    (hsv : a.eval s = v) (hxv : a.eval y = .slice (some ⟨w.heap.size, 0, none⟩) 1 1) (hx : x = u8 c) (hn : n + 1 ≤ 140737488351232)
    (k : ∀ v' w', BSt w0 v0 base xs w' v' (l ++ [c]) (n + 1) → wpList Tryd.prog ops Q rest (a.put o.dst v') w') :
    wpList Tryd.prog ops Q (o :: rest) a (w.alloc (.cells #[x] tag)) := by
  subst hx
  have hl := h.lenBuf
  refine wpList_buf_append hgd s y _ ho base v _ hsv (h.buf.alloc _) _ hxv 1 [u8 c] (src_new w [u8 c] (one_cons rfl one_nil) tag 1) (by omega) (by simp; exact Nat.le_succ_of_le h.le) ?_
  intro v' w' hv' hm'
  exact k v' w' ((h.alloc (.cells #[u8 c] tag)).step (m := [c]) (k := 1) hv' hm' (Nat.le_refl _))
/-- 'b = append(b, s...)'. -/
theorem wpList_bst_str {ops : Array Oper} {rest : List Oper} {o : Oper} {a : Act} {Q : Exit → Act → World → Prop} (t : ByteArray) (k : Nat) (hgd : o.guard = none) (s y : Operand)
    (ho : o.op = .call { callee := .builtin .append, args := #[s, y], argTypes := #[51, 9] }) (h : BSt w0 v0 base xs w v l n)
    (hsv : a.eval s = v) (hxv : a.eval y = .string t) (hk : t.size ≤ k) (hn : n + k ≤ 140737488351232)
    (kk : ∀ v' w', BSt w0 v0 base xs w' v' (l ++ bl t) (n + k) → wpList Tryd.prog ops Q rest (a.put o.dst v') w') :
    wpList Tryd.prog ops Q (o :: rest) a w := by
  have hl := h.lenBuf
  refine wpList_buf_append hgd s y _ ho base v _ hsv h.buf _ hxv t.size (bytes (bl t)) (src_string w t) (by omega) h.le ?_
  intro v' w' hv' hm'
  exact kk v' w' (h.step hv' hm' (by rw [bl_length]; exact hk))
def BPost (w0 : World) (v0 : Value) (base : Nat) (xs : List Value) (l : List UInt8) (n : Nat) (e : Ending) (w' : World) : Prop := ∃ v', e = .returned v' ∧ BSt w0 v0 base xs w' v' l n
/-- appendInt of a number from 0 on. -/
theorem int_bst (m : Nat) (wd : Int) (h : BSt w0 v0 base xs w v l n) (hm : m ≤ 999999999999) (hw1 : 0 ≤ wd) (hw2 : wd ≤ 20) (hn : n + 50 ≤ 140737488351232) :
    Calls Tryd.prog 105 #[v, .int .i64 m, .int .i64 wd] w (BPost w0 v0 base xs (l ++ padL 48 m wd) (n + 20)) := by
  have hl := h.lenBuf
  refine (appInt_any (m : Int) wd base v (xs ++ bytes l) w (by omega) (by omega) (by omega) (by omega) h.buf (by omega) h.le).mono ?_
  rintro e w' ⟨v', rfl, hb, hmv⟩
  have e1 : intL (m : Int) wd = padL 48 m wd := by rw [intL, if_neg (by omega), Int.toNat_natCast]
  rw [e1] at hb
  refine ⟨v', rfl, h.step hb hmv ?_⟩
  have h1 := decL_len_le (n := m) (k := 12) (by omega) (by decide)
  rw [padL, List.length_append, List.length_replicate]; omega
end
end Go.Proofs.YtigabjibdepoiaaDoor.Tm
