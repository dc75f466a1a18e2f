/- The walk of appendInt, the short ways: a number's digits behind a buffer. -/
import Derived.Test.YtigabjibdepoiaaDoorBuf
import Derived.Test.YtigabjibdepoiaaDoorDec
namespace Go.Proofs.YtigabjibdepoiaaDoor.Tm
set_option linter.unusedSimpArgs false
set_option linter.unusedVariables false
open Go.RowKit Go
theorem u8_dig {d : Nat} (h : d < 10) : u8 (digC d) = .int .u8 (48 + (d : Int)) := by rw [u8, digC_nat h]; simp
theorem one_cons {x : Value} {l : List Value} (hx : x.oneCell' = true) (h : ∀ u ∈ l, u.oneCell' = true) : ∀ u ∈ x :: l, u.oneCell' = true := by
  intro u hu; rcases List.mem_cons.1 hu with rfl | g
  · exact hx
  · exact h u g
theorem one_nil : ∀ u ∈ ([] : List Value), u.oneCell' = true := fun _ h => by cases h
def IntV (z : Value) (w : World) (e : Ending) (w' : World) : Prop := e = .returned z ∧ w = w'
set_option maxHeartbeats 400000 in
theorem utod_any (u : Int) (w : World) (h0 : 0 ≤ u) (h1 : u < 10) : Calls Tryd.prog 127 #[.int .u64 u] w (IntV (.int .u8 (48 + u)) w) := by
  go_enter Tryd.func127, Tryd.ntmps127
  go_wp2
  go_ret
  exact ⟨rfl, rfl⟩
/-- What appends to a buffer: the bytes l stand behind it. -/
def BufPost (base : Nat) (v : Value) (xs : List Value) (w : World) (e : Ending) (w' : World) : Prop := ∃ v', e = .returned v' ∧ Buf w' base v' xs ∧ Moved w v w' v'
theorem int2 {m : Nat} (h : m < 100) : bytes (intL m 2) = [.int .u8 (48 + (m : Int) / 10), .int .u8 (48 + (m : Int) % 10)] := by
  rw [intL, if_neg (by omega), Int.toNat_natCast, pad2 h]
  show [u8 _, u8 _] = _
  rw [u8_dig (by omega), u8_dig (by omega)]; simp
theorem int4 {m : Nat} (h : m < 10000) : bytes (intL m 4) = [.int .u8 (48 + (m : Int) / 1000), .int .u8 (48 + (m : Int) / 100 % 10), .int .u8 (48 + (m : Int) / 10 % 10), .int .u8 (48 + (m : Int) % 10)] := by
  rw [intL, if_neg (by omega), Int.toNat_natCast, pad4 h]
  show [u8 _, u8 _, u8 _, u8 _] = _
  rw [u8_dig (by omega), u8_dig (by omega), u8_dig (by omega), u8_dig (by omega)]; simp
set_option maxRecDepth 100000 in
set_option maxHeartbeats 800000 in
theorem appInt_2 (m : Nat) (base : Nat) (v : Value) (xs : List Value) (w : World) (hm : m < 100) (hv : Buf w base v xs) (hsz : xs.length + 2 ≤ 140737488355328) (hbase : base ≤ w.heap.size) :
    Calls Tryd.prog 105 #[v, .int .i64 m, .int .i64 2] w (BufPost base v (xs ++ bytes (intL m 2)) w) := by
  have HL := hideP (int2 hm)
  have HV := hideP hv
  have HS := hideP hsz
  have HB := hideP hbase
  clear hv hsz hbase
  have h1 : (m : Int) < 100 := by omega
  have h0 : ¬ (m : Int) < 0 := by omega
  clear hm
  go_enter Tryd.func105, Tryd.ntmps105
  go_wp2_with (first
    | (go_at_call 127; refine (utod_any _ _ (by omega) (by omega)).mono ?_; rintro e w1 ⟨rfl, rfl⟩)
    | (at_builtin; refine wpList_buf_append rfl _ _ _ rfl base _ xs rfl (HV.out.alloc _) _ rfl 2 [_, _] (src_new w [_, _] (one_cons rfl (one_cons rfl one_nil)) _ 2) HS.out (Nat.le_trans HB.out (by simp)) ?_; intro v' w1 hv' hmv; have HV2 := hideP hv'; have HM := hideP hmv; clear hv' hmv))
  go_ret
  exact ⟨v', rfl, by rw [HL.out]; exact HV2.out, (Moved.below ((Below.refl _ _).alloc (Nat.le_refl _) _) v).trans HM.out⟩
set_option maxRecDepth 100000 in
set_option maxHeartbeats 800000 in
theorem appInt_4 (m : Nat) (base : Nat) (v : Value) (xs : List Value) (w : World) (hm : m < 10000) (hv : Buf w base v xs) (hsz : xs.length + 4 ≤ 140737488355328) (hbase : base ≤ w.heap.size) :
    Calls Tryd.prog 105 #[v, .int .i64 m, .int .i64 4] w (BufPost base v (xs ++ bytes (intL m 4)) w) := by
  have HL := hideP (int4 hm)
  have HV := hideP hv
  have HS := hideP hsz
  have HB := hideP hbase
  clear hv hsz hbase
  have h1 : (m : Int) < 10000 := by omega
  have h0 : ¬ (m : Int) < 0 := by omega
  clear hm
  go_enter Tryd.func105, Tryd.ntmps105
  go_wp2_with (first
    | (go_at_call 127; refine (utod_any _ _ (by omega) (by omega)).mono ?_; rintro e w1 ⟨rfl, rfl⟩)
    | (at_builtin; refine wpList_buf_append rfl _ _ _ rfl base _ xs rfl (HV.out.alloc _) _ rfl 4 [_, _, _, _] (src_new w [_, _, _, _] (one_cons rfl (one_cons rfl (one_cons rfl (one_cons rfl one_nil)))) _ 4) HS.out (Nat.le_trans HB.out (by simp)) ?_; intro v' w1 hv' hmv; have HV2 := hideP hv'; have HM := hideP hmv; clear hv' hmv))
  go_ret
  exact ⟨v', rfl, by rw [HL.out]; exact HV2.out, (Moved.below ((Below.refl _ _).alloc (Nat.le_refl _) _) v).trans HM.out⟩
end Go.Proofs.YtigabjibdepoiaaDoor.Tm
