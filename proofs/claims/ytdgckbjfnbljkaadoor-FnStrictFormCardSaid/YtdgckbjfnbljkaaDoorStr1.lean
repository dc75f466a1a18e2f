/- Str1: what is needed here. -/
import Derived.Laws.IdiomStrings
import Derived.OneCell
import Derived.Laws.AppendOwn
import Derived.Test.YtdgckbjfnbljkaaDoorProg
import Derived.Test.YtdgckbjfnbljkaaDoorChunkB
import Derived.Test.YtdgckbjfnbljkaaDoorCalF
import Derived.Test.YtdgckbjfnbljkaaDoorCal
import Derived.Test.YtdgckbjfnbljkaaDoorBuf
namespace Go.Proofs.YtdgckbjfnbljkaaDoor.Tm
set_option linter.unusedSimpArgs false
set_option linter.unusedVariables false
open Go.RowKit Go
theorem mask4 (n : Nat) : n &&& 15 = n % 16 := Nat.and_two_pow_sub_one_eq_mod n 4
theorem mask2 (n : Nat) : n &&& 3 = n % 4 := Nat.and_two_pow_sub_one_eq_mod n 2
theorem ret_bool {a b : Bool} (h : a = b) : Ending.returned (.bool a) = .returned (.bool b) := by rw [h]
theorem isLeap_any (y : Nat) (w : World) (hy : y ≤ 9999) : Calls Tryd.prog 28 #[.int .i64 y] w (QuietV (.bool (leapB y)) w) := by
  have hb : (y : Int) ≤ 9999 := by omega
  by_cases h25 : y % 25 = 0
  · have t1 : ((y : Int) % 25 == 0) = true := by rw [beq_iff_eq]; omega
    have t2 : ((y : Int) % 25 != 0) = false := by rw [bne, t1]; rfl
    have HL := hideP (show (bits .and .i64 (y : Int) 15 == 0) = leapB y by
      rw [show (15 : Int) = ((15 : Nat) : Int) from rfl, (i64_nat y 15 (by omega) (by decide)).1, mask4]
      unfold leapB
      rw [Bool.eq_iff_iff, beq_iff_eq, decide_eq_true_iff]
      omega)
    clear hy h25
    go_enter Tryd.func28, Tryd.ntmps28
    go_wp2
    go_ret
    exact ⟨ret_bool HL.out, rfl⟩
  · have t1 : ((y : Int) % 25 == 0) = false := by rw [beq_eq_false_iff_ne]; omega
    have t2 : ((y : Int) % 25 != 0) = true := by rw [bne, t1]; rfl
    have HL := hideP (show (bits .and .i64 (y : Int) 3 == 0) = leapB y by
      rw [show (3 : Int) = ((3 : Nat) : Int) from rfl, (i64_nat y 3 (by omega) (by decide)).1, mask2]
      unfold leapB
      rw [Bool.eq_iff_iff, beq_iff_eq, decide_eq_true_iff]
      omega)
    clear hy h25
    go_enter Tryd.func28, Tryd.ntmps28
    go_wp2
    go_ret
    exact ⟨ret_bool HL.out, rfl⟩
theorem band (n : Nat) (h : n < 100) : bits .and .i64 (n : Int) 1 = ((n % 2 : Nat) : Int) := by
  rw [show (1 : Int) = ((1 : Nat) : Int) from rfl, (i64_nat n 1 (by omega) (by decide)).1, show n &&& 1 = n % 2 from Nat.and_two_pow_sub_one_eq_mod n 1]
set_option maxRecDepth 100000 in
set_option maxHeartbeats 1600000 in
theorem daysIn_any (m y : Nat) (w : World) (h1 : 1 ≤ m) (h2 : m ≤ 12) (hy : y ≤ 9999) : Calls Tryd.prog 14 #[.int .i64 m, .int .i64 y] w (QuietV (.int .i64 (daysIn y m : Nat)) w) := by
  by_cases h : m = 2
  · subst h
    cases hl : leapB y
    all_goals
      have HD := hideP (show ((daysIn y 2 : Nat) : Int) = if leapB y = true then 29 else 28 by unfold daysIn; rw [if_pos rfl]; split <;> rfl)
      rw [hl] at HD
      have HY := hideP hy
      have HL := hideP hl
      clear hy hl h1 h2
      go_enter Tryd.func14, Tryd.ntmps14
      go_wp2_with (go_at_call 28; refine (isLeap_any y _ HY.out).mono ?_; rintro e w1 ⟨rfl, rfl⟩; rw [HL.out])
      go_ret
      exact ⟨ret_int (by rw [HD.out]; rfl), rfl⟩
  · have h12 : m = 1 ∨ m = 3 ∨ m = 4 ∨ m = 5 ∨ m = 6 ∨ m = 7 ∨ m = 8 ∨ m = 9 ∨ m = 10 ∨ m = 11 ∨ m = 12 := by omega
    clear hy h1 h2 h
    have b1 : bits .and .i64 1 1 = 1 := band 1 (by decide)
    have b3 : bits .and .i64 3 1 = 1 := band 3 (by decide)
    have b4 : bits .and .i64 4 1 = 0 := band 4 (by decide)
    have b5 : bits .and .i64 5 1 = 1 := band 5 (by decide)
    have b6 : bits .and .i64 6 1 = 0 := band 6 (by decide)
    have b7 : bits .and .i64 7 1 = 1 := band 7 (by decide)
    have b9 : bits .and .i64 9 1 = 1 := band 9 (by decide)
    have b10 : bits .and .i64 10 1 = 0 := band 10 (by decide)
    have b11 : bits .and .i64 11 1 = 1 := band 11 (by decide)
    have b12 : bits .and .i64 12 1 = 0 := band 12 (by decide)
    have b13 : bits .and .i64 13 1 = 1 := band 13 (by decide)
    rcases h12 with rfl | rfl | rfl | rfl | rfl | rfl | rfl | rfl | rfl | rfl | rfl
    all_goals
      go_enter Tryd.func14, Tryd.ntmps14
      go_wp2
      go_ret
      exact ⟨ret_int (by unfold daysIn; simp [wrap64]), rfl⟩
/-- The variable ok. -/
def OkAt (w : World) (g : Nat) (b : Bool) : Prop := w.heap[g]? = some (.cells #[.bool b] 4 (0, 0))
theorem OkAt.lt {w : World} {g : Nat} {b : Bool} (h : OkAt w g b) : g < w.heap.size := (Array.getElem?_eq_some_iff.1 h).1
theorem OkAt.kept {w w' : World} {g : Nat} {b : Bool} (h : OkAt w g b) (hb : Below w.heap.size w w') : OkAt w' g b := (hb.block g h.lt).trans h
def PuPost (s : ByteArray) (lo hi : Int) (g : Nat) (b : Bool) (w : World) (e : Ending) (w' : World) : Prop :=
  ∃ (x : Int) (b' : Bool), e = .returned (.int .i64 x) ∧ lo ≤ x ∧ x ≤ hi ∧ (b' = true → b = true ∧ ∀ c ∈ bl s, isDig c = true) ∧ OkAt w' g b' ∧ w.grownBy w' (some g) ∧
    ((∀ c ∈ bl s, isDig c = true) → lo ≤ (dval (bl s) : Nat) → ((dval (bl s) : Nat) : Int) ≤ hi → x = (dval (bl s) : Nat) ∧ b' = b)
theorem below_alloc0 (w : World) (o : Obj) : Below w.heap.size w (w.alloc o) := (Below.refl _ _).alloc (Nat.le_refl _) o
theorem conv_row (w : World) (s : ByteArray) : ∃ C w', (convert 9 47 (.string s)).run Tryd.prog w = .ok (.slice (some ⟨w.heap.size, 0, none⟩) s.size C) w' ∧ (∀ j (h : j < s.size), w'.cell? ⟨w.heap.size, j, none⟩ = some (.int .u8 s[j].toNat)) ∧ Below w.heap.size w w' := by
  have hr := run_bytes_of_string (P := Tryd.prog) w 9 47 5 s Tryd.underlying9 Tryd.underlying47 Tryd.underlying5
  refine ⟨_, _, hr, fun j h => ?_, ((Below.refl _ _).drew).trans (below_alloc0 w.drew _)⟩
  rw [show (⟨w.heap.size, j, none⟩ : Addr) = ⟨w.drew.heap.size, j, none⟩ from rfl, cell_of_row _ _ j _ _ _ (heap_alloc_new w.drew _)]
  unfold bytesRow
  rw [Array.getElem?_append_left (by simpa using h), Array.getElem?_map]
  have : s.data[j]? = some s[j] := Array.getElem?_eq_some_iff.2 ⟨h, rfl⟩
  rw [this]; rfl
theorem bounds_dval (l : List UInt8) (h : ∀ c ∈ l, isDig c = true) (hl : l.length ≤ 10) : dval l < 10000000000 := by
  have := dvalFrom_lt l h 0
  rw [Nat.zero_add, Nat.one_mul] at this
  exact Nat.lt_of_lt_of_le this (Nat.pow_le_pow_right (n := 10) (by decide) hl)
theorem dval_step (s : ByteArray) (k : Nat) (h : k < s.size) (hd : 48 ≤ s[k].toNat) : ((dval ((bl s).take (k + 1)) : Nat) : Int) = (dval ((bl s).take k) : Nat) * 10 + s[k].toNat - 48 := by
  rw [bl_take s k h]
  unfold dval
  rw [dvalFrom_append, dvalFrom_cons, dvalFrom_nil]
  omega
theorem ok_store {w : World} {g : Nat} {b : Bool} (h : OkAt w g b) (v : Bool) : OkAt (w.setCell ⟨g, 0, none⟩ (.bool v)) g v := one_setCell h
theorem grown_store {w W1 : World} {g : Nat} (hb : Below w.heap.size w W1) (v : Value) : w.grownBy (W1.setCell ⟨g, 0, none⟩ v) (some g) :=
  ⟨hb.os, hb.tape, hb.output, by simpa [World.setCell] using hb.size, fun i hi hne => (Below.heap_setCell W1 _ v i (by rintro rfl; exact hne rfl)).trans (hb.block i hi)⟩
theorem grown_only {w W1 : World} {g : Nat} (hb : Below w.heap.size w W1) : w.grownBy W1 (some g) := ⟨hb.os, hb.tape, hb.output, hb.size, fun i hi _ => hb.block i hi⟩
set_option maxRecDepth 100000 in
set_option maxHeartbeats 3200000 in
theorem puint_any (s : ByteArray) (lo hi : Int) (g : Nat) (b : Bool) (w : World) (hs : s.size ≤ 10) (h0 : 0 ≤ lo) (h1 : lo ≤ hi) (h2 : hi ≤ 9999) (hg : OkAt w g b) :
    Calls Tryd.prog 13 #[.string s, .int .i64 lo, .int .i64 hi, .pointer (some ⟨g, 0, none⟩)] w (PuPost s lo hi g b w) := by
  obtain ⟨C, W1, hr, hcell, hb⟩ := conv_row w s
  have HC := hideP hcell
  have HB := hideP hb
  have HG := hideP (hg.kept hb)
  have gc := cell_of_one (hg.kept hb)
  have gf := free_of_one (hg.kept hb)
  clear hcell hb hg
  go_enter Tryd.func13, Tryd.ntmps13
  go_wp2
  go_loop [7, 13] (fun x i => ∃ k : Nat, i = .int .i64 k ∧ k ≤ s.size ∧ (∀ c ∈ (bl s).take k, isDig c = true) ∧ x = .int .i64 (dval ((bl s).take k) : Nat)) (fun _ i => s.size - (intOf i).toNat)
  case atStart => exact ⟨0, rfl, Nat.zero_le _, by simp, by simp [dval, dvalFrom_nil]⟩
  case round =>
    obtain ⟨k, rfl, hk, hd, rfl⟩ := hrel
    have hx := bounds_dval _ hd (by rw [List.length_take]; omega)
    have HD := hideP hd
    clear hd
    by_cases hlt : k < s.size
    · have hcl := HC.out k hlt
      have hbyte := s[k].toNat_lt
      by_cases hdig : 48 ≤ s[k].toNat ∧ s[k].toNat ≤ 57
      · obtain ⟨d1, d2⟩ := hdig
        have HS := hideP (dval_step s k hlt d1)
        have HI := hideP (show isDig s[k] = true from (isDig_iff _).2 ⟨d1, d2⟩)
        have hd1 : ¬ (s[k].toNat : Int) < 48 := by omega
        have hd2 : ¬ (57 : Int) < (s[k].toNat : Int) := by omega
        have hx0 : (0 : Int) ≤ (dval ((bl s).take k) : Nat) := by omega
        have hx1 : ((dval ((bl s).take k) : Nat) : Int) < 10000000000 := by omega
        generalize hX : ((dval ((bl s).take k) : Nat) : Int) = X at *
        have HX := hideP hX
        clear hX hx
        go_wp2
        go_round
        case rel =>
          refine ⟨k + 1, by go_num, hlt, ?_, by rw [HS.out]⟩
          rw [bl_take s k hlt]
          intro c hc
          rcases List.mem_append.1 hc with h | h
          · exact HD.out c h
          · obtain rfl := List.mem_singleton.1 h; exact HI.out
        case measure => simp [intOf]; omega
      · have HND := hideP (show ¬ ∀ c ∈ bl s, isDig c = true from fun hall => hdig ((isDig_iff _).1 (hall s[k] (by rw [← bl_get s k hlt]; exact List.getElem_mem _))))
        generalize hX : ((dval ((bl s).take k) : Nat) : Int) = X at *
        clear hX hx
        by_cases hd1 : (s[k].toNat : Int) < 48
        · go_wp2
          go_ret
          exact ⟨lo, false, rfl, Int.le_refl _, h1, fun h => (by cases h), ok_store HG.out false, grown_store HB.out _, fun hall => absurd hall HND.out⟩
        · have hd2 : (57 : Int) < (s[k].toNat : Int) := by omega
          go_wp2
          go_ret
          exact ⟨lo, false, rfl, Int.le_refl _, h1, fun h => (by cases h), ok_store HG.out false, grown_store HB.out _, fun hall => absurd hall HND.out⟩
    · obtain rfl : k = s.size := by omega
      have hts : (bl s).take s.size = bl s := List.take_of_length_le (by rw [bl_length]; exact Nat.le_refl _)
      have HA := hideP (show ∀ c ∈ bl s, isDig c = true by
        have := HD.out
        rwa [hts] at this)
      have HTS := hideP hts
      clear hts
      generalize hX : ((dval ((bl s).take s.size) : Nat) : Int) = X at *
      have HX := hideP (show X = (dval (bl s) : Nat) by rw [← hX, HTS.out])
      clear hX hx
      by_cases t1 : X < lo
      · have HT := hideP t1
        go_wp2
        go_ret
        exact ⟨lo, false, rfl, Int.le_refl _, h1, fun h => (by cases h), ok_store HG.out false, grown_store HB.out _, fun _ h3 _ => by have := HT.out; have := HX.out; omega⟩
      · by_cases t2 : hi < X
        · have HT := hideP t2
          go_wp2
          go_ret
          exact ⟨lo, false, rfl, Int.le_refl _, h1, fun h => (by cases h), ok_store HG.out false, grown_store HB.out _, fun _ _ h3 => by have := HT.out; have := HX.out; omega⟩
        · go_wp2
          go_ret
          exact ⟨X, b, rfl, by omega, by omega, fun h => ⟨h, HA.out⟩, HG.out, grown_only HB.out, fun _ _ _ => ⟨HX.out, rfl⟩⟩
end Go.Proofs.YtdgckbjfnbljkaaDoor.Tm
