/- The walk of FnStrictForm. -/
import Derived.Deep.RegionHeld3
import Derived.Test.YtdgckbjfnbljkaaDoorStrF
namespace Go.Proofs.YtdgckbjfnbljkaaDoor.Tm
set_option linter.unusedSimpArgs false
set_option linter.unusedVariables false
open Go.RowKit Go
def litS : ByteArray := ⟨#[50, 48, 48, 54, 45, 48, 49, 45, 48, 50, 84, 49, 53, 58, 48, 52, 58, 48, 53, 90]⟩
theorem dig_all {s : ByteArray} {a b : Nat} (h : ((bl (s.extract a b)).all isDig) = true) : DigAt s a b := fun c hc => List.all_eq_true.1 h c hc
theorem lit_good : GoodS litS := ⟨by kernel_rfl, ⟨dig_all (by kernel_rfl), dig_all (by kernel_rfl), dig_all (by kernel_rfl), dig_all (by kernel_rfl), dig_all (by kernel_rfl), dig_all (by kernel_rfl), ⟨by kernel_rfl, by kernel_rfl, by kernel_rfl, by kernel_rfl, by kernel_rfl⟩⟩,
  by kernel_rfl, by kernel_rfl, by kernel_rfl, by kernel_rfl, by kernel_rfl, by kernel_rfl, by kernel_rfl⟩
def formS : ByteArray := ⟨#[48, 48, 48, 48, 45, 48, 48, 45, 48, 48, 84, 48, 48, 58, 48, 48, 58, 48, 48]⟩
theorem form_size : formS.size = 19 := by kernel_rfl
/-- What the loop's round finds. -/
def RoundAt (form s : ByteArray) (k : Nat) (h1 : k < form.size) (h2 : k < s.size) : Prop := (form[k].toNat = 48 ∧ 48 ≤ s[k].toNat ∧ s[k].toNat ≤ 57) ∨ (form[k].toNat ≠ 48 ∧ s[k].toNat = form[k].toNat)
theorem dig_in {s : ByteArray} {a b k : Nat} (h : DigAt s a b) (ha : a ≤ k) (hb : k < b) (hk : k < s.size) : 48 ≤ s[k].toNat ∧ s[k].toNat ≤ 57 := by
  rw [← isDig_iff]
  apply h
  rw [bl_extract]
  have e : (((bl s).take b).drop a)[k - a]? = some s[k] := by
    rw [List.getElem?_drop, show a + (k - a) = k from by omega, List.getElem?_take, if_pos hb, get_at hk]
  exact List.mem_of_getElem? e
theorem sep_in {s : ByteArray} {k : Nat} {c : UInt8} (h : (bl s)[k]? = some c) (hk : k < s.size) : s[k] = c := by
  rw [get_at hk] at h
  exact Option.some.inj h
theorem round_at {s : ByteArray} (hf : FormP s) : ∀ (k : Nat) (h1 : k < formS.size) (h2 : k < s.size), RoundAt formS s k h1 h2 := by
  intro k h1 h2
  have hk : k < 19 := by rw [form_size] at h1; exact h1
  have hfk : ∀ (k : Nat) (h1 : k < formS.size) (n : UInt8), (bl formS)[k]? = some n → formS[k] = n := fun k h1 n h => sep_in h h1
  match k, hk, h1, h2 with
  | 0, _, h1, h2 => exact .inl ⟨by rw [hfk _ h1 48 (by kernel_rfl)]; rfl, dig_in hf.y (by decide) (by decide) h2⟩
  | 1, _, h1, h2 => exact .inl ⟨by rw [hfk _ h1 48 (by kernel_rfl)]; rfl, dig_in hf.y (by decide) (by decide) h2⟩
  | 2, _, h1, h2 => exact .inl ⟨by rw [hfk _ h1 48 (by kernel_rfl)]; rfl, dig_in hf.y (by decide) (by decide) h2⟩
  | 3, _, h1, h2 => exact .inl ⟨by rw [hfk _ h1 48 (by kernel_rfl)]; rfl, dig_in hf.y (by decide) (by decide) h2⟩
  | 4, _, h1, h2 => exact .inr ⟨by rw [hfk _ h1 45 (by kernel_rfl)]; decide, by rw [hfk _ h1 45 (by kernel_rfl), sep_in hf.s4 h2]⟩
  | 5, _, h1, h2 => exact .inl ⟨by rw [hfk _ h1 48 (by kernel_rfl)]; rfl, dig_in hf.mo (by decide) (by decide) h2⟩
  | 6, _, h1, h2 => exact .inl ⟨by rw [hfk _ h1 48 (by kernel_rfl)]; rfl, dig_in hf.mo (by decide) (by decide) h2⟩
  | 7, _, h1, h2 => exact .inr ⟨by rw [hfk _ h1 45 (by kernel_rfl)]; decide, by rw [hfk _ h1 45 (by kernel_rfl), sep_in hf.s7 h2]⟩
  | 8, _, h1, h2 => exact .inl ⟨by rw [hfk _ h1 48 (by kernel_rfl)]; rfl, dig_in hf.d (by decide) (by decide) h2⟩
  | 9, _, h1, h2 => exact .inl ⟨by rw [hfk _ h1 48 (by kernel_rfl)]; rfl, dig_in hf.d (by decide) (by decide) h2⟩
  | 10, _, h1, h2 => exact .inr ⟨by rw [hfk _ h1 84 (by kernel_rfl)]; decide, by rw [hfk _ h1 84 (by kernel_rfl), sep_in hf.s10 h2]⟩
  | 11, _, h1, h2 => exact .inl ⟨by rw [hfk _ h1 48 (by kernel_rfl)]; rfl, dig_in hf.h (by decide) (by decide) h2⟩
  | 12, _, h1, h2 => exact .inl ⟨by rw [hfk _ h1 48 (by kernel_rfl)]; rfl, dig_in hf.h (by decide) (by decide) h2⟩
  | 13, _, h1, h2 => exact .inr ⟨by rw [hfk _ h1 58 (by kernel_rfl)]; decide, by rw [hfk _ h1 58 (by kernel_rfl), sep_in hf.s13 h2]⟩
  | 14, _, h1, h2 => exact .inl ⟨by rw [hfk _ h1 48 (by kernel_rfl)]; rfl, dig_in hf.mi (by decide) (by decide) h2⟩
  | 15, _, h1, h2 => exact .inl ⟨by rw [hfk _ h1 48 (by kernel_rfl)]; rfl, dig_in hf.mi (by decide) (by decide) h2⟩
  | 16, _, h1, h2 => exact .inr ⟨by rw [hfk _ h1 58 (by kernel_rfl)]; decide, by rw [hfk _ h1 58 (by kernel_rfl), sep_in hf.s16 h2]⟩
  | 17, _, h1, h2 => exact .inl ⟨by rw [hfk _ h1 48 (by kernel_rfl)]; rfl, dig_in hf.sc (by decide) (by decide) h2⟩
  | 18, _, h1, h2 => exact .inl ⟨by rw [hfk _ h1 48 (by kernel_rfl)]; rfl, dig_in hf.sc (by decide) (by decide) h2⟩
  | k + 19, h, _, _ => exact absurd h (by omega)
theorem cell_kept {w w' : World} {p : Addr} {v : Value} (hb : Below w.heap.size w w') (h : w.cell? p = some v) : w'.cell? p = some v := (hb.cell (World.block_lt_of_cell? _ _ h)).trans h
theorem strictLit_any (w : World) : Calls Tryd.prog 4 #[.string litS] w (StrictP False True w) :=
  strict_any False True litS w (fun w1 _ => parseStrict_any False True litS w1 (fun a w2 hu _ => read_good litS a w2 (hideP lit_good) hu))
theorem strictText_any (s : ByteArray) (w : World) (E : Value) (hE : w.cell? ⟨2, 0, none⟩ = some E) (hs : s.size ≤ 2147483647) : Calls Tryd.prog 4 #[.string s] w (StrictP True (FormP s) w) :=
  strict_any True (FormP s) s w (fun w1 h1 => parseStrict_any True (FormP s) s w1 (fun a w2 hu h2 => read_any s a w2 E (hideP (cell_kept h2 (cell_kept h1 hE))) hs hu))
theorem fld_ok (a b c d f g h : Int) (s : ByteArray) (o : Int) (q : Bool) : ∀ w : World, (Instr.field 27 (.agg #[.int .i64 a, .int .i64 b, .int .i64 c, .int .i64 d, .int .i64 f, .int .i64 g, .int .i64 h, .string s, .int .i64 o, .bool q]) 1).run Tryd.prog w = .ok (.bool q) w := fun _ => by kernel_rfl
set_option maxRecDepth 100000 in
set_option maxHeartbeats 3200000 in
theorem lawStrict (s : ByteArray) (w : World) (E : Value) (hz : s.size ≤ 140737488351232) (hE : w.cell? ⟨2, 0, none⟩ = some E) :
    Calls Tryd.prog 3 #[.string s] w (fun e w' => e = .returned (.bool true) ∧ Below w.heap.size w w') := by
  have HE := hideP hE
  clear hE
  by_cases hbig : (2147483647 : Int) < s.size
  · go_enter Tryd.func3, Tryd.ntmps3
    go_wp2
    go_ret
    exact ⟨rfl, Below.refl _ _⟩
  · have HS := hideP (show s.size ≤ 2147483647 by omega)
    go_enter Tryd.func3, Tryd.ntmps3
    go_wp2_with (fail)
    refine (strictLit_any _).mono ?_
    rintro e w1 ⟨hb, a0, a1, a2, a3, a4, a5, a6, a7, a8, q, rfl, hq0, hq1⟩
    have B1 := hideP hb
    clear hb hq1
    cases q
    case false => exact (hq0 rfl).elim
    clear hq0
    have hfa := fld_ok a0 a1 a2 a3 a4 a5 a6 a7 a8 true
    go_wp2_with (fail)
    refine (strictText_any s _ E (cell_kept B1.out HE.out) HS.out).mono ?_
    rintro e w2 ⟨hb, c0, c1, c2, c3, c4, c5, c6, c7, c8, q, rfl, hq0, hq1⟩
    have B2 := hideP (B1.out.trans (hb.mono B1.out.size))
    clear hb hq0 hfa
    cases q
    · clear hq1
      have hfb := fld_ok c0 c1 c2 c3 c4 c5 c6 c7 c8 false
      go_wp2_with (fail)
      go_ret
      exact ⟨rfl, B2.out⟩
    · have HF := hideP (hq1 rfl)
      have l20 : ¬ (s.size : Int) < 20 := by have := HF.out.len; omega
      clear hq1
      have hfb := fld_ok c0 c1 c2 c3 c4 c5 c6 c7 c8 true
      go_wp2_with (fail)
      clear hfb
      rw [show (⟨#[48, 48, 48, 48, 45, 48, 48, 45, 48, 48, 84, 48, 48, 58, 48, 48, 58, 48, 48]⟩ : ByteArray) = formS from rfl]
      have HR := hideP (round_at HF.out)
      have HFS := hideP form_size
      generalize formS = form at *
      go_loopw [5] (fun i wx => ∃ k : Nat, i = .int .i64 k ∧ k ≤ 19 ∧ Below w.heap.size w wx) (fun i _ => 19 - (intOf i).toNat)
      case atStart => exact ⟨0, rfl, by decide, B2.out⟩
      case round =>
        obtain ⟨k, rfl, hk, hbel⟩ := hrel
        have HB := hideP hbel
        clear hbel
        by_cases hlt : k < 19
        · have l1 : k < form.size := by have := HFS.out; omega
          have l2 : k < s.size := by omega
          have HL := hideP hlt
          have tl : decide ((k : Int) < form.size) = true := decide_eq_true (by omega)
          have tl1 : (k : Int) < form.size := by omega
          have tl2 : (k : Int) < s.size := by omega
          have hr := HR.out k l1 l2
          unfold RoundAt at hr
          clear hlt
          rcases hr with ⟨f, d1, d2⟩ | ⟨f, e⟩
          · have f1 : ((form[k].toNat : Int) == 48) = true := by rw [beq_iff_eq]; omega
            have f2 : ((form[k].toNat : Int) != 48) = false := by rw [bne, f1]; rfl
            have d3 : (48 : Int) ≤ (s[k].toNat : Int) := by omega
            have d4 : (s[k].toNat : Int) ≤ 57 := by omega
            clear f d1 d2
            go_wp2_with (fail)
            go_quiet (fail)
            go_wp2_with (fail)
            go_roundw
            case rel => exact ⟨k + 1, by go_num, HL.out, below_drewN HB.out _⟩
            case measure => have := HL.out; simp [intOf]; omega
          · have f1 : ((form[k].toNat : Int) == 48) = false := by rw [beq_eq_false_iff_ne]; omega
            have f2 : ((form[k].toNat : Int) != 48) = true := by rw [bne, f1]; rfl
            have e1 : ((s[k].toNat : Int) != (form[k].toNat : Int)) = false := by rw [e]; simp
            clear f e
            by_cases d3 : (48 : Int) ≤ (s[k].toNat : Int)
            all_goals
              go_wp2_with (fail)
              go_quiet (fail)
              go_wp2_with (fail)
              go_roundw
              case rel => exact ⟨k + 1, by go_num, HL.out, below_drewN HB.out _⟩
              case measure => have := HL.out; simp [intOf]; omega
        · obtain rfl : k = 19 := by omega
          have tf : (form.size : Int) ≤ ((19 : Nat) : Int) := by have := HFS.out; omega
          have hl : s.size - 1 < s.size := by omega
          have i1 : (1 : Int) ≤ s.size := by omega
          obtain ⟨c, hc, h⟩ := HF.out.last
          have he := sep_in hc hl
          rcases h with rfl | h
          · have q1 : (s[s.size - 1].toNat : Int) = 90 := by rw [he]; rfl
            clear he hc
            go_wp2
            go_ret
            exact ⟨rfl, HB.out⟩
          · rw [isDig_iff, ← he] at h
            obtain ⟨d1, d2⟩ := h
            have q1 : ¬ (s[s.size - 1].toNat : Int) = 90 := by omega
            have q2 : (48 : Int) ≤ (s[s.size - 1].toNat : Int) := by omega
            have q3 : (s[s.size - 1].toNat : Int) ≤ 57 := by omega
            clear he hc d1 d2
            go_wp2
            go_ret
            exact ⟨by simp [q3], HB.out⟩
end Go.Proofs.YtdgckbjfnbljkaaDoor.Tm
