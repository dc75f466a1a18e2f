/- What every row of this seat shares: from a walk that keeps all memory to the row's own end. -/
import Derived.ProofKit
import Derived.OpenShut
import Derived.Handy
import Derived.Lay
import Derived.Below
import Derived.Carry
import Derived.SevenTiedAt
import Derived.Lib.LaidU8
import Derived.Lib.LaidTab
import Derived.SizedLaws
import Derived.Test.YtdgckbjfnbljkaaDoorBase
namespace Go.Proofs.YtdgckbjfnbljkaaDoor.Tm
set_option linter.unusedSimpArgs false
set_option linter.unusedVariables false
open Go.ChangeShapes Go.WideShapes Go.ChangeAt Go.RowKit Go Go.Lib

section
variable {H : Type} {enc : TypeId × Value → H} {P : Program}

theorem trodAll_lt {W : World} : ∀ {ts : List TypeId} {vs : List Value} {ds : List (DataW H)} {ps : List MemPlace}, DataW.TrodAll enc P W 0 (fun _ => true) true ts vs ds ps → ∀ x ∈ ps, x.block < W.heap.size
  | [], [], [], _, h, x, hx => by subst h; cases hx
  | t :: ts, v :: vs, d :: ds, ps, h, x, hx => by
    obtain ⟨p, q, ⟨m, hm⟩, h2, rfl⟩ := h
    rcases List.mem_append.1 hx with hx | hx
    · exact DataW.trod_lt m _ _ _ hm x hx
    · exact trodAll_lt h2 x hx
  | [], _ :: _, _, _, h, _, _ => h.elim
  | [], [], _ :: _, _, h, _, _ => h.elim
  | _ :: _, [], _, _, h, _, _ => h.elim
  | _ :: _, _ :: _, [], _, h, _, _ => h.elim

theorem trodAll_keep (hl : laidOutB P = true) {W W' : World} (hb : Below W.heap.size W W') : ∀ {ts : List TypeId} {vs : List Value} {ds : List (DataW H)} {ps : List MemPlace}, (∀ t ∈ ts, P.readableRec t = true ∧ t < P.types.size) →
    DataW.TrodAll enc P W 0 (fun _ => true) true ts vs ds ps → DataW.TrodAll enc P W' 0 (fun b => decide (b < W.heap.size)) true ts vs ds ps
  | [], [], [], _, _, h => h
  | t :: ts, v :: vs, d :: ds, ps, hr, h => by
    obtain ⟨p, q, h1, h2, rfl⟩ := h
    have hlt : ∀ x ∈ p, x.block < W.heap.size := by obtain ⟨m, hm⟩ := h1; exact DataW.trod_lt m _ _ _ hm
    exact ⟨p, q, Below.trod hl (hr t (by simp)).1 (hr t (by simp)).2 h1 hb hlt, trodAll_keep hl hb (fun u hu => hr u (by simp [hu])) h2, rfl⟩
  | [], _ :: _, _, _, _, h => h.elim
  | [], [], _ :: _, _, _, h => h.elim
  | _ :: _, [], _, _, _, h => h.elim
  | _ :: _, _ :: _, [], _, _, h => h.elim

theorem var?_keep {W W' : World} (hb : Below W.heap.size W W') {n : String} {cs : Array Value} (h : W.var? P n = some cs) : W'.var? P n = some cs := by
  unfold World.var? at h ⊢
  cases hg : P.globalNamed n with
  | none => simp [hg] at h
  | some g =>
    simp only [hg, Option.bind_some] at h ⊢
    have hlt : g < W.heap.size := by
      rcases Nat.lt_or_ge g W.heap.size with h' | h'
      · exact h'
      · simp [Array.getElem?_eq_none h'] at h
    rw [hb.block g hlt]; exact h

theorem trodVars_keep (hl : laidOutB P = true) {W W' : World} (hb : Below W.heap.size W W') : ∀ {ns : List String} {ds : List (DataW H)} {ps : List MemPlace},
    (∀ n ∈ ns, ∀ g t, P.globalNamed n = some g → (P.globals[g]?).map (·.type) = some t → P.readableRec t = true ∧ t < P.types.size) →
    DataW.TrodVars enc P W (fun _ => true) ns ds ps → DataW.TrodVars enc P W' (fun b => decide (b < W.heap.size)) ns ds ps
  | [], [], _, _, h => h
  | n :: ns, d :: ds, ps, hr, h => by
    obtain ⟨g, t, cs, fuel, p, q, h1, h2, h3, h4, h5, rfl⟩ := h
    have hrt := hr n (by simp) g t h1 h2
    have hlt : ∀ x ∈ p, x.block < W.heap.size := DataW.trod_lt fuel _ _ _ h4
    exact ⟨g, t, cs, fuel, p, q, h1, h2, var?_keep hb h3,
      DataW.trod_stays (kids_book hl hrt.1) (book_sized hrt.1) (fun h => by cases h) ⟨hrt.2, book_self t⟩ h4 (fun x hx => hb.same (hlt x hx)) (fun x hx => by simpa using hlt x hx),
      trodVars_keep hl hb (fun m hm => hr m (by simp [hm])) h5, rfl⟩
  | [], _ :: _, _, _, h => h.elim
  | _ :: _, [], _, _, h => h.elim

theorem trodVars_length {W : World} {sp : Nat → Bool} : ∀ {ns : List String} {ds : List (DataW H)} {ps : List MemPlace}, DataW.TrodVars enc P W sp ns ds ps → ds.length = ns.length
  | [], [], _, _ => rfl
  | _ :: ns, _ :: ds, _, h => by
    obtain ⟨_, _, _, _, _, q, _, _, _, _, h5, _⟩ := h
    simp [trodVars_length h5]
  | [], _ :: _, _, h => h.elim
  | _ :: _, [], _, h => h.elim

def typesOk (P : Program) (ts : List TypeId) : Bool := ts.all fun t => P.readableRec t && decide (t < P.types.size)
def varsOk (P : Program) (ns : List String) : Bool := ns.all fun n => match P.globalNamed n with
  | some g => match (P.globals[g]?).map (·.type) with
    | some t => P.readableRec t && decide (t < P.types.size)
    | none => true
  | none => true
theorem typesOk_at {ts : List TypeId} (h : typesOk P ts = true) : ∀ t ∈ ts, P.readableRec t = true ∧ t < P.types.size := by
  intro t ht
  have := List.all_eq_true.1 h t ht
  simpa [Bool.and_eq_true] using this
theorem varsOk_at {ns : List String} (h : varsOk P ns = true) : ∀ n ∈ ns, ∀ g t, P.globalNamed n = some g → (P.globals[g]?).map (·.type) = some t → P.readableRec t = true ∧ t < P.types.size := by
  intro n hn g t hg ht
  have := List.all_eq_true.1 h n hn
  rw [hg] at this
  simp only [ht] at this
  simpa [Bool.and_eq_true] using this

/-- THE ROW's END: a call that returned true and kept all memory. -/
theorem law_post {f : Func} {s : ChangeSpec} {W W' : World} {args : Array Value} {ds gs : List (DataW H)} {before : List MemPlace} {tb : TypeId} (hl : laidOutB P = true) (hres : f.resultTypes = #[tb]) (htb : P.underlying tb = some .bool)
    (hrd : typesOk P f.params.toList = true) (hvr : varsOk P s.vars = true)
    (hW : DataW.Whole enc P f.params.toList s.vars false W args.toList ds gs before)
    (hfn : s.fn H (ds ++ gs) = { results := [.lit (.bool true)], args := ds, vars := gs }) (hb : Below W.heap.size W W') :
    s.post enc P f false true false false W args (.bool true) W' := by
  have hW' := hW
  obtain ⟨p, q, hA, hV, rfl, _, _⟩ := hW
  refine ⟨ds, gs, _, [], p, q, hW', ?_, ?_, ?_, hb.frame _, fun h => by cases h⟩
  · rw [hfn, hres]
    exact trodAll_mk1 (shut_bool htb _)
  · rw [hfn]
    exact trodAll_keep hl hb (typesOk_at hrd) hA
  · rw [hfn]
    exact trodVars_keep hl hb (varsOk_at hvr) hV

/-- A listed variable that reads as an error holds an interface value that is not nil. -/
theorem laid_iface {W : World} {l : List (String × DataW Unit)} {n nm : String} {d : DataW Unit} {g : Nat} {ti : TypeId} {ms : Array (String × TypeId)} (h : laidMet P l W) (hm : (n, .iface nm d) ∈ l)
    (hg : P.globalNamed n = some g) (ht : (P.globals[g]?).map (·.type) = some ti) (hi : P.underlying ti = some (.interface ms)) :
    ∃ u v, W.cell? ⟨g, 0, none⟩ = some (.iface u v) := by
  obtain ⟨g0, t0, cs0, f0, p0, hg0, ht0, hv0, hd0⟩ := Lib.laidMet.reads h hm
  obtain rfl := Option.some.inj (hg.symm.trans hg0)
  obtain rfl := Option.some.inj (ht.symm.trans ht0)
  obtain ⟨l0⟩ := cs0
  obtain ⟨f1, u, v, rfl, hn, h1⟩ := iface_of_trod hi hd0
  exact ⟨u, v, by simpa using World.var?_cell hg0 hv0 0⟩
theorem var_lt {W : World} {a : Addr} {v : Value} (h : W.cell? a = some v) : a.block < W.heap.size := World.block_lt_of_cell? _ _ h
end
end Go.Proofs.YtdgckbjfnbljkaaDoor.Tm
