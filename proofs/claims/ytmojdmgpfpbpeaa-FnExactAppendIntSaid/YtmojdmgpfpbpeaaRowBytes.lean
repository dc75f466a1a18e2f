/- A slice of bytes among the arguments of a row. -/
import Derived.ChangeSlices
import Derived.Test.YtmojdmgpfpbpeaaRowKit
import Derived.Test.YtmojdmgpfpbpeaaAppImpl
namespace Go.Proofs.Ytmojdmgpfpbpeaa.Tm
open Go.ChangeShapes Go.WideShapes Go.ChangeAt Go.RowKit Go Go.Lib
theorem cells8 : Try.prog.cellsOf 5 = 1 := by kernel_rfl
theorem argB_of {H : Type} {enc : TypeId × Value → H} {W : World} {v : Value} {d : DataW H} {p : List MemPlace} {base : Nat} (hval : Value.okWide Try.prog W .any base 22 v) (h : DataW.Trod enc Try.prog W 0 (fun _ => true) true 22 v d p) : ∃ l, ArgB W v l := by
  obtain ⟨a1, len1, cap1, rfl⟩ := okWide_slice Try.underlying22 hval
  obtain ⟨f, hf⟩ := h
  rcases open_ints Try.underlying22 Try.underlying5 cells8 hf with ⟨e, _⟩ | ⟨a, len, cap, zs, e, _, hlc, _, hzl, _, hcell, hwf⟩
  · simp [Value.cells] at e
    obtain ⟨rfl, rfl, rfl⟩ := e
    exact ⟨[], argB_nil W⟩
  · simp [Value.cells] at e
    obtain ⟨rfl, rfl, rfl⟩ := e
    rw [if_pos rfl] at hzl
    have hll : ((zs.take len1).map fun z => UInt8.ofNat z.toNat).length = len1 := by rw [List.length_map, List.length_take]; omega
    refine ⟨(zs.take len1).map fun z => UInt8.ofNat z.toNat, ?_⟩
    have hB := argB_some W a cap1 ((zs.take len1).map fun z => UInt8.ofNat z.toNat) (fun h0 => by
      have h1 := World.block_lt_of_cell? _ _ (hcell 0 (by omega))
      have h2 : (a.add 0).block = a.block := by unfold Addr.add; split <;> rfl
      omega) (fun j hj => by
      have hj2 : j < len1 := by omega
      rw [hcell j (by omega)]
      have hm : zs.getD j 0 ∈ zs := by rw [List.getD_eq_getElem?_getD, List.getElem?_eq_getElem (by omega)]; exact List.getElem_mem _
      have hw := hwf _ hm
      simp [Lit.wf, IntKind.min, IntKind.max, IntKind.signed, IntKind.bits] at hw
      simp only [List.getElem_map, List.getElem_take]
      have e2 : zs.getD j 0 = zs[j]'(by omega) := by rw [List.getD_eq_getElem?_getD, List.getElem?_eq_getElem (by omega)]; rfl
      simp only [List.getD_eq_getElem?_getD, List.getElem?_eq_getElem (show j < zs.length by omega), Option.getD_some] at hw
      rw [e2, UInt8.toNat_ofNat']
      congr 2
      omega)
    rw [hll] at hB
    exact hB
end Go.Proofs.Ytmojdmgpfpbpeaa.Tm
