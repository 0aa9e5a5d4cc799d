/-
  WHAT THE ROWS over writeHeader want: a slice of bytes, opened.
-/
import Derived.Test.Qxb6602105aDoorRow
import Derived.Test.Qxb6602105aDoorWhSrc
import Derived.ChangeSlices
import Derived.OpenShut
namespace Go.Proofs.Qxb6602105aDoor
open Go.ChangeShapes Go.WideShapes Go.ChangeAt Go.RowKit Go.Lib
open Go.ChangeMaps (open_string shut_string)

theorem cells5 : Tryd.prog.cellsOf 5 = 1 := by kernel_rfl
theorem open_bytesY {H : Type} {enc : TypeId × Value → H} {W : World} {a0 : Option Addr} {len cap fuel : Nat} {x : DataW H × List MemPlace}
    (hf : DataW.trod enc Tryd.prog W 0 (fun _ => true) true fuel 22 [.slice a0 len cap] = some x) : ∃ l : List UInt8, l.length = len ∧ SrcY W a0 cap l := by
  rcases open_ints Tryd.underlying22 Tryd.underlying5 cells5 hf with ⟨hcs, _⟩ | ⟨a, len', cap', zs, hcs, _, hl, _, hz, _, hcell, hw⟩
  · simp at hcs
    obtain ⟨rfl, rfl, rfl⟩ := hcs
    exact ⟨[], rfl, .inl ⟨rfl, rfl, rfl⟩⟩
  · simp at hcs
    obtain ⟨rfl, rfl, rfl⟩ := hcs
    simp only [if_true] at hz
    refine ⟨(List.range len).map fun i => UInt8.ofNat (zs.getD i 0).toNat, by simp, .inr ⟨a, rfl, fun hpos => ?_⟩⟩
    have hpos' : 0 < len := by simpa using hpos
    obtain ⟨b, off, spot⟩ := a
    have hspot : spot = none := by simpa [Addr.add] using World.cell?_spot (hcell 0 (by omega))
    subst hspot
    refine ⟨b, off, rfl, lt_of_cell (hcell 0 (by omega)), fun j hj => ?_⟩
    have hj' : j < len := by simpa using hj
    rw [← add_atW, hcell j (by omega)]
    have hb := range_u8 hw j
    rw [← List.getD_eq_getElem?_getD] at hb
    have he : ((UInt8.ofNat (zs.getD j 0).toNat).toNat : Int) = zs.getD j 0 := by
      rw [UInt8.toNat_ofNat']
      omega
    simp only [List.getElem_map, List.getElem_range]
    rw [he]

end Go.Proofs.Qxb6602105aDoor
