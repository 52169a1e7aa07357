/- A slice of bytes and a byte that came in, opened. -/
import Derived.Test.Qxb6612263aModsOpen
import Derived.Test.Qxb6612263aModsSl
namespace Go.Proofs.Qxb6612263aMods
open Go.ChangeShapes Go.WideShapes Go.ChangeAt Go.RowKit
open Extern.Stop (cell)

theorem u8_of_wf {x : Int} (h : (Lit.int .u8 x).wf = true) : ∃ t : UInt8, x = (t.toNat : Int) := by
  have := bounds_u8 h
  refine ⟨UInt8.ofNat x.toNat, ?_⟩
  rw [UInt8.toNat_ofNat']
  omega

theorem isBytes_of {H : Type} {enc : TypeId × Value → H} {W : World} {a : Option Addr} {len cap : Nat} {d : DataW H} {p : List MemPlace}
    (h : DataW.Trod enc Trym.prog W 0 (fun _ => true) true 22 (.slice a len cap) d p) : ∃ xs, IsBytes W a len cap xs ∧ xs.length = len := by
  obtain ⟨fuel, hf⟩ := h
  rcases open_ints Trym.underlying22 Trym.underlying5 (by kernel_rfl) hf with ⟨hcs, _⟩ | ⟨x, l, c, zs, hcs, _, hl, hm, hz, _, hcell, hwz⟩
  · simp [Value.cells] at hcs
    obtain ⟨rfl, rfl, rfl⟩ := hcs
    exact ⟨[], .inl ⟨rfl, rfl, rfl, rfl⟩, rfl⟩
  · simp [Value.cells] at hcs
    obtain ⟨rfl, rfl, rfl⟩ := hcs
    have hz' : zs.length = cap := by simpa using hz
    refine ⟨(zs.take len).map (fun x => byteOf (.int .u8 x)), .inr ⟨_, rfl, hl, hm, by simp; omega, ?_⟩, by simp; omega⟩
    intro i u hu
    have hi : i < len := by
      have := (List.getElem?_eq_some_iff.1 hu).1
      simp at this
      omega
    have hiz : i < zs.length := by omega
    have h1 := hcell i hiz
    rw [h1]
    have hw := hwz zs[i] (List.getElem_mem hiz)
    rw [← hu]
    simp [hi, hiz, cell_byteOf hw]

end Go.Proofs.Qxb6612263aMods
