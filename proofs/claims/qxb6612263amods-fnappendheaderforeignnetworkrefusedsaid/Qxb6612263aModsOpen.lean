/- An array of bytes by value, opened. -/
import Derived.Test.Qxb6612263aModsRows
import Derived.WalkKit
import Derived.ProofKit
import Derived.OpenShut
import Derived.ShutString
import Derived.ChangeOld
import Derived.Below
import GoSem.Extern.Stop
namespace Go.Proofs.Qxb6612263aMods
open Go.ChangeShapes Go.WideShapes Go.ChangeAt Go.RowKit
open Extern.Stop (cell)

def byteOf : Value → UInt8
  | .int _ x => UInt8.ofNat x.toNat
  | _ => 0

theorem cell_byteOf {x : Int} (h : (Lit.int .u8 x).wf = true) : cell (byteOf (.int .u8 x)) = .int .u8 x := by
  have := bounds_u8 h
  have e : (UInt8.ofNat x.toNat).toNat = x.toNat := by
    rw [UInt8.toNat_ofNat']
    omega
  show Value.int .u8 (Int.ofNat (UInt8.ofNat x.toNat).toNat) = _
  rw [e]
  congr 1
  show ((x.toNat : Nat) : Int) = x
  omega

theorem open_bytes {H : Type} {enc : TypeId × Value → H} {P : Program} {W : World} {base b' : Nat} {sp : Nat → Bool} {held : Bool} {T n e : Nat} {v : Value} {d : DataW H} {p : List MemPlace}
    (hT : P.underlying T = some (.array n e)) (he : P.underlying e = some (.int .u8)) (ce : P.cellsOf e = 1) (cT : P.cellsOf T = n)
    (hv : Value.okWide P W .any base T v) (ht : DataW.Trod enc P W b' sp held T v d p) : ∃ l : List UInt8, l.length = n ∧ v = .agg (l.map cell).toArray := by
  obtain ⟨cs, rfl, hsz⟩ : ∃ cs, v = .agg cs ∧ cs.size = P.cellsOf T := by
    have : ∃ cs, v = .agg cs ∧ cs.size = P.cellsOf T ∧ Row.okWide P W .any base T cs := by simpa [Value.okWide, hT] using hv
    obtain ⟨cs, h1, h2, _⟩ := this
    exact ⟨cs, h1, h2⟩
  obtain ⟨fuel, hf⟩ := ht
  obtain ⟨xs, m, _, _, _, hl, hel⟩ := DataW.trod_array hT hf
  rw [cT] at hsz
  have hcs : ∀ i (h : i < cs.size), ∃ x, cs[i] = .int .u8 x ∧ (Lit.int .u8 x).wf = true := by
    intro i h
    have h1 := hel i (by omega)
    rw [ce] at h1
    have h2 : xs[i]? = some (xs[i]'(by omega)) := by simp
    rw [h2] at h1
    obtain ⟨x, hx, _, hw⟩ := DataW.trod_int he h1
    refine ⟨x, ?_, hw⟩
    have h3 : ((Value.agg cs).cells.toList.drop (i * 1)).take 1 = [cs[i]] := by
      rw [Nat.mul_one, List.take_one]
      simp [Value.cells, h]
    rw [h3] at hx
    simpa using hx
  refine ⟨cs.toList.map byteOf, by simp [hsz], ?_⟩
  congr 1
  apply Array.ext
  · simp
  · intro i h1 h2
    obtain ⟨x, hx, hw⟩ := hcs i h1
    simp [hx, cell_byteOf hw]

end Go.Proofs.Qxb6612263aMods
