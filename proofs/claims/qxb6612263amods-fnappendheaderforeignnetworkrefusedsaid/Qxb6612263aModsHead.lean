/- readHeader (18): contracts. -/
import Derived.Test.Qxb6612263aModsLaws
namespace Go.Proofs.Qxb6612263aMods
open Go.RowKit
open Extern.Stop (cell)

set_option maxHeartbeats 400000 in
theorem readHeader_ok (g off len cap : Nat) (t : UInt8) (id rest : List UInt8) (w : World)
    (hx : w.rangeAt g off ((1 :: t :: (id ++ rest)).map cell)) (hid : id.length = 8) (hlen : len = 10 + rest.length) (h1 : len ≤ 1280) (hcap : len ≤ cap) :
    Calls Trym.prog 18 #[.slice (some ⟨g, off, none⟩) len cap, .agg (id.map cell).toArray] w fun e w' => e = .returned (.tuple #[.int .u8 t.toNat, .bool true]) ∧ Below w.heap.size w w' := by
  have c0 : w.cell? ⟨g, off, none⟩ = some (.int .u8 1) := (by simpa using hx 0 (cell 1) (by simp) : w.cell? ⟨g, off, none⟩ = some (cell 1))
  have c1 : w.cell? ⟨g, off + 1, none⟩ = some (.int .u8 t.toNat) := hx 1 (cell t) (by simp)
  have hlt : g < w.heap.size := by simpa using block_lt_of_cell c0
  have hr : w.rangeAt g (off + 2) (id.map cell) := fun j v hv => by
    have hj : j < id.length := by
      have := (List.getElem?_eq_some_iff.1 hv).1
      simpa using this
    have := hx (j + 2) v (by simp [hj, List.getElem?_append_left] at hv ⊢; exact hv)
    rw [show off + 2 + j = off + (j + 2) by omega]
    exact this
  have i0 : (0 : Int) < (len : Int) := by omega
  have i01 : (1 : Int) < (len : Int) := by omega
  have n0 : 0 < len := by omega
  have n1 : 1 < len := by omega
  have n10 : 10 ≤ len := by omega
  have d1 : decide ((len : Int) < 10) = false := by simp; omega
  have d2 : decide (1280 < (len : Int)) = false := by simp; omega
  have k1 : 10 ≤ cap := by omega
  have k2 : (10 : Int) ≤ (cap : Int) := by omega
  have k3 : ¬ cap = 2 := by omega
  have nq := fun w => neq39 id id hid hid w
  have aa := fun w ao len cap => run_arrayAt (P := Trym.prog) w 39 5 8 ao len cap Trym.underlying39
  have L1 : Hid (∀ w', (∃ n, w' = (w.alloc (Obj.cells (List.map cell id).toArray 39)).drewN n) → w'.rangeAt g (off + 2) (id.map cell)) := fun w' ⟨n, h⟩ => h ▸ rangeAt_drewN (World.rangeAt_alloc hr _)
  have L2 : Hid (∀ w', (∃ n, w' = (w.alloc (Obj.cells (List.map cell id).toArray 39)).drewN n) → w'.rangeAt w.heap.size 0 (id.map cell)) := fun w' ⟨n, h⟩ => h ▸ rangeAt_drewN (rangeAt_new w _ _)
  have hi39 : Hid ((Trym.prog.info? 39).map (·.size) = some (id.map cell).length) := by show _ = _; rw [info39]; simp [hid]
  clear hx hr hlen h1
  go_enter Trym.func18, Trym.ntmps18
  go_wp2
  refine wp_region_quiet_lit (by kernel_rfl) (by kernel_rfl) ?_
  repeat (first | (refine wpQuiet_load_mid 39 (.tmp 23) rfl _ _ rfl _ _ L1.out Trym.underlying39 rfl hi39.out rfl ?_; conv => arg 6; simp [Act.put]) | (refine wpQuiet_load_mid 39 (.tmp 3) rfl _ _ rfl _ _ L2.out Trym.underlying39 rfl hi39.out rfl ?_; conv => arg 6; simp [Act.put]) | go_big_quiet_step (fail))
  refine wpQuiet_nil ?_
  intro _ hw'
  obtain ⟨nq, hw''⟩ := hw'
  subst hw''
  go_wp2
  go_ret2
  exact ⟨rfl, below_drewN ((Below.refl _ _).alloc (Nat.le_refl _) _) _⟩

set_option maxHeartbeats 400000 in
theorem readHeader_no (g off len cap : Nat) (t : UInt8) (ida id rest : List UInt8) (w : World)
    (hx : w.rangeAt g off ((1 :: t :: (ida ++ rest)).map cell)) (hid : id.length = 8) (hida : ida.length = 8) (hne : (ida == id) = false) (hlen : len = 10 + rest.length) (h1 : len ≤ 1280) (hcap : len ≤ cap) :
    Calls Trym.prog 18 #[.slice (some ⟨g, off, none⟩) len cap, .agg (id.map cell).toArray] w fun e w' => e = .returned (.tuple #[.int .u8 0, .bool false]) ∧ Below w.heap.size w w' := by
  have c0 : w.cell? ⟨g, off, none⟩ = some (.int .u8 1) := (by simpa using hx 0 (cell 1) (by simp) : w.cell? ⟨g, off, none⟩ = some (cell 1))
  have c1 : w.cell? ⟨g, off + 1, none⟩ = some (.int .u8 t.toNat) := hx 1 (cell t) (by simp)
  have hlt : g < w.heap.size := by simpa using block_lt_of_cell c0
  have hr : w.rangeAt g (off + 2) (ida.map cell) := fun j v hv => by
    have hj : j < ida.length := by
      have := (List.getElem?_eq_some_iff.1 hv).1
      simpa using this
    have := hx (j + 2) v (by simp [hj, List.getElem?_append_left] at hv ⊢; exact hv)
    rw [show off + 2 + j = off + (j + 2) by omega]
    exact this
  have i0 : (0 : Int) < (len : Int) := by omega
  have i01 : (1 : Int) < (len : Int) := by omega
  have n0 : 0 < len := by omega
  have n1 : 1 < len := by omega
  have n10 : 10 ≤ len := by omega
  have d1 : decide ((len : Int) < 10) = false := by simp; omega
  have d2 : decide (1280 < (len : Int)) = false := by simp; omega
  have k1 : 10 ≤ cap := by omega
  have k2 : (10 : Int) ≤ (cap : Int) := by omega
  have k3 : ¬ cap = 2 := by omega
  have nq := fun w => neq39 ida id hida hid w
  have aa := fun w ao len cap => run_arrayAt (P := Trym.prog) w 39 5 8 ao len cap Trym.underlying39
  have L1 : Hid (∀ w', (∃ n, w' = (w.alloc (Obj.cells (List.map cell id).toArray 39)).drewN n) → w'.rangeAt g (off + 2) (ida.map cell)) := fun w' ⟨n, h⟩ => h ▸ rangeAt_drewN (World.rangeAt_alloc hr _)
  have L2 : Hid (∀ w', (∃ n, w' = (w.alloc (Obj.cells (List.map cell id).toArray 39)).drewN n) → w'.rangeAt w.heap.size 0 (id.map cell)) := fun w' ⟨n, h⟩ => h ▸ rangeAt_drewN (rangeAt_new w _ _)
  have hi39 : Hid ((Trym.prog.info? 39).map (·.size) = some (id.map cell).length) := by show _ = _; rw [info39]; simp [hid]
  have hi39a : Hid ((Trym.prog.info? 39).map (·.size) = some (ida.map cell).length) := by show _ = _; rw [info39]; simp [hida]
  clear hx hr hlen h1
  go_enter Trym.func18, Trym.ntmps18
  go_wp2
  refine wp_region_quiet_lit (by kernel_rfl) (by kernel_rfl) ?_
  repeat (first | (refine wpQuiet_load_mid 39 (.tmp 23) rfl _ _ rfl _ _ L1.out Trym.underlying39 rfl hi39a.out rfl ?_; conv => arg 6; simp [Act.put]) | (refine wpQuiet_load_mid 39 (.tmp 3) rfl _ _ rfl _ _ L2.out Trym.underlying39 rfl hi39.out rfl ?_; conv => arg 6; simp [Act.put]) | go_big_quiet_step (fail))
  refine wpQuiet_nil ?_
  intro _ hw'
  obtain ⟨nq, hw''⟩ := hw'
  subst hw''
  go_wp2
  go_ret2
  exact ⟨rfl, below_drewN ((Below.refl _ _).alloc (Nat.le_refl _) _) _⟩
end Go.Proofs.Qxb6612263aMods
