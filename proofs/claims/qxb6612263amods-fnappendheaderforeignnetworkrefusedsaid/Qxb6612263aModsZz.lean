/- ZZappendHeader (10), ZZreadHeader (12), ZZreadCookie (16): contracts. -/
import Derived.Test.Qxb6612263aModsCk
namespace Go.Proofs.Qxb6612263aMods
open Go.RowKit
open Extern.Stop (cell)

set_option maxHeartbeats 400000 in
theorem zzAppendHeader_any (ao : Option Addr) (n : Nat) (xs id : List UInt8) (t : UInt8) (w : World) (hnone : ao = none → n = 0) (hxs : xs.length = n)
    (hc : ∀ b, ao = some b → ∀ j u, (xs.map cell)[j]? = some u → w.cell? (b.add j) = some u) (hid : id.length = 8) (hn : n ≤ 1048576) :
    Calls Trym.prog 10 #[.slice ao n n, .int .u8 t.toNat, .agg (id.map cell).toArray] w fun e w' => ∃ g cap, e = .returned (.slice (some ⟨g, 0, none⟩) (n + 10) cap) ∧
      w'.ownsRow w.heap.size 5 1 (.slice (some ⟨g, 0, none⟩) (n + 10) cap) (n + 10) ((xs ++ (1 :: t :: id)).map cell) ∧ Below w.heap.size w w' := by
  have hi : Hid ((Trym.prog.info? 23).map (·.size) = some (id.map cell).length) := by show _ = _; rw [info23]; simp [hid]
  have HC : Hid (∀ b, ao = some b → ∀ j u, (xs.map cell)[j]? = some u → (w.alloc (.cells (id.map cell).toArray 23)).cell? (b.add j) = some u) := fun b hb j u hu => cell_alloc (hc b hb j u hu) _
  clear hc
  go_enter Trym.func10, Trym.ntmps10
  go_wp2_with (refine wpList_load_mid rfl 23 (.tmp 5) rfl _ _ rfl (id.map cell) _ (rangeAt_new w _ _) Trym.underlying23 rfl hi.out ?_)
  refine (appendHeader_any ao n xs id t (w.alloc (.cells (id.map cell).toArray 23)) hnone hxs HC.out hid hn).mono ?_
  rintro e w1 ⟨g, cap, rfl, ho, hb⟩
  have HF : Hid (w1.ownsRow w.heap.size 5 1 (.slice (some ⟨g, 0, none⟩) (n + 10) cap) (n + 10) ((xs ++ (1 :: t :: id)).map cell) ∧ Below w.heap.size w w1) :=
    ⟨ownsRow_base ho (by simp), ((Below.refl _ _).alloc (Nat.le_refl _) _).trans (hb.mono (by simp))⟩
  clear ho hb HC
  go_wp2
  go_ret
  exact ⟨g, cap, rfl, HF.out⟩

set_option maxHeartbeats 400000 in
theorem zzReadHeader_any (g off len cap : Nat) (r : UInt8) (b : Bool) (xs : List Value) (id : List UInt8) (w : World) (hid : id.length = 8) (hx : w.rangeAt g off xs)
    (H : ∀ W : World, W.rangeAt g off xs → Calls Trym.prog 18 #[.slice (some ⟨g, off, none⟩) len cap, .agg (id.map cell).toArray] W fun e w' => e = .returned (.tuple #[.int .u8 r.toNat, .bool b]) ∧ Below W.heap.size W w') :
    Calls Trym.prog 12 #[.slice (some ⟨g, off, none⟩) len cap, .agg (id.map cell).toArray] w fun e w' => e = .returned (.tuple #[.int .u8 r.toNat, .bool b]) ∧ Below w.heap.size w w' := by
  have hi : Hid ((Trym.prog.info? 23).map (·.size) = some (id.map cell).length) := by show _ = _; rw [info23]; simp [hid]
  have HH : Hid (∀ W : World, W.rangeAt g off xs → Calls Trym.prog 18 #[.slice (some ⟨g, off, none⟩) len cap, .agg (id.map cell).toArray] W fun e w' => e = .returned (.tuple #[.int .u8 r.toNat, .bool b]) ∧ Below W.heap.size W w') := H
  have HX : Hid ((w.alloc (.cells (id.map cell).toArray 23)).rangeAt g off xs) := World.rangeAt_alloc hx _
  clear H hx
  go_enter Trym.func12, Trym.ntmps12
  go_wp2_with (refine wpList_load_mid rfl 23 (.tmp 3) rfl _ _ rfl (id.map cell) _ (rangeAt_new w _ _) Trym.underlying23 rfl hi.out ?_)
  refine (HH.out (w.alloc (.cells (id.map cell).toArray 23)) HX.out).mono ?_
  rintro e w1 ⟨rfl, hb⟩
  have HF : Hid (Below w.heap.size w w1) := ((Below.refl _ _).alloc (Nat.le_refl _) _).trans (hb.mono (by simp))
  clear hb HH HX
  go_wp2
  go_ret2
  exact ⟨rfl, HF.out⟩

set_option maxHeartbeats 400000 in
theorem zzReadCookie_any (g off len cap : Nat) (r : List UInt8) (b : Bool) (xs : List Value) (id n0 : List UInt8) (w : World) (hid : id.length = 8) (hn0 : n0.length = 16) (hr : r.length = 16) (hx : w.rangeAt g off xs)
    (H : ∀ W : World, W.rangeAt g off xs → Calls Trym.prog 20 #[.slice (some ⟨g, off, none⟩) len cap, .agg (id.map cell).toArray, .agg (n0.map cell).toArray] W fun e w' => e = .returned (.tuple #[.agg (r.map cell).toArray, .bool b]) ∧ Below W.heap.size W w') :
    Calls Trym.prog 16 #[.slice (some ⟨g, off, none⟩) len cap, .agg (id.map cell).toArray, .agg (n0.map cell).toArray] w fun e w' => e = .returned (.tuple #[.agg (r.map cell).toArray, .bool b]) ∧ Below w.heap.size w w' := by
  have hi : Hid ((Trym.prog.info? 23).map (·.size) = some (id.map cell).length) := by show _ = _; rw [info23]; simp [hid]
  have hi1 : Hid ((Trym.prog.info? 33).map (·.size) = some (n0.map cell).length) := by show _ = _; rw [info33]; simp [hn0]
  have hi2 : Hid ((Trym.prog.info? 42).map (·.size) = some (r.map cell).length) := by show _ = _; rw [info42]; simp [hr]
  have hi3 : Hid ((Trym.prog.info? 33).map (·.size) = some (r.map cell).length) := by show _ = _; rw [info33]; simp [hr]
  have HH : Hid (∀ W : World, W.rangeAt g off xs → Calls Trym.prog 20 #[.slice (some ⟨g, off, none⟩) len cap, .agg (id.map cell).toArray, .agg (n0.map cell).toArray] W fun e w' => e = .returned (.tuple #[.agg (r.map cell).toArray, .bool b]) ∧ Below W.heap.size W w') := H
  have HX : Hid (w.rangeAt g off xs) := hx
  clear H hx
  go_enter Trym.func16, Trym.ntmps16
  go_wp2_with (first | (refine wpList_load_mid rfl 23 (.tmp 4) rfl _ _ rfl (id.map cell) _ ?_ Trym.underlying23 rfl hi.out ?_) | (refine wpList_load_mid rfl 33 (.tmp 5) rfl _ _ rfl (n0.map cell) _ ?_ Trym.underlying33 rfl hi1.out ?_))
  · exact World.rangeAt_alloc (World.rangeAt_alloc (rangeAt_new _ _ _) _) _
  · have h := rangeAt_new (w.alloc (.cells (id.map cell).toArray 23)) (n0.map cell) 33
    simp only [World.size_alloc] at h
    exact World.rangeAt_alloc h _
  refine calls_named3 ?_
  intro W0 hW0
  obtain ⟨f1, f2, f3, f4, f5, f6⟩ := three_new hW0 16 rfl HX.out
  clear hW0 HX
  refine (HH.out W0 f1).mono ?_
  rintro e w1 ⟨rfl, b1⟩
  have g4 := there_below b1 (by omega) f4
  have hz1 : w.heap.size + 3 ≤ w1.heap.size := by have := b1.size; omega
  have G6 : Hid (Below w.heap.size w w1) := f6.trans (b1.mono (by omega))
  have GA : Hid (w1.there (w.heap.size + 2) 0 16) := g4
  have hl : Hid ((r.map cell).length = 16) := by show _ = _; simp [hr]
  clear b1 f1 f2 f3 f4 f5 f6 g4 HH W0 hr
  have hi2' : Hid ((Trym.prog.info? 42).map (·.size) = some (r.map cell).toArray.size) := by show _ = _; simpa using hi2.out
  have hl' : Hid ((r.map cell).toArray.size = 16) := by show _ = _; simpa using hl.out
  have hi3' : Hid ((Trym.prog.info? 33).map (·.size) = some (r.map cell).toArray.size) := by show _ = _; simpa using hi3.out
  go_wp2_with (first | (refine wpList_store_mid rfl 42 (.tmp 8) (.tmp 15) rfl _ _ (r.map cell).toArray rfl rfl ?_ hi2'.out (all_oneCell_toArray (bytes_one _)) ?_) | (refine wpList_load_mid rfl 42 (.tmp 8) rfl _ _ rfl (r.map cell) _ ?_ Trym.underlying42 rfl hi2.out ?_) | (refine wpList_store_mid rfl 33 (.tmp 6) (.tmp 17) rfl _ _ (r.map cell).toArray rfl rfl ?_ hi3'.out (all_oneCell_toArray (bytes_one _)) ?_))
  · rw [hl'.out]; exact there_new w1 _ 42
  · refine World.rangeAt_setCells_same _ _ _ _ ?_
    rw [hl.out]; exact there_new w1 _ 42
  · rw [hl'.out]; exact World.there_setCells (World.there_alloc GA.out _) _ _ _
  refine bodyPost_ret (v := .tuple #[.agg (r.map cell).toArray, .bool b]) (results_cell_tmp_mid Trym.results16 _ _ _ _ _ _ _ rfl rfl (World.rangeAt_setCells_same _ _ _ _ ?_) Trym.underlying33 rfl hi3.out) rfl ⟨rfl, below_setCells _ _ _ (below_setCells _ _ _ (G6.out.alloc (by omega) _) (by omega)) (by omega)⟩
  rw [hl.out]; exact World.there_setCells (World.there_alloc GA.out _) _ _ _

end Go.Proofs.Qxb6612263aMods
