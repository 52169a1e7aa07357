/- appendHeader (17), ZZappendHeader (10): contracts. -/
import Derived.Test.Qxb6612263aModsLaws
namespace Go.Proofs.Qxb6612263aMods
open Go.RowKit
open Extern.Stop (cell)

theorem info5 : (Trym.prog.info? 5).map (fun i => (i.zero, i.size, i.bytes)) = some (some (.int .u8 0), 1, 1) := by kernel_rfl

theorem bytes_one (xs : List UInt8) : ∀ u ∈ xs.map cell, u.oneCell' = true := by
  intro u hu
  obtain ⟨b, _, rfl⟩ := List.mem_map.1 hu
  rfl

theorem cell_alloc {w : World} {a : Addr} {v : Value} (h : w.cell? a = some v) (o : Obj) : (w.alloc o).cell? a = some v := by
  rw [← h]
  exact World.cell?_of_block (heap_alloc_old w o (block_lt_of_cell h))

theorem ownsRow_base {w : World} {base base' : Nat} {e : TypeId} {size : Nat} {v : Value} {n : Nat} {xs : List Value} (h : w.ownsRow base e size v n xs) (hb : base' ≤ base) : w.ownsRow base' e size v n xs := by
  obtain ⟨h1, h2 | ⟨g, cap, cur, e1, e2, e3⟩⟩ := h
  · exact ⟨h1, .inl h2⟩
  · exact ⟨h1, .inr ⟨g, cap, cur, e1, by omega, e3⟩⟩

theorem two_new (w : World) (t : UInt8) (k : TypeId) : ∀ (j : Nat) (u : Value), [cell 1, cell t][j]? = some u →
    ((w.alloc (Obj.cells #[Value.int IntKind.u8 1, Value.int IntKind.u8 ↑t.toNat] k))).cell? ((⟨w.heap.size, 0, none⟩ : Addr).add j) = some u :=
  World.news_of_block (heap_alloc_new w (.cells #[cell 1, cell t] k))

set_option maxHeartbeats 400000 in
theorem appendHeader_any (ao : Option Addr) (n : Nat) (xs id : List UInt8) (t : UInt8) (w : World) (hnone : ao = none → n = 0) (hxs : xs.length = n)
    (hc : ∀ b, ao = some b → ∀ j u, (xs.map cell)[j]? = some u → w.cell? (b.add j) = some u) (hid : id.length = 8) (hn : n ≤ 1048576) :
    Calls Trym.prog 17 #[.slice ao n n, .int .u8 t.toNat, .agg (id.map cell).toArray] w fun e w' => ∃ g cap, e = .returned (.slice (some ⟨g, 0, none⟩) (n + 10) cap) ∧
      w'.ownsRow w.heap.size 5 1 (.slice (some ⟨g, 0, none⟩) (n + 10) cap) (n + 10) ((xs ++ (1 :: t :: id)).map cell) ∧ Below w.heap.size w w' := by
  obtain ⟨i0, hi, hz0, hz1, hz2⟩ := info_parts info5
  go_enter Trym.func17, Trym.ntmps17
  go_wp2_with (at_builtin; refine wpList_append_grows _ rfl (.tmp 7) (.tmp 9) 22 rfl 5 i0 (.int .u8 0) 1 1 Trym.underlying22 hi hz0 hz1 hz2 rfl (by decide) _ _ _ (xs.map cell) rfl (fun h => ⟨hnone h, hnone h⟩) (by simp [hxs]) ?c1 _ _ _ [cell 1, cell t] rfl rfl ?c2 ?c3 ?c4 ?c5 ?c6 ?_)
  case c1 =>
    intro b hb j u hj
    have h := hc b hb j u hj
    exact cell_alloc (cell_alloc h _) _
  case c2 => have h := two_new (w.alloc (Obj.cells (List.map cell id).toArray 39)) t 5; simpa using h
  case c3 => exact bytes_one [1, t]
  case c4 => omega
  case c5 => unfold maxLen; omega
  case c6 => omega
  intro v1 w1 hown hgrow
  have hsz : w.heap.size + 2 ≤ w1.heap.size := by have := hgrow.size; simpa using this
  have hb : w1.heap[w.heap.size]? = some (.cells (id.map cell).toArray 39) := by
    rw [hgrow.block _ (by simp; omega) (by simp), heap_alloc_old _ _ (by simp)]
    exact heap_alloc_new _ _
  have hbel : Below w.heap.size w w1 := (((Below.refl _ _).alloc (Nat.le_refl _) _).alloc (by simp) _).grown hgrow (by simp; omega) (by simp)
  have hnews : Hid (∀ j u, (id.map cell)[j]? = some u → w1.cell? ((⟨w.heap.size, 0, none⟩ : Addr).add j) = some u) := by
    show ∀ j u, _
    simpa using World.news_of_block hb
  have hid' : Hid ((id.map cell).length = 8 * 1) := by show _ = _; simp [hid]
  have HB : Hid (Below w.heap.size w w1) := hbel
  have HO : Hid (w1.ownsRow (w.heap.size + 1 + 1) 5 1 v1 (n + 2) (List.map cell xs ++ [cell 1, cell t])) := hown
  clear hbel hown hgrow hb hc hnone
  go_wp2_with (at_builtin; refine wpList_append_lies _ rfl (.tmp 11) (.tmp 12) 22 rfl (w.heap.size + 1 + 1) 5 i0 (.int .u8 0) 1 1 Trym.underlying22 hi hz0 hz1 hz2 rfl (by decide) v1 (n + 2) _ rfl HO.out ⟨w.heap.size, 0, none⟩ 8 8 (id.map cell) rfl hid'.out hnews.out (bytes_one id) (by decide) (by unfold maxLen; omega) (by omega) (by omega) _ rfl ?_)
  intro g cap w2 hown2 hgrow2 _ _
  have hbel2 : Below w.heap.size w w2 := HB.out.grown hgrow2 (by omega) (fun k hk => by have := (HO.out.lt k hk).1; omega)
  have hown3 : w2.ownsRow w.heap.size 5 1 (.slice (some ⟨g, 0, none⟩) (n + 10) cap) (n + 10) ((xs ++ (1 :: t :: id)).map cell) := by
    have h := ownsRow_base hown2 (show w.heap.size ≤ w.heap.size + 1 + 1 by omega)
    simpa [Nat.add_assoc] using h
  clear hown2 hgrow2
  have HF : Hid (w2.ownsRow w.heap.size 5 1 (.slice (some ⟨g, 0, none⟩) (n + 10) cap) (n + 10) ((xs ++ (1 :: t :: id)).map cell) ∧ Below w.heap.size w w2) := ⟨hown3, hbel2⟩
  clear hown3 hbel2 HB HO hnews hid'
  go_wp2
  go_ret
  exact ⟨g, cap, rfl, HF.out⟩

end Go.Proofs.Qxb6612263aMods
