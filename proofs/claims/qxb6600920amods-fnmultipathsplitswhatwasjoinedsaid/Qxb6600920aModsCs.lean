/- zzCloneStrings (16): its contract. -/
import Derived.Test.Qxb6600920aModsJc
namespace Go.Proofs.Qxb6600920aMods
open Go.RowKit

theorem row_of_own {w : World} {base g n : Nat} {e : TypeId} {xs : List Value} (h : w.ownsRow base e 1 (.slice (some ⟨g, 0, none⟩) n n) n xs) : w.heap[g]? = some (.cells xs.toArray e (0, 0)) := by
  obtain ⟨_, h | ⟨g', cap, cur, e1, _, e3, _, _, e6, e7⟩⟩ := h
  · simp at h
  · simp at e1
    obtain ⟨rfl, rfl⟩ := e1
    rw [e3]
    rw [← e7, List.take_of_length_le (by simp [e6])]

/-- The new row after k rounds. -/
def CRow (N len k : Nat) (ss : List ByteArray) (wr : World) : Prop :=
  ∃ arr : Array Value, wr.heap[N]? = some (.cells arr 9 (0, 0)) ∧ arr.size = len ∧ ∀ j, j < k → arr[j]? = some (.string (ss.getD j ByteArray.empty))

theorem CRow.next {N len k : Nat} {ss : List ByteArray} {wr : World} (h : CRow N len k ss wr) (hk : k < len) : CRow N len (k + 1) ss (wr.setCell ⟨N, k, none⟩ (.string (ss.getD k ByteArray.empty))) := by
  obtain ⟨arr, h1, h2, h3⟩ := h
  refine ⟨arr.setIfInBounds k _, heap_setCell_same wr N k arr 9 _ h1, by simpa using h2, fun j hj => ?_⟩
  by_cases e : j = k
  · subst e
    simp [h2, hk]
  · rw [Array.getElem?_setIfInBounds_ne (fun h => e h.symm)]
    exact h3 j (by omega)

theorem CRow.cell {N len k : Nat} {ss : List ByteArray} {wr : World} (h : CRow N len k ss wr) (hk : k < len) : (∃ v, wr.cell? ⟨N, k, none⟩ = some v) ∧ wr.frozen? ⟨N, k, none⟩ = false := by
  obtain ⟨arr, h1, h2, _⟩ := h
  refine ⟨⟨arr[k]'(by omega), ?_⟩, frozen_of_row _ _ _ _ _ h1⟩
  rw [cell_of_row _ _ _ _ _ _ h1]
  simp [h2, hk]

theorem CRow.strs {N len : Nat} {ss : List ByteArray} {wr : World} (h : CRow N len len ss wr) : ∀ j, j < len → wr.cell? ⟨N, 0 + j, none⟩ = some (.string (ss.getD j ByteArray.empty)) := fun j hj => by
  obtain ⟨arr, h1, _, h3⟩ := h
  rw [Nat.zero_add, cell_of_row _ _ _ _ _ _ h1]
  exact h3 j hj

set_option maxHeartbeats 400000 in
theorem cloneStrs_nil (w : World) :
    Calls Trym.prog 16 #[.slice none 0 0] w fun e w' => e = .returned (.slice none 0 0) ∧ w' = w := by
  have hq := fun w => Lib.run_eql_slice_nil (P := Trym.prog) w 26 9 none 0 0 0 0 Trym.underlying26
  go_enter Trym.func16, Trym.ntmps16
  go_wp2
  go_ret
  exact ⟨rfl, rfl⟩

set_option maxHeartbeats 800000 in
theorem cloneStrs_some (x : Addr) (len cap : Nat) (ss : List ByteArray) (w : World) (h : IsStrs w (some x) len cap ss) (hn : len ≤ 4096) :
    Calls Trym.prog 16 #[.slice (some x) len cap] w fun e w' => ∃ a', e = .returned (.slice a' len len) ∧ IsStrs w' a' len len ss ∧ Below w.heap.size w w' := by
  have hq := fun w => Lib.run_eql_slice_nil (P := Trym.prog) w 26 9 (some x) len cap 0 0 Trym.underlying26
  obtain ⟨i0, hi, hz0, hz1, hz2⟩ := info_parts info9
  have hb : i0.bytes * len ≤ 281474976710656 := by rw [hz2]; omega
  have HI : Hid (IsStrs w (some x) len cap ss) := h
  clear h
  go_enter Trym.func16, Trym.ntmps16
  go_wp2_with (at_make; refine wpList_make_full _ rfl _ _ 26 rfl w.heap.size 9 i0 (.string ByteArray.empty) 1 Trym.underlying26 hi hz0 hz1 _ _ _ _ len rfl rfl rfl rfl hb (by unfold maxLen; omega) (Nat.le_refl _) ?_)
  intro w1 hown hgrow
  have hrow := row_of_own hown
  have HB1 : Hid (Below w.heap.size w w1) := (Below.refl _ _).grown hgrow (Nat.le_refl _) (by simp)
  have HC1 : Hid (CRow w.heap.size len 0 ss w1) := ⟨_, hrow, by simp [madeCells], fun j hj => by omega⟩
  clear hrow hown hgrow
  go_wp2
  go_loopw [4] (fun i wr => ∃ k : Nat, k ≤ len ∧ i = .int .i64 k ∧ Hid (CRow w.heap.size len k ss wr) ∧ Hid (Below w.heap.size w wr)) (fun i _ => len - (intOf i).toNat)
  case atStart => exact ⟨0, by omega, rfl, HC1, HB1⟩
  case round =>
    obtain ⟨k, hk, rfl, HC, HB⟩ := hrel
    by_cases hlt : k < len
    · obtain ⟨b, off, ex, hc⟩ := HI.out.2.2.2.2.2 (by omega)
      obtain ⟨v, hv⟩ := HC.out.cell hlt
      have f0 := hc k hlt
      have f1 : wr.cell? ⟨b, off + k, none⟩ = some (.string (ss.getD k ByteArray.empty)) := by
        rw [← f0]
        exact HB.out.cell (block_lt_of_cell f0)
      obtain ⟨u, hu⟩ := v
      have HN : Hid (CRow w.heap.size len (k + 1) ss (wr.setCell ⟨w.heap.size, k, none⟩ (.string (ss.getD k ByteArray.empty)))) := HC.out.next hlt
      have HB2 : ∀ u, Hid (Below w.heap.size w (wr.setCell ⟨w.heap.size, k, none⟩ u)) := fun u => HB.out.setCell (Nat.le_refl _) u
      simp only [Option.some.injEq] at ex
      subst ex
      obtain ⟨y, hy⟩ : ∃ y, y = ss.getD k ByteArray.empty := ⟨_, rfl⟩
      rw [← hy] at f1 HN
      have i1 : (k : Int) < (len : Int) := by omega
      clear hc f0 hy HC
      go_wp2
      go_roundw
      case rel => exact ⟨k + 1, by omega, by go_num, HN, HB2 _⟩
      case measure => simp [intOf]; omega
    · have e : k = len := by omega
      subst e
      have HF : Hid (IsStrs wr (some ⟨w.heap.size, 0, none⟩) k k ss ∧ Below w.heap.size w wr) :=
        ⟨⟨HI.out.1, Nat.le_refl _, by unfold maxLen; omega, HI.out.2.2.2.1, (by simp), fun _ => ⟨_, _, rfl, HC.out.strs⟩⟩, HB.out⟩
      clear HC HB
      go_wp2
      go_ret
      exact ⟨_, rfl, HF.out⟩

theorem cloneStrs_any (a : Option Addr) (len cap : Nat) (ss : List ByteArray) (w : World) (h : IsStrs w a len cap ss) (hn : len ≤ 4096) :
    Calls Trym.prog 16 #[.slice a len cap] w fun e w' => ∃ a', e = .returned (.slice a' len len) ∧ IsStrs w' a' len len ss ∧ Below w.heap.size w w' := by
  cases a with
  | none =>
    obtain ⟨rfl, rfl⟩ := h.2.2.2.2.1 rfl
    refine (cloneStrs_nil w).mono ?_
    rintro e w' ⟨rfl, rfl⟩
    exact ⟨none, rfl, h, Below.refl _ _⟩
  | some x => exact cloneStrs_some x len cap ss w h hn

end Go.Proofs.Qxb6600920aMods
