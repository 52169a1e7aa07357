/- FnMultipathMatchesSegmentModel (5): the walk. -/
import Derived.Test.Qxb6600920aModsMdl
import Derived.Deep.QuietTactic
import Derived.BigQuiet
namespace Go.Proofs.Qxb6600920aMods
open Go.RowKit

set_option maxHeartbeats 400000 in
theorem zzBytes11_any (s : ByteArray) (w : World) (hs : s.size ≤ maxLen) :
    Calls Trym.prog 11 #[.string s] w fun e w' => ∃ b, e = .returned (.bool b) ∧ w' = w ∧ (s.size ≤ 65536 → b = true) := by
  unfold maxLen at hs
  go_enter Trym.func11, Trym.ntmps11
  go_wp2
  all_goals
    go_ret
    exact ⟨_, rfl, rfl, by intros; first | rfl | omega⟩

set_option maxHeartbeats 400000 in
theorem seg_long (s : ByteArray) (w : World) (hs : s.size ≤ maxLen) (h : 65536 < s.size) :
    Calls Trym.prog 5 #[.string s] w fun e w' => e = .returned (.bool true) ∧ Below w.heap.size w w' := by
  have hs' := hs
  unfold maxLen at hs'
  go_enter Trym.func5, Trym.ntmps5
  go_wp2_with fail
  refine (zzBytes11_any s _ hs).mono ?_
  rintro e w' ⟨b, rfl, rfl, _⟩
  cases b with
  | false =>
    go_wp2
    go_ret
    exact ⟨rfl, Below.refl _ _⟩
  | true =>
    have i1 : (65536 : Int) < (s.size : Int) := by omega
    go_wp2_with fail
    go_ret
    exact ⟨rfl, Below.refl _ _⟩

set_option maxRecDepth 100000 in
set_option maxHeartbeats 2000000 in
theorem seg_none (s : ByteArray) (w : World) (h : s.size ≤ 65536) (hm : mPath s.data.toList = none) :
    Calls Trym.prog 5 #[.string s] w fun e w' => e = .returned (.bool true) ∧ Below w.heap.size w w' := by
  have hs : s.size ≤ maxLen := by unfold maxLen; omega
  have d1 : decide ((65536 : Int) < (s.size : Int)) = false := by simp; omega
  have HM : Hid (mPath s.data.toList = none) := hm
  clear hm
  have hq := fun w => Lib.run_eql_slice_nil (P := Trym.prog) w 26 9 none 0 0 0 0 Trym.underlying26
  go_enter Trym.func5, Trym.ntmps5
  go_wp2_with fail
  refine (zzBytes11_any s _ hs).mono ?_
  rintro e w1 ⟨b, rfl, hw, hb⟩
  have hw2 := hw.symm
  subst hw2
  obtain rfl := hb h
  clear hb hw
  go_wp2_with fail
  refine (zzMultipath_none s _ (by omega) HM.out).mono ?_
  rintro e w1 ⟨rfl, hb1⟩
  have HB1 : Hid (Below w.heap.size w w1) := hb1
  clear hb1
  go_wp2_with fail
  refine (model_any s _ h).mono ?_
  rintro e w2 ⟨hb2, hn, _⟩
  obtain rfl := hn HM.out
  have HB2 : Hid (Below w.heap.size w w2) := HB1.out.trans (hb2.mono HB1.out.size)
  clear hb2 hn
  go_wp2
  go_loopw [7] (fun i wr => ∃ k : Nat, i = .int .i64 k ∧ wr = w2) (fun _ _ => 0)
  case atStart => exact ⟨0, rfl, rfl⟩
  case round =>
    obtain ⟨k, rfl, rfl⟩ := hrel
    have hk : ¬ ((k : Int) < 0) := by omega
    go_wp2
    go_ret
    exact ⟨rfl, HB2.out⟩

set_option maxRecDepth 100000 in
set_option maxHeartbeats 2000000 in
theorem seg_some (s : ByteArray) (w : World) (h : s.size ≤ 65536) (acc : List (Nat × Nat)) (n : Nat) (hm : mPath s.data.toList = some (acc, n)) :
    Calls Trym.prog 5 #[.string s] w fun e w' => e = .returned (.bool true) ∧ Below w.heap.size w w' := by
  have hs : s.size ≤ maxLen := by unfold maxLen; omega
  have d1 : decide ((65536 : Int) < (s.size : Int)) = false := by simp; omega
  have HM : Hid (mPath s.data.toList = some (acc, n)) := hm
  clear hm
  have hq := fun w x l c => Lib.run_eql_slice_nil (P := Trym.prog) w 26 9 (some x) l c 0 0 Trym.underlying26
  go_enter Trym.func5, Trym.ntmps5
  go_wp2_with fail
  refine (zzBytes11_any s _ hs).mono ?_
  rintro e w1 ⟨b, rfl, hw, hb⟩
  have hw2 := hw.symm
  subst hw2
  obtain rfl := hb h
  clear hb hw
  go_wp2_with fail
  refine (zzMultipath_some s _ (by omega) acc n HM.out).mono ?_
  rintro e w1 ⟨g1, c1, rfl, hg1, o1, hb1⟩
  have HB1 : Hid (Below w.heap.size w w1) := hb1
  have O1 : Hid (w1.ownsRow w.heap.size 9 1 (.slice (some ⟨g1, 0, none⟩) acc.length c1) acc.length (elems s acc)) := o1
  have G1 : Hid (g1 < w1.heap.size) := hg1
  clear hb1 o1 hg1
  go_wp2_with fail
  refine (model_any s _ h).mono ?_
  rintro e w2 ⟨hb2, _, hn⟩
  obtain ⟨g2, c2, rfl, hg2, o2⟩ := hn acc n HM.out
  have HB2 : Hid (Below w.heap.size w w2) := HB1.out.trans (hb2.mono HB1.out.size)
  obtain ⟨l, hl⟩ : ∃ l, l = acc.length := ⟨_, rfl⟩
  have C1 : Hid (∀ j, j < l → w2.cell? ⟨g1, j, none⟩ = (elems s acc)[j]?) := fun j hj => by
    rw [hb2.cell (p := ⟨g1, j, none⟩) G1.out]
    exact O1.out.cellAt j (by omega)
  have C2 : Hid (∀ j, j < l → w2.cell? ⟨g2, j, none⟩ = (elems s acc)[j]?) := fun j hj => o2.cellAt j (by omega)
  have CE : Hid (∀ j, j < l → ∃ y, (elems s acc)[j]? = some (.string y)) := fun j hj => by
    rw [elems, List.getElem?_map, List.getElem?_eq_getElem (by omega)]
    exact ⟨_, rfl⟩
  have hlb : l ≤ maxLen := by
    rcases o2.2 with ⟨_, h0⟩ | ⟨_, _, _, _, _, _, a1, a2, _⟩
    · rw [hl, h0]; exact Nat.zero_le _
    · omega
  unfold maxLen at hlb
  rw [← hl]
  clear hb2 hn hg2 o2 O1 G1 HM
  clear hl
  go_wp2
  go_loopw [7] (fun i wr => ∃ k : Nat, k ≤ l ∧ i = .int .i64 k ∧ ∃ m, wr = w2.drewN m) (fun i _ => l - (intOf i).toNat)
  case atStart => exact ⟨0, by omega, rfl, 0, rfl⟩
  case round =>
    obtain ⟨k', hk', rfl, m, rfl⟩ := hrel
    by_cases hkt : k' < l
    · have f1 := C1.out k' hkt
      have f2 := C2.out k' hkt
      obtain ⟨y, hy⟩ := CE.out k' hkt
      rw [hy] at f1 f2
      clear hy
      have i1 : (k' : Int) < (l : Int) := by omega
      have i2 : (0 : Int) ≤ (k' : Int) := by omega
      go_wp2
      go_quiet (fail)
      go_wp2
      go_roundw
      case rel => exact ⟨k' + 1, by omega, by go_num, _, rfl⟩
      case measure => simp [intOf]; omega
    · go_wp2
      go_ret
      exact ⟨rfl, below_drewN HB2.out _⟩

theorem seg_walk (s : ByteArray) (hs : s.size ≤ maxLen) (w : World) :
    Calls Trym.prog 5 #[.string s] w fun e w' => e = .returned (.bool true) ∧ Below w.heap.size w w' := by
  by_cases h : s.size ≤ 65536
  · cases hm : mPath s.data.toList with
    | none => exact seg_none s w h hm
    | some p => exact seg_some s w h p.1 p.2 hm
  · exact seg_long s w hs (by omega)

end Go.Proofs.Qxb6600920aMods
