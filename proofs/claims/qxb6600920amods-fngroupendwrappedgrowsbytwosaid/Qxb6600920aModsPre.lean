/- FnGroupEndDecidedByItsPrefix (3): the walk. -/
import Derived.Test.Qxb6600920aModsGrp
namespace Go.Proofs.Qxb6600920aMods
open Go.RowKit

set_option maxHeartbeats 400000 in
theorem zzBytes8_any (s t : ByteArray) (w : World) (hs : s.size ≤ maxLen) (ht : t.size ≤ maxLen) :
    Calls Trym.prog 8 #[.string s, .string t] w fun e w' => ∃ b, e = .returned (.bool b) ∧ w' = w ∧ (s.size ≤ 65536 → t.size ≤ 65536 → b = true) := by
  unfold maxLen at hs ht
  go_enter Trym.func8, Trym.ntmps8
  go_wp2
  all_goals
    go_ret
    exact ⟨_, rfl, rfl, by intros; first | rfl | omega⟩

theorem grpE_none {l : List UInt8} (h : gScan 0 0 l = none) : grpE l = -1 := by unfold grpE; rw [h]
theorem grpE_some {l : List UInt8} {k : Nat} (h : gScan 0 0 l = some k) : grpE l = (k : Int) := by unfold grpE; rw [h]

set_option maxHeartbeats 400000 in
theorem pre_long (s t : ByteArray) (w : World) (hs : s.size ≤ maxLen) (ht : t.size ≤ maxLen) (h : 65536 < s.size ∨ 65536 < t.size) :
    Calls Trym.prog 3 #[.string s, .string t] w fun e w' => e = .returned (.bool true) ∧ w' = w := by
  have hs' := hs
  have ht' := ht
  unfold maxLen at hs' ht'
  go_enter Trym.func3, Trym.ntmps3
  go_wp2_with fail
  refine (zzBytes8_any s t _ hs ht).mono ?_
  rintro e w' ⟨b, rfl, rfl, _⟩
  cases b with
  | false =>
    go_wp2
    go_ret
    exact ⟨rfl, rfl⟩
  | true =>
    by_cases h1 : 65536 < s.size
    · have i1 : (65536 : Int) < (s.size : Int) := by omega
      go_wp2_with fail
      go_ret
      exact ⟨rfl, rfl⟩
    · have i1 : ¬ (65536 : Int) < (s.size : Int) := by omega
      have i2 : (65536 : Int) < (t.size : Int) := by omega
      have d1 : decide ((65536 : Int) < (s.size : Int)) = false := by simpa using i1
      go_wp2_with fail
      go_ret
      exact ⟨rfl, rfl⟩

set_option maxHeartbeats 800000 in
theorem pre_short (s t : ByteArray) (w : World) (hs : s.size ≤ 65536) (ht : t.size ≤ 65536) :
    Calls Trym.prog 3 #[.string s, .string t] w fun e w' => e = .returned (.bool true) ∧ w' = w := by
  have hsm : s.size ≤ maxLen := by unfold maxLen; omega
  have htm : t.size ≤ maxLen := by unfold maxLen; omega
  have i1 : ¬ (65536 : Int) < (s.size : Int) := by omega
  have i2 : ¬ (65536 : Int) < (t.size : Int) := by omega
  have d1 : decide ((65536 : Int) < (s.size : Int)) = false := by simpa using i1
  have d2 : decide ((65536 : Int) < (t.size : Int)) = false := by simpa using i2
  go_enter Trym.func3, Trym.ntmps3
  go_wp2_with fail
  refine (zzBytes8_any s t _ hsm htm).mono ?_
  rintro e w' ⟨b, rfl, rfl, hb⟩
  obtain rfl := hb hs ht
  clear hb
  go_wp2_with fail
  refine (zzGroupEnd_any s _ (by omega)).mono ?_
  rintro e w' ⟨rfl, rfl⟩
  cases hg : gScan 0 0 s.data.toList with
  | none =>
    rw [grpE_none hg]
    clear hg
    go_wp2
    go_ret
    exact ⟨rfl, rfl⟩
  | some k =>
    rw [grpE_some hg]
    have hk := gScan_le _ _ _ _ hg
    have hk2 : k ≤ s.size := by have := hk.2; simpa using this
    have hk1 : 1 ≤ k := hk.1
    have G1 : Hid (grpE (s.extract 0 k).data.toList = (k : Int)) := by
      show _ = _
      rw [extract_take]
      have := gScan_prefix [] _ _ _ _ hg
      rw [List.append_nil] at this
      exact grpE_some this
    have G2 : Hid (grpE (s.extract 0 k ++ t).data.toList = (k : Int)) := by
      show _ = _
      have e : (s.extract 0 k ++ t).data.toList = s.data.toList.take k ++ t.data.toList := by
        rw [ByteArray.data_append, Array.toList_append, extract_take]
      rw [e]
      exact grpE_some (gScan_prefix _ _ _ _ _ hg)
    have z1 : (s.extract 0 k).size = k := by simp; omega
    have z2 : (s.extract 0 k ++ t).size = k + t.size := by rw [ByteArray.size_append, z1]
    clear hg hk
    have j1 : (1 : Int) ≤ (k : Int) := by omega
    have j2 : (k : Int) ≤ (s.size : Int) := by omega
    go_wp2_with fail
    refine (zzGroupEnd_any (s.extract 0 k) _ (by omega)).mono ?_
    rintro e w' ⟨rfl, rfl⟩
    rw [G1.out]
    go_wp2_with fail
    refine (zzGroupEnd_any (s.extract 0 k ++ t) _ (by omega)).mono ?_
    rintro e w' ⟨rfl, rfl⟩
    rw [G2.out]
    go_wp2
    go_ret
    exact ⟨rfl, rfl⟩

theorem pre_walk (s t : ByteArray) (hs : s.size ≤ maxLen) (ht : t.size ≤ maxLen) (w : World) :
    Calls Trym.prog 3 #[.string s, .string t] w fun e w' => e = .returned (.bool true) ∧ Grown w w' := by
  by_cases h : s.size ≤ 65536 ∧ t.size ≤ 65536
  · refine (pre_short s t w h.1 h.2).mono ?_
    rintro e w' ⟨rfl, rfl⟩
    exact ⟨rfl, Grown.refl _⟩
  · refine (pre_long s t w hs ht (by omega)).mono ?_
    rintro e w' ⟨rfl, rfl⟩
    exact ⟨rfl, Grown.refl _⟩

end Go.Proofs.Qxb6600920aMods
