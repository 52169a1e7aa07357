/- FnMultipathLengthAgreesWithGroupEnd (7): the plain law and the walk. -/
import Derived.Test.Qxb6600920aModsJc
namespace Go.Proofs.Qxb6600920aMods
open Go.RowKit

theorem mStep_d (L : List UInt8) (S : MSt) (i : Nat) (c : UInt8) : (mStep L S i c).d = if isOpen c = true then S.d + 1 else if isClose c = true then S.d - 1 else S.d := by
  unfold mStep
  by_cases c1 : c = 64
  · subst c1; simp [isOpen, isClose]
  · by_cases c2 : c = 58
    · subst c2
      simp only [isOpen, isClose]
      simp
      split <;> rfl
    · by_cases c3 : c = 44
      · subst c3
        simp only [isOpen, isClose]
        simp
        split <;> rfl
      · simp only [c1, c2, c3, if_false]
        split
        · rfl
        · split <;> rfl

theorem agree (L : List UInt8) : ∀ (l : List UInt8), (∀ c ∈ l, c ≠ 92) → ∀ (S : MSt) (i : Nat), 1 ≤ S.d →
    (mScan L 0 S i l).map (·.2) = (gScan 0 S.d l).map (· + i) ∧ (mScan L 1 S i l).map (·.2) = (gScan 1 S.d l).map (· + i) := by
  intro l
  induction l with
  | nil => intro _ S i _; simp [mScan, gScan]
  | cons c r ih =>
    intro h S i hd
    have h92 : c ≠ 92 := h c (by simp)
    have hr : ∀ c ∈ r, c ≠ 92 := fun c hc => h c (by simp [hc])
    constructor
    · by_cases c34 : c = 34
      · subst c34
        rw [mScan, if_neg (by simp [isClose])]
        simp only [nxt, if_true, mStep_esc L S i 34 (.inr rfl), gScan]
        rw [if_neg (by decide), (ih hr S (i + 1) hd).2, map_add, Nat.add_comm 1 i]
      · have hn : nxt 0 c = 0 := by simp [nxt, h92, c34]
        cases ho : isOpen c with
        | true =>
          have hcl := (open_ne c ho).2.2.2.2.2
          rw [mScan, if_neg (by simp [hcl]), hn]
          have e : (mStep L S i c).d = S.d + 1 := by rw [mStep_d]; simp [ho]
          simp only [if_true, gScan, c34, ho, if_false]
          rw [if_neg (by omega), (ih hr _ (i + 1) (by rw [e]; omega)).1, e, map_add, Nat.add_comm 1 i]
        | false =>
          cases hcl : isClose c with
          | true =>
            by_cases hd1 : S.d = 1
            · rw [mScan, if_pos ⟨rfl, hcl, hd1⟩]
              simp only [gScan, c34, ho, hcl, hd1, if_false, if_true, Bool.false_eq_true]
              simp
              omega
            · have e : (mStep L S i c).d = S.d - 1 := by rw [mStep_d]; simp [ho, hcl]
              rw [mScan, if_neg (by simp [hd1]), hn]
              simp only [if_true, gScan, c34, ho, hcl, if_false, Bool.false_eq_true]
              rw [if_neg (by omega), (ih hr _ (i + 1) (by rw [e]; omega)).1, e, map_add, Nat.add_comm 1 i]
          | false =>
            have e : (mStep L S i c).d = S.d := by rw [mStep_d]; simp [ho, hcl]
            rw [mScan, if_neg (by simp [hcl]), hn]
            simp only [if_true, gScan, c34, ho, hcl, if_false, Bool.false_eq_true]
            rw [(ih hr _ (i + 1) (by rw [e]; omega)).1, e, map_add, Nat.add_comm 1 i]
    · by_cases c34 : c = 34
      · subst c34
        have e1 : mScan L 1 S i (34 :: r) = mScan L 0 S (i + 1) r := by
          rw [mScan, if_neg (by omega), if_neg (by omega)]
          rfl
        have e2 : gScan 1 S.d (34 :: r) = (gScan 0 S.d r).map (· + 1) := by
          rw [gScan, if_neg (by decide), if_pos rfl, if_neg (by omega)]
        rw [e1, e2, (ih hr S (i + 1) hd).1, map_add, Nat.add_comm 1 i]
      · rw [mScan, if_neg (by omega)]
        simp only [nxt, gScan, h92, c34, if_false]
        rw [if_neg (by omega), (ih hr S (i + 1) hd).2, map_add, Nat.add_comm 1 i]

/-- THE FOURTH LAW's HEART. -/
theorem length_agrees (c : UInt8) (r : List UInt8) (hc : isOpen c = true) (h : ∀ x ∈ c :: r, x ≠ 92) : (mPath (c :: r)).map (·.2) = gScan 0 0 (c :: r) := by
  obtain ⟨h1, h2, h3, h4, h5, h6⟩ := open_ne c hc
  have e : (mStep (c :: r) mInit 0 c).d = 1 := by rw [mStep_d]; simp [hc, mInit]
  have hg : gScan 0 0 (c :: r) = (gScan 0 1 r).map (· + 1) := by
    rw [gScan]
    simp only [h2, hc, if_true, if_false]
    rw [if_neg (by omega)]
    rfl
  unfold mPath
  rw [hg, mScan, if_neg (by simp [h6])]
  simp only [nxt, h1, h2, if_false, if_true]
  have := (agree (c :: r) r (fun x hx => h x (by simp [hx])) (mStep (c :: r) mInit 0 c) (0 + 1) (by rw [e]; omega)).1
  rw [e] at this
  simpa using this

set_option maxHeartbeats 400000 in
theorem isOpen_any (c : UInt8) (w : World) :
    Calls Trym.prog 18 #[.int .u8 (c.toNat : Int)] w fun e w' => e = .returned (.bool (isOpen c)) ∧ w' = w := by
  cases h : isOpen c with
  | true =>
    rcases open_cases c h with rfl | rfl | rfl
    all_goals
      go_enter Trym.func18, Trym.ntmps18
      go_wp2
      go_ret
      exact ⟨rfl, rfl⟩
  | false =>
    have c1 := not_open c h
    have b1 : ((c.toNat : Int) == 123) = false := byte_ne c 123 (by omega) c1.1
    have b2 : ((c.toNat : Int) == 91) = false := byte_ne c 91 (by omega) c1.2.1
    have b3 : ((c.toNat : Int) == 40) = false := byte_ne c 40 (by omega) c1.2.2
    clear c1 h
    go_enter Trym.func18, Trym.ntmps18
    go_wp2
    go_ret
    exact ⟨rfl, rfl⟩

set_option maxHeartbeats 400000 in
theorem zzBytes17_any (s : ByteArray) (w : World) (hs : s.size ≤ maxLen) :
    Calls Trym.prog 17 #[.string s] w fun e w' => ∃ b, e = .returned (.bool b) ∧ w' = w ∧ (s.size ≤ 65536 → b = true) := by
  unfold maxLen at hs
  go_enter Trym.func17, Trym.ntmps17
  go_wp2
  all_goals
    go_ret
    exact ⟨_, rfl, rfl, by intros; first | rfl | omega⟩

set_option maxHeartbeats 400000 in
theorem len_long (s : ByteArray) (w : World) (hs : s.size ≤ maxLen) (h : 65536 < s.size) :
    Calls Trym.prog 7 #[.string s] w fun e w' => e = .returned (.bool true) ∧ Below w.heap.size w w' := by
  have hs' := hs
  unfold maxLen at hs'
  go_enter Trym.func7, Trym.ntmps7
  go_wp2_with fail
  refine (zzBytes17_any s _ hs).mono ?_
  rintro e w' ⟨b, rfl, rfl, _⟩
  cases b with
  | false =>
    go_wp2
    go_ret
    exact ⟨rfl, Below.refl _ _⟩
  | true =>
    have i1 : (65536 : Int) < (s.size : Int) := by omega
    go_wp2_with fail
    go_ret
    exact ⟨rfl, Below.refl _ _⟩

set_option maxHeartbeats 400000 in
theorem len_empty (s : ByteArray) (w : World) (h : s.size = 0) :
    Calls Trym.prog 7 #[.string s] w fun e w' => e = .returned (.bool true) ∧ Below w.heap.size w w' := by
  have hs : s.size ≤ maxLen := by unfold maxLen; omega
  go_enter Trym.func7, Trym.ntmps7
  go_wp2_with fail
  refine (zzBytes17_any s _ hs).mono ?_
  rintro e w' ⟨b, rfl, rfl, hb⟩
  obtain rfl := hb (by omega)
  clear hb
  go_wp2_with fail
  go_ret
  exact ⟨rfl, Below.refl _ _⟩

set_option maxHeartbeats 2000000 in
theorem len_short (s : ByteArray) (w : World) (h0 : 0 < s.size) (h : s.size ≤ 65536) :
    Calls Trym.prog 7 #[.string s] w fun e w' => e = .returned (.bool true) ∧ Below w.heap.size w w' := by
  have hs : s.size ≤ maxLen := by unfold maxLen; omega
  have d1 : decide ((65536 : Int) < (s.size : Int)) = false := by simp; omega
  have z : ((s.size : Int) == 0) = false := by rw [beq_eq_false_iff_ne]; omega
  go_enter Trym.func7, Trym.ntmps7
  go_wp2_with fail
  refine (zzBytes17_any s _ hs).mono ?_
  rintro e w1 ⟨b, rfl, hw, hb⟩
  have hw2 := hw.symm
  subst hw2
  obtain rfl := hb h
  clear hb hw
  go_wp2_with fail
  refine (isOpen_any s[0] _).mono ?_
  rintro e w1 ⟨rfl, hw⟩
  have hw2 := hw.symm
  subst hw2
  clear hw
  cases ho : isOpen s[0] with
  | false =>
    clear ho
    go_wp2
    go_ret
    exact ⟨rfl, Below.refl _ _⟩
  | true =>
    have HO : Hid (isOpen s[0] = true) := ho
    clear ho
    go_wp2
    go_loop [3] (fun i => ∃ k : Nat, k ≤ s.size ∧ i = .int .i64 k ∧ Hid (∀ c ∈ s.data.toList.take k, c ≠ 92)) (fun i => s.size - (intOf i).toNat)
    case atStart => exact ⟨0, by omega, rfl, fun c hc => by simp at hc⟩
    case round =>
      obtain ⟨k, hk, rfl, HN⟩ := hrel
      by_cases hlt : k < s.size
      · by_cases h92 : s[k] = 92
        · have e1 : (s[k].toNat : Int) = 92 := byte_int s[k] 92 (by omega) h92
          clear h92 HN
          go_wp2
          go_ret
          exact ⟨rfl, Below.refl _ _⟩
        · have e1 : ((s[k].toNat : Int) == 92) = false := byte_ne s[k] 92 (by omega) h92
          have HN2 : Hid (∀ c ∈ s.data.toList.take (k + 1), c ≠ 92) := fun c hc => by
            rw [List.take_succ_eq_append_getElem (by simpa using hlt)] at hc
            rcases List.mem_append.1 hc with h1 | h1
            · exact HN.out c h1
            · simp at h1
              rw [h1]
              exact h92
          clear h92 HN
          go_wp2
          go_round
          case rel => exact ⟨k + 1, by omega, by go_num, HN2⟩
          case measure => simp [intOf]; omega
      · have hall : ∀ c ∈ s.data.toList, c ≠ 92 := fun c hc => HN.out c (by rw [List.take_of_length_le (by simp; omega)]; exact hc)
        have hd := drop_byte s 0 h0
        rw [List.drop_zero] at hd
        have hag : (mPath s.data.toList).map (·.2) = gScan 0 0 s.data.toList := by
          rw [hd]
          rw [hd] at hall
          exact length_agrees _ _ HO.out hall
        clear HN hall hd
        cases hm : mPath s.data.toList with
        | none =>
          have HG : Hid (grpE s.data.toList = -1) := by
            show _ = _
            unfold grpE
            rw [← hag, hm]
            rfl
          have HM : Hid (mPath s.data.toList = none) := hm
          clear hag hm
          go_wp2_with fail
          refine (zzMultipath_none s _ (by omega) HM.out).mono ?_
          rintro e w1 ⟨rfl, hb⟩
          have HB : Hid (Below w.heap.size w w1) := hb
          clear hb
          go_wp2_with fail
          refine (zzGroupEnd_any s _ (by omega)).mono ?_
          rintro e w2 ⟨rfl, rfl⟩
          rw [HG.out]
          go_wp2
          go_ret
          exact ⟨rfl, HB.out⟩
        | some pr =>
          obtain ⟨acc, n⟩ := pr
          have HG : Hid (grpE s.data.toList = (n : Int)) := by
            show _ = _
            unfold grpE
            rw [← hag, hm]
            rfl
          have HM : Hid (mPath s.data.toList = some (acc, n)) := hm
          clear hag hm
          go_wp2_with fail
          refine (zzMultipath_some s _ (by omega) acc n HM.out).mono ?_
          rintro e w1 ⟨g, cap, rfl, _, _, hb⟩
          have HB : Hid (Below w.heap.size w w1) := hb
          clear hb
          go_wp2_with fail
          refine (zzGroupEnd_any s _ (by omega)).mono ?_
          rintro e w2 ⟨rfl, rfl⟩
          rw [HG.out]
          go_wp2
          go_ret
          exact ⟨rfl, HB.out⟩

theorem len_walk (s : ByteArray) (hs : s.size ≤ maxLen) (w : World) :
    Calls Trym.prog 7 #[.string s] w fun e w' => e = .returned (.bool true) ∧ Below w.heap.size w w' := by
  by_cases h : s.size ≤ 65536
  · by_cases h0 : s.size = 0
    · exact len_empty s w h0
    · exact len_short s w (by omega) h
  · exact len_long s w hs (by omega)

end Go.Proofs.Qxb6600920aMods
