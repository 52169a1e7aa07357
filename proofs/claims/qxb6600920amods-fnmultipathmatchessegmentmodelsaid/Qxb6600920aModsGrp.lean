/- groupEnd (19), ZZgroupEnd (9): contracts. -/
import Derived.Test.Qxb6600920aModsStr
import Derived.Lib.Strings
namespace Go.Proofs.Qxb6600920aMods
open Go.RowKit

theorem extract_drop (s : ByteArray) (k : Nat) : (s.extract k s.size).data.toList = s.data.toList.drop k := by
  rw [Lib.extract_data, List.take_of_length_le (by simp)]

theorem extract_take (s : ByteArray) (k : Nat) : (s.extract 0 k).data.toList = s.data.toList.take k := by
  rw [Lib.extract_data, List.drop_zero, Nat.sub_zero]

def gLeft (l : List UInt8) (k : Nat) (d : Int) : Option Nat := (gScan 0 d (l.drop k)).map (· + k)

theorem gLeft_end (s : ByteArray) (k : Nat) (d : Int) (h : s.size ≤ k) : gLeft s.data.toList k d = none := by
  unfold gLeft
  rw [List.drop_eq_nil_of_le (by simpa using h)]
  rfl

theorem strE_drop (l : List UInt8) (k : Nat) : strE (l.drop k) = match sScan false (l.drop (k + 1)) with | none => -1 | some n => (n : Int) + 1 := by
  unfold strE
  rw [List.drop_drop]
  cases sScan false (l.drop (k + 1)) <;> rfl

theorem sScan_le : ∀ (l : List UInt8) (b : Bool) (n : Nat), sScan b l = some n → 1 ≤ n ∧ n ≤ l.length := by
  intro l
  induction l with
  | nil => intro b n h; simp [sScan] at h
  | cons c r ih =>
    intro b n h
    have step : ∀ b', (sScan b' r).map (· + 1) = some n → 1 ≤ n ∧ n ≤ (c :: r).length := by
      intro b' h'
      cases hg : sScan b' r with
      | none => rw [hg] at h'; simp at h'
      | some j =>
        rw [hg] at h'
        simp at h'
        have := ih b' j hg
        simp
        omega
    cases b with
    | true => exact step _ (by simpa only [sScan] using h)
    | false =>
      simp only [sScan] at h
      split at h
      · exact step _ h
      · split at h
        · simp at h
          simp
          omega
        · exact step _ h

theorem gLeft_quote_none (s : ByteArray) (k : Nat) (d : Int) (h : k < s.size) (hc : s[k] = 34) (hn : sScan false (s.data.toList.drop (k + 1)) = none) : gLeft s.data.toList k d = none := by
  unfold gLeft
  rw [drop_byte s k h, hc]
  simp only [gScan, if_true]
  rw [(gScan_str d _).1, hn]
  rfl

theorem gLeft_quote_zero (s : ByteArray) (k n : Nat) (h : k < s.size) (hc : s[k] = 34) (hn : sScan false (s.data.toList.drop (k + 1)) = some n) : gLeft s.data.toList k 0 = some (k + n + 1) := by
  unfold gLeft
  rw [drop_byte s k h, hc]
  simp only [gScan, if_true]
  rw [(gScan_str 0 _).1, hn]
  simp
  omega

theorem gLeft_quote (s : ByteArray) (k n : Nat) (d : Int) (h : k < s.size) (hc : s[k] = 34) (hd : d ≠ 0) (hn : sScan false (s.data.toList.drop (k + 1)) = some n) : gLeft s.data.toList k d = gLeft s.data.toList (k + n + 1) d := by
  unfold gLeft
  rw [drop_byte s k h, hc]
  simp only [gScan, if_true]
  rw [(gScan_str d _).1, hn]
  simp only [hd, if_false, map_add, List.drop_drop]
  rw [show k + 1 + n = k + n + 1 by omega, show n + 1 + k = k + n + 1 by omega]

theorem gLeft_open_zero (s : ByteArray) (k : Nat) (d : Int) (h : k < s.size) (hq : s[k] ≠ 34) (ho : isOpen s[k] = true) (hd : d + 1 = 0) : gLeft s.data.toList k d = some (k + 1) := by
  unfold gLeft
  rw [drop_byte s k h]
  simp only [gScan, hq, ho, hd, if_true, if_false]
  simp
  omega

theorem gLeft_open (s : ByteArray) (k : Nat) (d : Int) (h : k < s.size) (hq : s[k] ≠ 34) (ho : isOpen s[k] = true) (hd : d + 1 ≠ 0) : gLeft s.data.toList k d = gLeft s.data.toList (k + 1) (d + 1) := by
  unfold gLeft
  rw [drop_byte s k h]
  simp only [gScan, hq, ho, hd, if_true, if_false, map_add]
  rw [Nat.add_comm 1 k]

theorem gLeft_close_zero (s : ByteArray) (k : Nat) (d : Int) (h : k < s.size) (hq : s[k] ≠ 34) (ho : isOpen s[k] = false) (hc : isClose s[k] = true) (hd : d - 1 = 0) : gLeft s.data.toList k d = some (k + 1) := by
  unfold gLeft
  rw [drop_byte s k h]
  simp only [gScan, hq, ho, hc, hd, if_true, if_false, Bool.false_eq_true]
  simp
  omega

theorem gLeft_close (s : ByteArray) (k : Nat) (d : Int) (h : k < s.size) (hq : s[k] ≠ 34) (ho : isOpen s[k] = false) (hc : isClose s[k] = true) (hd : d - 1 ≠ 0) : gLeft s.data.toList k d = gLeft s.data.toList (k + 1) (d - 1) := by
  unfold gLeft
  rw [drop_byte s k h]
  simp only [gScan, hq, ho, hc, hd, if_true, if_false, Bool.false_eq_true, map_add]
  rw [Nat.add_comm 1 k]

theorem gLeft_other (s : ByteArray) (k : Nat) (d : Int) (h : k < s.size) (hq : s[k] ≠ 34) (ho : isOpen s[k] = false) (hc : isClose s[k] = false) : gLeft s.data.toList k d = gLeft s.data.toList (k + 1) d := by
  unfold gLeft
  rw [drop_byte s k h]
  simp only [gScan, hq, ho, hc, if_false, Bool.false_eq_true, map_add]
  rw [Nat.add_comm 1 k]

theorem open_cases (c : UInt8) (h : isOpen c = true) : c = 123 ∨ c = 91 ∨ c = 40 := by
  simp [isOpen] at h
  rcases h with (h | h) | h
  · exact .inl h
  · exact .inr (.inl h)
  · exact .inr (.inr h)

theorem close_cases (c : UInt8) (h : isClose c = true) : c = 125 ∨ c = 93 ∨ c = 41 := by
  simp [isClose] at h
  rcases h with (h | h) | h
  · exact .inl h
  · exact .inr (.inl h)
  · exact .inr (.inr h)

theorem byte_ne (c : UInt8) (n : Nat) (hn : n < 256) (h : c ≠ UInt8.ofNat n) : ((c.toNat : Int) == (n : Int)) = false := by
  rw [beq_eq_false_iff_ne]
  exact fun e => h ((byte_eq _ n hn).2 e)

theorem not_open (c : UInt8) (h : isOpen c = false) : c ≠ 123 ∧ c ≠ 91 ∧ c ≠ 40 := by
  simp [isOpen] at h
  exact ⟨h.1.1, h.1.2, h.2⟩

theorem not_close (c : UInt8) (h : isClose c = false) : c ≠ 125 ∧ c ≠ 93 ∧ c ≠ 41 := by
  simp [isClose] at h
  exact ⟨h.1.1, h.1.2, h.2⟩

theorem grpE_of_left (l : List UInt8) : grpE l = match gLeft l 0 0 with | none => -1 | some n => (n : Int) := by
  unfold grpE gLeft
  rw [List.drop_zero]
  cases gScan 0 0 l <;> simp

set_option maxHeartbeats 2000000 in
theorem groupEnd_any (s : ByteArray) (w : World) (hs : s.size ≤ 1048576) :
    Calls Trym.prog 19 #[.string s] w fun e w' => e = .returned (.int .i64 (grpE s.data.toList)) ∧ w' = w := by
  go_enter Trym.func19, Trym.ntmps19
  go_wp2
  go_loop [3, 4] (fun dp i => ∃ (k : Nat) (d : Int), k ≤ s.size ∧ -(k : Int) ≤ d ∧ d ≤ k ∧ i = .int .i64 k ∧ dp = .int .i64 d ∧ Hid (gLeft s.data.toList 0 0 = gLeft s.data.toList k d)) (fun _ i => s.size - (intOf i).toNat)
  case atStart => exact ⟨0, 0, by omega, by omega, by omega, rfl, rfl, rfl⟩
  case round =>
    obtain ⟨k, d, hk, hd1, hd2, rfl, rfl, HR⟩ := hrel
    by_cases hlt : k < s.size
    · by_cases h34 : s[k] = 34
      · have e1 : (s[k].toNat : Int) = 34 := by rw [h34]; rfl
        have hx : (s.extract k s.size).size ≤ 1048576 := by simp; omega
        cases hn : sScan false (s.data.toList.drop (k + 1)) with
        | none =>
          have HN : Hid (gLeft s.data.toList 0 0 = none) := HR.out.trans (gLeft_quote_none s k d hlt h34 hn)
          have HE : Hid (strE (s.extract k s.size).data.toList = -1) := by show _ = _; rw [extract_drop, strE_drop, hn]
          clear h34 HR hn
          go_wp2_with fail
          refine (stringEnd_any _ _ hx).mono ?_
          rintro e w' ⟨rfl, rfl⟩
          rw [HE.out]
          go_wp2
          go_ret
          exact ⟨ret_int (by rw [grpE_of_left, HN.out]), rfl⟩
        | some n =>
          have hnl : k + n < s.size := by
            have := (sScan_le _ _ _ hn).2
            simp at this
            omega
          have HE : Hid (strE (s.extract k s.size).data.toList = (n : Int) + 1) := by show _ = _; rw [extract_drop, strE_drop, hn]
          by_cases hd0 : d = 0
          · have HN : Hid (gLeft s.data.toList 0 0 = some (k + n + 1)) := by
              show _ = _
              rw [HR.out, hd0]
              exact gLeft_quote_zero s k n hlt h34 hn
            clear h34 HR hn
            subst hd0
            go_wp2_with fail
            refine (stringEnd_any _ _ hx).mono ?_
            rintro e w' ⟨rfl, rfl⟩
            rw [HE.out]
            go_wp2
            go_ret
            exact ⟨ret_int (by rw [grpE_of_left, HN.out]; simp), rfl⟩
          · have HN : Hid (gLeft s.data.toList 0 0 = gLeft s.data.toList (k + n + 1) d) := HR.out.trans (gLeft_quote s k n d hlt h34 hd0 hn)
            have b0 : (d == 0) = false := by simpa using hd0
            clear h34 HR hn
            go_wp2_with fail
            refine (stringEnd_any _ _ hx).mono ?_
            rintro e w' ⟨rfl, rfl⟩
            rw [HE.out]
            go_wp2
            go_round
            case rel => exact ⟨k + n + 1, d, by omega, by omega, by omega, by go_num, rfl, HN⟩
            case measure => simp [intOf]; omega
      · have b34 := byte_ne s[k] 34 (by omega) h34
        cases ho : isOpen s[k] with
        | true =>
          by_cases hd0 : d + 1 = 0
          · have HN : Hid (gLeft s.data.toList 0 0 = some (k + 1)) := HR.out.trans (gLeft_open_zero s k d hlt h34 ho hd0)
            have b0 : (d + 1 == 0) = true := by simpa using hd0
            rcases open_cases _ ho with hc | hc | hc
            all_goals
              have e1 := congrArg (fun c : UInt8 => (c.toNat : Int)) hc
              simp only [UInt8.reduceToNat] at e1
              clear hc ho h34 HR hd0 b34
              go_wp2
              go_ret
              exact ⟨ret_int (by rw [grpE_of_left, HN.out]; simp), rfl⟩
          · have HN : Hid (gLeft s.data.toList 0 0 = gLeft s.data.toList (k + 1) (d + 1)) := HR.out.trans (gLeft_open s k d hlt h34 ho hd0)
            have b0 : (d + 1 == 0) = false := by simpa using hd0
            rcases open_cases _ ho with hc | hc | hc
            all_goals
              have e1 := congrArg (fun c : UInt8 => (c.toNat : Int)) hc
              simp only [UInt8.reduceToNat] at e1
              clear hc ho h34 HR hd0 b34
              go_wp2
              go_round
              case rel => exact ⟨k + 1, d + 1, by omega, by omega, by omega, by go_num, rfl, HN⟩
              case measure => simp [intOf]; omega
        | false =>
          have c1 := not_open _ ho
          cases hcl : isClose s[k] with
          | true =>
            by_cases hd0 : d - 1 = 0
            · have HN : Hid (gLeft s.data.toList 0 0 = some (k + 1)) := HR.out.trans (gLeft_close_zero s k d hlt h34 ho hcl hd0)
              have b0 : (d - 1 == 0) = true := by simpa using hd0
              rcases close_cases _ hcl with hc | hc | hc
              all_goals
                have e1 := congrArg (fun c : UInt8 => (c.toNat : Int)) hc
                simp only [UInt8.reduceToNat] at e1
                clear hc ho h34 HR hd0 b34 c1 hcl
                go_wp2
                go_ret
                exact ⟨ret_int (by rw [grpE_of_left, HN.out]; simp), rfl⟩
            · have HN : Hid (gLeft s.data.toList 0 0 = gLeft s.data.toList (k + 1) (d - 1)) := HR.out.trans (gLeft_close s k d hlt h34 ho hcl hd0)
              have b0 : (d - 1 == 0) = false := by simpa using hd0
              rcases close_cases _ hcl with hc | hc | hc
              all_goals
                have e1 := congrArg (fun c : UInt8 => (c.toNat : Int)) hc
                simp only [UInt8.reduceToNat] at e1
                clear hc ho h34 HR hd0 b34 c1 hcl
                go_wp2
                go_round
                case rel => exact ⟨k + 1, d - 1, by omega, by omega, by omega, by go_num, rfl, HN⟩
                case measure => simp [intOf]; omega
          | false =>
            have c2 := not_close _ hcl
            have HN : Hid (gLeft s.data.toList 0 0 = gLeft s.data.toList (k + 1) d) := HR.out.trans (gLeft_other s k d hlt h34 ho hcl)
            have b1 := byte_ne s[k] 123 (by omega) c1.1
            have b2 := byte_ne s[k] 91 (by omega) c1.2.1
            have b3 := byte_ne s[k] 40 (by omega) c1.2.2
            have b4 := byte_ne s[k] 125 (by omega) c2.1
            have b5 := byte_ne s[k] 93 (by omega) c2.2.1
            have b6 := byte_ne s[k] 41 (by omega) c2.2.2
            clear ho h34 HR c1 c2 hcl
            go_wp2
            go_round
            case rel => exact ⟨k + 1, d, by omega, by omega, by omega, by go_num, rfl, HN⟩
            case measure => simp [intOf]; omega
    · have HN : Hid (gLeft s.data.toList 0 0 = none) := HR.out.trans (gLeft_end s k d (by omega))
      clear HR
      go_wp2
      go_ret
      exact ⟨ret_int (by rw [grpE_of_left, HN.out]), rfl⟩

set_option maxHeartbeats 400000 in
theorem zzGroupEnd_any (s : ByteArray) (w : World) (hs : s.size ≤ 1048576) :
    Calls Trym.prog 9 #[.string s] w fun e w' => e = .returned (.int .i64 (grpE s.data.toList)) ∧ w' = w := by
  go_enter Trym.func9, Trym.ntmps9
  go_wp2_with fail
  refine (groupEnd_any s w hs).mono ?_
  rintro e w' ⟨rfl, rfl⟩
  go_wp2
  go_ret
  exact ⟨rfl, rfl⟩

end Go.Proofs.Qxb6600920aMods
