/- zzQuoteClose (21), zzIsClose (22): contracts. -/
import Derived.Test.Qxb6600920aModsLen
import Derived.Test.Qxb6600920aModsPlainT
namespace Go.Proofs.Qxb6600920aMods
open Go.RowKit

set_option maxHeartbeats 400000 in
theorem isClose_any (c : UInt8) (w : World) :
    Calls Trym.prog 22 #[.int .u8 (c.toNat : Int)] w fun e w' => e = .returned (.bool (isClose c)) ∧ w' = w := by
  cases h : isClose c with
  | true =>
    rcases close_cases c h with rfl | rfl | rfl
    all_goals
      go_enter Trym.func22, Trym.ntmps22
      go_wp2
      go_ret
      exact ⟨rfl, rfl⟩
  | false =>
    have c1 := not_close c h
    have b1 : ((c.toNat : Int) == 125) = false := byte_ne c 125 (by omega) c1.1
    have b2 : ((c.toNat : Int) == 93) = false := byte_ne c 93 (by omega) c1.2.1
    have b3 : ((c.toNat : Int) == 41) = false := byte_ne c 41 (by omega) c1.2.2
    clear c1 h
    go_enter Trym.func22, Trym.ntmps22
    go_wp2
    go_ret
    exact ⟨rfl, rfl⟩

/-- The place of the quote that closes the string that opens at i. -/
def qClose (l : List UInt8) (i : Nat) : Int := match sScan false (l.drop (i + 1)) with
  | none => -1
  | some n => (i : Int) + n

def qLeft (l : List UInt8) (i j : Nat) (b : Bool) : Option Nat := (sScan b (l.drop j)).map (· + (j - (i + 1)))

theorem qLeft_step (s : ByteArray) (i j : Nat) (b b' : Bool) (hij : i + 1 ≤ j) (h : j < s.size) (hs : sScan b (s[j] :: s.data.toList.drop (j + 1)) = (sScan b' (s.data.toList.drop (j + 1))).map (· + 1)) :
    qLeft s.data.toList i j b = qLeft s.data.toList i (j + 1) b' := by
  unfold qLeft
  rw [drop_byte s j h, hs, map_add, show 1 + (j - (i + 1)) = j + 1 - (i + 1) by omega]

theorem qClose_left (l : List UInt8) (i : Nat) : qClose l i = match qLeft l i (i + 1) false with | none => -1 | some n => (i : Int) + n := by
  unfold qClose qLeft
  cases sScan false (l.drop (i + 1)) <;> simp

set_option maxHeartbeats 800000 in
theorem quoteClose_any (s : ByteArray) (i : Nat) (w : World) (hs : s.size ≤ 1048576) (hi : i < s.size) :
    Calls Trym.prog 21 #[.string s, .int .i64 (i : Int)] w fun e w' => e = .returned (.int .i64 (qClose s.data.toList i)) ∧ w' = w := by
  go_enter Trym.func21, Trym.ntmps21
  go_wp2
  go_loop [5, 6] (fun b j => ∃ (k : Nat) (B : Bool), i + 1 ≤ k ∧ k ≤ s.size ∧ j = .int .i64 k ∧ b = .bool B ∧ Hid (qLeft s.data.toList i (i + 1) false = qLeft s.data.toList i k B)) (fun _ j => s.size - (intOf j).toNat)
  case atStart => exact ⟨i + 1, false, by omega, by omega, by go_num, rfl, rfl⟩
  case round =>
    obtain ⟨k, B, hk1, hk2, rfl, rfl, HQ⟩ := hrel
    by_cases hlt : k < s.size
    · cases B with
      | true =>
        have HN : Hid (qLeft s.data.toList i (i + 1) false = qLeft s.data.toList i (k + 1) false) := HQ.out.trans (qLeft_step s i k true false hk1 hlt (by simp only [sScan]))
        clear HQ
        go_wp2
        go_round
        case rel => exact ⟨k + 1, false, by omega, by omega, by go_num, rfl, HN⟩
        case measure => simp [intOf]; omega
      | false =>
        by_cases h92 : s[k] = 92
        · have e1 : (s[k].toNat : Int) = 92 := byte_int s[k] 92 (by omega) h92
          have HN : Hid (qLeft s.data.toList i (i + 1) false = qLeft s.data.toList i (k + 1) true) := HQ.out.trans (qLeft_step s i k false true hk1 hlt (by simp only [sScan, h92, if_true]))
          clear HQ h92
          go_wp2
          go_round
          case rel => exact ⟨k + 1, true, by omega, by omega, by go_num, rfl, HN⟩
          case measure => simp [intOf]; omega
        · have e1 : ((s[k].toNat : Int) == 92) = false := byte_ne s[k] 92 (by omega) h92
          by_cases h34 : s[k] = 34
          · have e2 : (s[k].toNat : Int) = 34 := byte_int s[k] 34 (by omega) h34
            have HN : Hid (qLeft s.data.toList i (i + 1) false = some (k - i)) := by
              show _ = _
              rw [HQ.out]
              unfold qLeft
              rw [drop_byte s k hlt, h34]
              simp [sScan]
              omega
            clear HQ h92 h34 e1
            go_wp2
            go_ret
            exact ⟨ret_int (by rw [qClose_left, HN.out]; simp; omega), rfl⟩
          · have e2 : ((s[k].toNat : Int) == 34) = false := byte_ne s[k] 34 (by omega) h34
            have HN : Hid (qLeft s.data.toList i (i + 1) false = qLeft s.data.toList i (k + 1) false) := HQ.out.trans (qLeft_step s i k false false hk1 hlt (by simp only [sScan, h92, h34, if_false]))
            clear HQ h92 h34
            go_wp2
            go_round
            case rel => exact ⟨k + 1, false, by omega, by omega, by go_num, rfl, HN⟩
            case measure => simp [intOf]; omega
    · have HN : Hid (qLeft s.data.toList i (i + 1) false = none) := by
        show _ = _
        rw [HQ.out]
        unfold qLeft
        rw [List.drop_eq_nil_of_le (by simp; omega)]
        cases B <;> rfl
      clear HQ
      go_wp2
      go_ret
      exact ⟨ret_int (by rw [qClose_left, HN.out]), rfl⟩

end Go.Proofs.Qxb6600920aMods
