/- stringEnd (23): its contract. -/
import Derived.Test.Qxb6600920aModsRows
import Derived.WalkKit
import Derived.WalkSpells
import Derived.WalkLawsBesides
import Derived.Test.Qxb6600920aModsPlain
namespace Go.Proofs.Qxb6600920aMods
open Go.RowKit

theorem ret_int {k : IntKind} {a b : Int} (h : a = b) : Ending.returned (.int k a) = .returned (.int k b) := by rw [h]

/-- A byte of a string, as the walk reads it. -/
theorem drop_byte (s : ByteArray) (k : Nat) (h : k < s.size) : s.data.toList.drop k = s[k] :: s.data.toList.drop (k + 1) := by
  rw [List.drop_eq_getElem_cons (by simpa using h)]
  rfl

theorem byte_eq (c : UInt8) (n : Nat) (hn : n < 256) : (c = UInt8.ofNat n) ↔ ((c.toNat : Int) = (n : Int)) := by
  rw [← UInt8.toNat_inj, UInt8.toNat_ofNat']
  rw [Nat.mod_eq_of_lt (by omega)]
  omega

/-- What is left to be found from place k on. -/
def sLeft (l : List UInt8) (k : Nat) : Option Nat := (sScan false (l.drop k)).map (· + (k - 1))

theorem sLeft_step92 (s : ByteArray) (k : Nat) (h1 : 1 ≤ k) (h : k < s.size) (hc : s[k] = 92) : sLeft s.data.toList k = sLeft s.data.toList (k + 2) := by
  unfold sLeft
  rw [drop_byte s k h, hc]
  simp only [sScan, if_true]
  by_cases h2 : k + 1 < s.size
  · rw [drop_byte s (k + 1) h2]
    simp only [sScan, map_add]
    rw [show 1 + 1 + (k - 1) = k + 1 + 1 - 1 by omega]
  · rw [List.drop_eq_nil_of_le (by simp; omega), List.drop_eq_nil_of_le (by simp; omega)]
    simp [sScan]

theorem sLeft_step (s : ByteArray) (k : Nat) (h1 : 1 ≤ k) (h : k < s.size) (hc : s[k] ≠ 92) (hq : s[k] ≠ 34) : sLeft s.data.toList k = sLeft s.data.toList (k + 1) := by
  unfold sLeft
  rw [drop_byte s k h]
  simp only [sScan, hc, hq, if_false, map_add]
  rw [show 1 + (k - 1) = k + 1 - 1 by omega]

theorem sLeft_quote (s : ByteArray) (k : Nat) (h1 : 1 ≤ k) (h : k < s.size) (hq : s[k] = 34) : sLeft s.data.toList k = some k := by
  unfold sLeft
  rw [drop_byte s k h, hq]
  simp [sScan]
  omega

theorem sLeft_end (s : ByteArray) (k : Nat) (h : s.size ≤ k) : sLeft s.data.toList k = none := by
  unfold sLeft
  rw [List.drop_eq_nil_of_le (by simpa using h)]
  rfl

theorem strE_left (l : List UInt8) : strE l = match sLeft l 1 with | none => -1 | some n => (n : Int) + 1 := by
  unfold strE sLeft
  cases sScan false (l.drop 1) <;> simp

set_option maxHeartbeats 400000 in
theorem stringEnd_any (s : ByteArray) (w : World) (hs : s.size ≤ 1048576) :
    Calls Trym.prog 23 #[.string s] w fun e w' => e = .returned (.int .i64 (strE s.data.toList)) ∧ w' = w := by
  go_enter Trym.func23, Trym.ntmps23
  go_wp2
  go_loop [3] (fun i => ∃ k : Nat, 1 ≤ k ∧ k ≤ s.size + 1 ∧ i = .int .i64 k ∧ Hid (sLeft s.data.toList 1 = sLeft s.data.toList k)) (fun i => s.size + 1 - (intOf i).toNat)
  case atStart => exact ⟨1, by omega, by omega, rfl, rfl⟩
  case round =>
    obtain ⟨k, hk1, hk2, rfl, HR⟩ := hrel
    by_cases hlt : k < s.size
    · by_cases h92 : s[k] = 92
      · have b1 : ((s[k].toNat : Int) == 92) = true := by rw [h92]; rfl
        have HN : Hid (sLeft s.data.toList 1 = sLeft s.data.toList (k + 2)) := HR.out.trans (sLeft_step92 s k hk1 hlt h92)
        clear h92 HR
        go_wp2
        go_round
        case rel => exact ⟨k + 2, by omega, by omega, by go_num, HN⟩
        case measure => simp [intOf]; omega
      · have b1 : ((s[k].toNat : Int) == 92) = false := by
          rw [beq_eq_false_iff_ne]
          exact fun e => h92 ((byte_eq _ 92 (by omega)).2 e)
        by_cases h34 : s[k] = 34
        · have b2 : ((s[k].toNat : Int) == 34) = true := by rw [h34]; rfl
          have HN : Hid (sLeft s.data.toList 1 = some k) := HR.out.trans (sLeft_quote s k hk1 hlt h34)
          clear h34 h92 HR
          go_wp2
          go_ret
          exact ⟨ret_int (by rw [strE_left, HN.out]), rfl⟩
        · have b2 : ((s[k].toNat : Int) == 34) = false := by
            rw [beq_eq_false_iff_ne]
            exact fun e => h34 ((byte_eq _ 34 (by omega)).2 e)
          have HN : Hid (sLeft s.data.toList 1 = sLeft s.data.toList (k + 1)) := HR.out.trans (sLeft_step s k hk1 hlt h92 h34)
          clear h34 h92 HR
          go_wp2
          go_round
          case rel => exact ⟨k + 1, by omega, by omega, by go_num, HN⟩
          case measure => simp [intOf]; omega
    · have HN : Hid (sLeft s.data.toList 1 = none) := HR.out.trans (sLeft_end s k (by omega))
      clear HR
      go_wp2
      go_ret
      exact ⟨ret_int (by rw [strE_left, HN.out]), rfl⟩

end Go.Proofs.Qxb6600920aMods
