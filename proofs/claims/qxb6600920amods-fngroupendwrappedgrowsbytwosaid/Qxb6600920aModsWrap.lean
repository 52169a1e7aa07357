/- FnGroupEndWrappedGrowsByTwo (4): the walk. -/
import Derived.Test.Qxb6600920aModsPre
import Derived.Deep.QuietTactic
import Derived.BigQuiet
namespace Go.Proofs.Qxb6600920aMods
open Go.RowKit

theorem gScan_wrapped (o q : UInt8) (ho : isOpen o = true) (hq : isClose q = true) (c : UInt8) (r t : List UInt8) (k : Nat) (hc : isOpen c = true ∨ c = 34) (h : gScan 0 0 (c :: r) = some k) :
    gScan 0 0 (o :: ((c :: r).take k ++ q :: t)) = some (k + 2) := by
  have ho34 : o ≠ 34 := by intro e; subst e; simp [isOpen] at ho
  have hk := gScan_le _ _ _ _ h
  obtain ⟨j, rfl⟩ : ∃ j, k = j + 1 := ⟨k - 1, by omega⟩
  have inner : gScan 0 1 (c :: (r.take j ++ q :: t)) = some (j + 2) := by
    by_cases c1 : c = 34
    · simp only [gScan, c1, if_true] at h ⊢
      cases hg : gScan 1 0 r with
      | none => rw [hg] at h; simp at h
      | some i =>
        rw [hg] at h
        simp at h
        subst h
        rw [show (1 : Int) = 0 + 1 by omega, gScan_deeper q hq t r 1 0 i hg (by omega) (by omega)]
        rfl
    · have c2 : isOpen c = true := hc.resolve_right c1
      simp only [gScan, c1, c2, if_true, if_false] at h ⊢
      rw [if_neg (by omega)] at h ⊢
      cases hg : gScan 0 (0 + 1) r with
      | none => rw [hg] at h; simp at h
      | some i =>
        rw [hg] at h
        simp at h
        subst h
        have := gScan_deeper q hq t r 0 (0 + 1) i hg (by omega) (by omega)
        rw [show (1 : Int) + 1 = 0 + 1 + 1 by omega, this]
        rfl
  rw [List.take_succ_cons, List.cons_append]
  have e : gScan 0 0 (o :: c :: (r.take j ++ q :: t)) = (gScan 0 (0 + 1) (c :: (r.take j ++ q :: t))).map (· + 1) := by
    rw [gScan]
    simp only [ho34, ho, if_true, if_false]
    rw [if_neg (by omega)]
  rw [e, show (0 : Int) + 1 = 1 by omega, inner]
  rfl

set_option maxHeartbeats 400000 in
theorem zzBytes10_any (s t : ByteArray) (x : Int) (w : World) (hs : s.size ≤ maxLen) (ht : t.size ≤ maxLen) :
    Calls Trym.prog 10 #[.string s, .string t, .int .u8 x] w fun e w' => ∃ b, e = .returned (.bool b) ∧ w' = w ∧ (s.size ≤ 65536 → t.size ≤ 65536 → b = true) := by
  unfold maxLen at hs ht
  go_enter Trym.func10, Trym.ntmps10
  go_wp2
  all_goals
    go_ret
    exact ⟨_, rfl, rfl, by intros; first | rfl | omega⟩

set_option maxHeartbeats 400000 in
theorem wrap_long (s t : ByteArray) (x : Int) (w : World) (hs : s.size ≤ maxLen) (ht : t.size ≤ maxLen) (h : 65536 < s.size ∨ 65536 < t.size) :
    Calls Trym.prog 4 #[.string s, .string t, .int .u8 x] w fun e w' => e = .returned (.bool true) ∧ w' = w := by
  have hs' := hs
  have ht' := ht
  unfold maxLen at hs' ht'
  go_enter Trym.func4, Trym.ntmps4
  go_wp2_with fail
  refine (zzBytes10_any s t x _ hs ht).mono ?_
  rintro e w' ⟨b, rfl, rfl, _⟩
  cases b with
  | false =>
    go_wp2
    go_ret
    exact ⟨rfl, rfl⟩
  | true =>
    by_cases h1 : 65536 < s.size
    · have i1 : (65536 : Int) < (s.size : Int) := by omega
      go_wp2_with fail
      go_ret
      exact ⟨rfl, rfl⟩
    · have i1 : ¬ (65536 : Int) < (s.size : Int) := by omega
      have i2 : (65536 : Int) < (t.size : Int) := by omega
      have d1 : decide ((65536 : Int) < (s.size : Int)) = false := by simpa using i1
      go_wp2_with fail
      go_ret
      exact ⟨rfl, rfl⟩

set_option maxHeartbeats 800000 in
theorem wrap_empty (s t : ByteArray) (x : Int) (w : World) (hs : s.size = 0) (ht : t.size ≤ 65536) :
    Calls Trym.prog 4 #[.string s, .string t, .int .u8 x] w fun e w' => e = .returned (.bool true) ∧ w' = w := by
  have hsm : s.size ≤ maxLen := by unfold maxLen; omega
  have htm : t.size ≤ maxLen := by unfold maxLen; omega
  have i2 : ¬ (65536 : Int) < (t.size : Int) := by omega
  have d2 : decide ((65536 : Int) < (t.size : Int)) = false := by simpa using i2
  go_enter Trym.func4, Trym.ntmps4
  go_wp2_with fail
  refine (zzBytes10_any s t x _ hsm htm).mono ?_
  rintro e w' ⟨b, rfl, rfl, hb⟩
  obtain rfl := hb (by omega) ht
  clear hb
  go_wp2_with fail
  go_ret
  exact ⟨rfl, rfl⟩

theorem byte_nb (c : UInt8) (n : Nat) (hn : n < 256) (h : c ≠ UInt8.ofNat n) : ((c.toNat : Int) != (n : Int)) = true := by
  rw [bne, byte_ne c n hn h]
  rfl

set_option maxHeartbeats 800000 in
theorem wrap_plain (s t : ByteArray) (x : Int) (w : World) (h0 : 0 < s.size) (hs : s.size ≤ 65536) (ht : t.size ≤ 65536) (hc : isOpen s[0] = false) (hq : s[0] ≠ 34) :
    Calls Trym.prog 4 #[.string s, .string t, .int .u8 x] w fun e w' => e = .returned (.bool true) ∧ w' = w := by
  have hsm : s.size ≤ maxLen := by unfold maxLen; omega
  have htm : t.size ≤ maxLen := by unfold maxLen; omega
  have i1 : ¬ (65536 : Int) < (s.size : Int) := by omega
  have i2 : ¬ (65536 : Int) < (t.size : Int) := by omega
  have d1 : decide ((65536 : Int) < (s.size : Int)) = false := by simpa using i1
  have d2 : decide ((65536 : Int) < (t.size : Int)) = false := by simpa using i2
  have c1 := not_open _ hc
  have b1 : ((s[0].toNat : Int) != 123) = true := byte_nb s[0] 123 (by omega) c1.1
  have b2 : ((s[0].toNat : Int) != 91) = true := byte_nb s[0] 91 (by omega) c1.2.1
  have b3 : ((s[0].toNat : Int) != 40) = true := byte_nb s[0] 40 (by omega) c1.2.2
  have b4 : ((s[0].toNat : Int) != 34) = true := byte_nb s[0] 34 (by omega) hq
  have z : ((s.size : Int) == 0) = false := by rw [beq_eq_false_iff_ne]; omega
  clear c1 hc hq
  go_enter Trym.func4, Trym.ntmps4
  go_wp2_with fail
  refine (zzBytes10_any s t x _ hsm htm).mono ?_
  rintro e w' ⟨b, rfl, rfl, hb⟩
  obtain rfl := hb hs ht
  clear hb
  go_wp2_with fail
  go_ret
  exact ⟨rfl, rfl⟩

theorem opener (a : Nat) (h : a < 3) : ∃ o : UInt8, isOpen o = true ∧ (ByteArray.extract ⟨#[123, 91, 40]⟩ a (a + 1)).data.toList = [o] := by
  match a, h with
  | 0, _ => exact ⟨123, rfl, rfl⟩
  | 1, _ => exact ⟨91, rfl, rfl⟩
  | 2, _ => exact ⟨40, rfl, rfl⟩

theorem closer (a : Nat) (h : a < 3) : ∃ o : UInt8, isClose o = true ∧ (ByteArray.extract ⟨#[125, 93, 41]⟩ a (a + 1)).data.toList = [o] := by
  match a, h with
  | 0, _ => exact ⟨125, rfl, rfl⟩
  | 1, _ => exact ⟨93, rfl, rfl⟩
  | 2, _ => exact ⟨41, rfl, rfl⟩

/-- The wrapped text's group. -/
theorem wrapped_text (s t : ByteArray) (a b k : Nat) (ha : a < 3) (hb : b < 3) (h0 : 0 < s.size) (hc : isOpen s[0] = true ∨ s[0] = 34) (hg : gScan 0 0 s.data.toList = some k) :
    grpE (ByteArray.extract ⟨#[123, 91, 40]⟩ a (a + 1) ++ s.extract 0 k ++ ByteArray.extract ⟨#[125, 93, 41]⟩ b (b + 1) ++ t).data.toList = (k : Int) + 2 := by
  obtain ⟨o, ho, eo⟩ := opener a ha
  obtain ⟨q, hq, eq⟩ := closer b hb
  have e : (ByteArray.extract ⟨#[123, 91, 40]⟩ a (a + 1) ++ s.extract 0 k ++ ByteArray.extract ⟨#[125, 93, 41]⟩ b (b + 1) ++ t).data.toList = o :: (s.data.toList.take k ++ q :: t.data.toList) := by
    rw [ByteArray.data_append, ByteArray.data_append, ByteArray.data_append, Array.toList_append, Array.toList_append, Array.toList_append, extract_take, eo, eq]
    simp
  rw [e]
  have hd := drop_byte s 0 h0
  rw [List.drop_zero] at hd
  rw [hd] at hg ⊢
  rw [grpE_some (gScan_wrapped o q ho hq _ _ _ k hc hg)]
  omega

theorem wrapped_size (s t : ByteArray) (a b k : Nat) (ha : a < 3) (hb : b < 3) (hs : s.size ≤ 65536) (ht : t.size ≤ 65536) :
    (ByteArray.extract ⟨#[123, 91, 40]⟩ a (a + 1) ++ s.extract 0 k ++ ByteArray.extract ⟨#[125, 93, 41]⟩ b (b + 1) ++ t).size ≤ 1048576 := by
  obtain ⟨o, _, eo⟩ := opener a ha
  obtain ⟨q, _, eq⟩ := closer b hb
  have z1 : (ByteArray.extract ⟨#[123, 91, 40]⟩ a (a + 1)).size = 1 := by
    show (ByteArray.extract ⟨#[123, 91, 40]⟩ a (a + 1)).data.size = 1
    rw [← Array.length_toList, eo]
    rfl
  have z2 : (ByteArray.extract ⟨#[125, 93, 41]⟩ b (b + 1)).size = 1 := by
    show (ByteArray.extract ⟨#[125, 93, 41]⟩ b (b + 1)).data.size = 1
    rw [← Array.length_toList, eq]
    rfl
  have z3 : (s.extract 0 k).size ≤ s.size := by simp; omega
  rw [ByteArray.size_append, ByteArray.size_append, ByteArray.size_append, z1, z2]
  omega

set_option maxHeartbeats 1600000 in
theorem wrap_main (s t : ByteArray) (x : Int) (a b : Nat) (w : World) (h0 : 0 < s.size) (hs : s.size ≤ 65536) (ht : t.size ≤ 65536) (hx0 : 0 ≤ x) (hx1 : x ≤ 255) (ha : x % 3 = (a : Int)) (hb : x / 3 % 3 = (b : Int)) (n : Nat) (hn : (s[0].toNat : Int) = (n : Int))
    (hnn : n = 123 ∨ n = 91 ∨ n = 40 ∨ n = 34) (k : Nat) (hg : grpE s.data.toList = (k : Int)) (hk : k ≤ s.size)
    (hu : grpE (ByteArray.extract ⟨#[123, 91, 40]⟩ a (a + 1) ++ s.extract 0 k ++ ByteArray.extract ⟨#[125, 93, 41]⟩ b (b + 1) ++ t).data.toList = (k : Int) + 2) :
    Calls Trym.prog 4 #[.string s, .string t, .int .u8 x] w fun e w' => e = .returned (.bool true) ∧ ∃ m, w' = w.drewN m := by
  have hsm : s.size ≤ maxLen := by unfold maxLen; omega
  have htm : t.size ≤ maxLen := by unfold maxLen; omega
  have i1 : ¬ (65536 : Int) < (s.size : Int) := by omega
  have i2 : ¬ (65536 : Int) < (t.size : Int) := by omega
  have d1 : decide ((65536 : Int) < (s.size : Int)) = false := by simpa using i1
  have d2 : decide ((65536 : Int) < (t.size : Int)) = false := by simpa using i2
  have z : ((s.size : Int) == 0) = false := by rw [beq_eq_false_iff_ne]; omega
  have ha3 : a < 3 := by omega
  have hb3 : b < 3 := by omega
  have HG : Hid (grpE s.data.toList = (k : Int)) := hg
  have HU : Hid (grpE (ByteArray.extract ⟨#[123, 91, 40]⟩ a (a + 1) ++ s.extract 0 k ++ ByteArray.extract ⟨#[125, 93, 41]⟩ b (b + 1) ++ t).data.toList = (k : Int) + 2) := hu
  have HZ : Hid ((ByteArray.extract ⟨#[123, 91, 40]⟩ a (a + 1) ++ s.extract 0 k ++ ByteArray.extract ⟨#[125, 93, 41]⟩ b (b + 1) ++ t).size ≤ 1048576) := wrapped_size s t a b k ha3 hb3 hs ht
  clear hg hu
  rcases hnn with rfl | rfl | rfl | rfl
  all_goals
    go_enter Trym.func4, Trym.ntmps4
    go_wp2_with fail
    refine (zzBytes10_any s t x _ hsm htm).mono ?_
    rintro e w' ⟨bb, rfl, rfl, hbb⟩
    obtain rfl := hbb hs ht
    clear hbb
    go_wp2_with fail
    refine (zzGroupEnd_any s _ (by omega)).mono ?_
    rintro e w' ⟨rfl, rfl⟩
    rw [HG.out]
    go_wp2_with fail
    rw [hb]
    go_quiet (fail)
    go_wp2_with fail
    refine (zzGroupEnd_any _ _ HZ.out).mono ?_
    rintro e w' ⟨rfl, rfl⟩
    rw [HU.out]
    go_wp2
    go_ret
    exact ⟨rfl, _, rfl⟩

set_option maxHeartbeats 1600000 in
theorem wrap_none (s t : ByteArray) (x : Int) (w : World) (h0 : 0 < s.size) (hs : s.size ≤ 65536) (ht : t.size ≤ 65536) (n : Nat) (hn : (s[0].toNat : Int) = (n : Int))
    (hnn : n = 123 ∨ n = 91 ∨ n = 40 ∨ n = 34) (hg : grpE s.data.toList = -1) :
    Calls Trym.prog 4 #[.string s, .string t, .int .u8 x] w fun e w' => e = .returned (.bool true) ∧ w' = w := by
  have hsm : s.size ≤ maxLen := by unfold maxLen; omega
  have htm : t.size ≤ maxLen := by unfold maxLen; omega
  have i1 : ¬ (65536 : Int) < (s.size : Int) := by omega
  have i2 : ¬ (65536 : Int) < (t.size : Int) := by omega
  have d1 : decide ((65536 : Int) < (s.size : Int)) = false := by simpa using i1
  have d2 : decide ((65536 : Int) < (t.size : Int)) = false := by simpa using i2
  have z : ((s.size : Int) == 0) = false := by rw [beq_eq_false_iff_ne]; omega
  have HG : Hid (grpE s.data.toList = -1) := hg
  clear hg
  rcases hnn with rfl | rfl | rfl | rfl
  all_goals
    go_enter Trym.func4, Trym.ntmps4
    go_wp2_with fail
    refine (zzBytes10_any s t x _ hsm htm).mono ?_
    rintro e w' ⟨bb, rfl, rfl, hbb⟩
    obtain rfl := hbb hs ht
    clear hbb
    go_wp2_with fail
    refine (zzGroupEnd_any s _ (by omega)).mono ?_
    rintro e w' ⟨rfl, rfl⟩
    rw [HG.out]
    go_wp2
    go_ret
    exact ⟨rfl, rfl⟩

theorem wrap_walk (s t : ByteArray) (x : Int) (hs : s.size ≤ maxLen) (ht : t.size ≤ maxLen) (hx : 0 ≤ x ∧ x ≤ 255) (w : World) :
    Calls Trym.prog 4 #[.string s, .string t, .int .u8 x] w fun e w' => e = .returned (.bool true) ∧ Grown w w' := by
  have done : ∀ e w', (e = Ending.returned (.bool true) ∧ w' = w) → e = .returned (.bool true) ∧ Grown w w' := by
    rintro e w' ⟨rfl, rfl⟩
    exact ⟨rfl, Grown.refl _⟩
  by_cases h : s.size ≤ 65536 ∧ t.size ≤ 65536
  · obtain ⟨h1, h2⟩ := h
    by_cases h0 : s.size = 0
    · exact (wrap_empty s t x w h0 h2).mono done
    · have h0' : 0 < s.size := by omega
      by_cases hc : isOpen s[0] = true ∨ s[0] = 34
      · have hn : ∃ n : Nat, (s[0].toNat : Int) = (n : Int) ∧ (n = 123 ∨ n = 91 ∨ n = 40 ∨ n = 34) := by
          rcases hc with hc | hc
          · rcases open_cases _ hc with e | e | e
            · exact ⟨123, by rw [e]; rfl, by omega⟩
            · exact ⟨91, by rw [e]; rfl, by omega⟩
            · exact ⟨40, by rw [e]; rfl, by omega⟩
          · exact ⟨34, by rw [hc]; rfl, by omega⟩
        obtain ⟨n, hn1, hn2⟩ := hn
        cases hg : gScan 0 0 s.data.toList with
        | none => exact (wrap_none s t x w h0' h1 h2 n hn1 hn2 (grpE_none hg)).mono done
        | some k =>
          obtain ⟨a, ha⟩ : ∃ a : Nat, x % 3 = (a : Int) := ⟨(x % 3).toNat, by omega⟩
          obtain ⟨b, hb⟩ : ∃ b : Nat, x / 3 % 3 = (b : Int) := ⟨(x / 3 % 3).toNat, by omega⟩
          have hk : k ≤ s.size := by have := (gScan_le _ _ _ _ hg).2; simpa using this
          refine (wrap_main s t x a b w h0' h1 h2 hx.1 hx.2 ha hb n hn1 hn2 k (grpE_some hg) hk (wrapped_text s t a b k (by omega) (by omega) h0' hc hg)).mono ?_
          rintro e w' ⟨rfl, m, rfl⟩
          exact ⟨rfl, (Grown.refl w : Grown w w)⟩
      · have hc1 : isOpen s[0] = false := by
          cases ho : isOpen s[0] with
          | true => exact absurd (.inl ho) hc
          | false => rfl
        exact (wrap_plain s t x w h0' h1 h2 hc1 (fun e => hc (.inr e))).mono done
  · exact (wrap_long s t x w hs ht (by omega)).mono done

end Go.Proofs.Qxb6600920aMods
