/- Contracts on the road of FnMultipathSplitsWhatWasJoined: ZZmultipath (12), zzPlainPathByte (15), zzBytes (14), zzCloneStrings (16). -/
import Derived.Test.Qxb6600920aModsMp
import Derived.Test.Qxb6600920aModsPlainJ
namespace Go.Proofs.Qxb6600920aMods
open Go.RowKit

set_option maxHeartbeats 400000 in
theorem zzMultipath_none (s : ByteArray) (w : World) (hs : s.size ≤ 1048576) (h : mPath s.data.toList = none) :
    Calls Trym.prog 12 #[.string s] w fun e w' => e = .returned (.tuple #[.slice none 0 0, .int .i64 (-1)]) ∧ Below w.heap.size w w' := by
  have H : Hid (mPath s.data.toList = none) := h
  clear h
  go_enter Trym.func12, Trym.ntmps12
  go_wp2_with fail
  refine (multipath_any s w hs).mono ?_
  rintro e w1 ⟨hb, hn, _⟩
  obtain rfl := hn H.out
  have HB : Hid (Below w.heap.size w w1) := hb
  clear hb hn
  go_wp2
  go_ret2
  exact ⟨rfl, HB.out⟩

set_option maxHeartbeats 400000 in
theorem zzMultipath_some (s : ByteArray) (w : World) (hs : s.size ≤ 1048576) (acc : List (Nat × Nat)) (n : Nat) (h : mPath s.data.toList = some (acc, n)) :
    Calls Trym.prog 12 #[.string s] w fun e w' => ∃ g cap, e = .returned (.tuple #[.slice (some ⟨g, 0, none⟩) acc.length cap, .int .i64 (n : Int)]) ∧ g < w'.heap.size ∧
      w'.ownsRow w.heap.size 9 1 (.slice (some ⟨g, 0, none⟩) acc.length cap) acc.length (elems s acc) ∧ Below w.heap.size w w' := by
  have H : Hid (mPath s.data.toList = some (acc, n)) := h
  clear h
  go_enter Trym.func12, Trym.ntmps12
  go_wp2_with fail
  refine (multipath_any s w hs).mono ?_
  rintro e w1 ⟨hb, _, hn⟩
  obtain ⟨g, cap, rfl, h1, h2⟩ := hn acc n H.out
  have HB : Hid (g < w1.heap.size ∧ w1.ownsRow w.heap.size 9 1 (.slice (some ⟨g, 0, none⟩) acc.length cap) acc.length (elems s acc) ∧ Below w.heap.size w w1) := ⟨h1, h2, hb⟩
  clear hb hn h1 h2
  go_wp2
  go_ret2
  exact ⟨g, cap, rfl, HB.out⟩

set_option maxHeartbeats 400000 in
theorem plainByte_any (c : UInt8) (w : World) :
    Calls Trym.prog 15 #[.int .u8 (c.toNat : Int)] w fun e w' => e = .returned (.bool (plainB c)) ∧ w' = w := by
  by_cases h : plainB c = true
  · have h' := h
    simp [plainB] at h'
    obtain ⟨⟨⟨⟨⟨⟨⟨⟨⟨⟨a1, a2⟩, a3⟩, a4⟩, a5⟩, a6⟩, a7⟩, a8⟩, a9⟩, a10⟩, a11⟩ := h'
    have b1 : ((c.toNat : Int) == 92) = false := byte_ne c 92 (by omega) a1
    have b2 : ((c.toNat : Int) == 34) = false := byte_ne c 34 (by omega) a2
    have b3 : ((c.toNat : Int) == 64) = false := byte_ne c 64 (by omega) a3
    have b4 : ((c.toNat : Int) == 58) = false := byte_ne c 58 (by omega) a4
    have b5 : ((c.toNat : Int) == 44) = false := byte_ne c 44 (by omega) a5
    have b6 : ((c.toNat : Int) == 123) = false := byte_ne c 123 (by omega) a6
    have b7 : ((c.toNat : Int) == 125) = false := byte_ne c 125 (by omega) a7
    have b8 : ((c.toNat : Int) == 91) = false := byte_ne c 91 (by omega) a8
    have b9 : ((c.toNat : Int) == 93) = false := byte_ne c 93 (by omega) a9
    have b10 : ((c.toNat : Int) == 40) = false := byte_ne c 40 (by omega) a10
    have b11 : ((c.toNat : Int) == 41) = false := byte_ne c 41 (by omega) a11
    have HP : Hid (plainB c = true) := h
    clear a1 a2 a3 a4 a5 a6 a7 a8 a9 a10 a11 h
    go_enter Trym.func15, Trym.ntmps15
    go_wp2
    go_ret
    exact ⟨by rw [HP.out]; rfl, rfl⟩
  · have hp : plainB c = false := by simpa using h
    have h' : c = 92 ∨ c = 34 ∨ c = 64 ∨ c = 58 ∨ c = 44 ∨ c = 123 ∨ c = 125 ∨ c = 91 ∨ c = 93 ∨ c = 40 ∨ c = 41 := by
      simp [plainB] at h
      by_cases c1 : c = 92
      · exact .inl c1
      · by_cases c2 : c = 34 <;> by_cases c3 : c = 64 <;> by_cases c4 : c = 58 <;> by_cases c5 : c = 44 <;> by_cases c6 : c = 123 <;> by_cases c7 : c = 125 <;> by_cases c8 : c = 91 <;> by_cases c9 : c = 93 <;> by_cases c10 : c = 40 <;> simp_all
    have HP : Hid (plainB c = false) := hp
    clear h hp
    rcases h' with rfl | rfl | rfl | rfl | rfl | rfl | rfl | rfl | rfl | rfl | rfl
    all_goals
      go_enter Trym.func15, Trym.ntmps15
      go_wp2
      go_ret
      exact ⟨rfl, rfl⟩

/-- A slice of strings: its elements 'ss'; nil or empty where there is none. -/
def IsStrs (w : World) (a : Option Addr) (len cap : Nat) (ss : List ByteArray) : Prop :=
  ss.length = len ∧ len ≤ cap ∧ cap ≤ maxLen ∧ (∀ s ∈ ss, s.size ≤ maxLen) ∧ (a = none → len = 0 ∧ cap = 0) ∧
  (0 < len → ∃ b off, a = some ⟨b, off, none⟩ ∧ ∀ j, j < len → w.cell? ⟨b, off + j, none⟩ = some (.string (ss.getD j ByteArray.empty)))

theorem IsStrs.below {w w' : World} {a : Option Addr} {len cap : Nat} {ss : List ByteArray} (h : IsStrs w a len cap ss) (hb : Below w.heap.size w w') : IsStrs w' a len cap ss := by
  obtain ⟨h1, h2, h3, h4, h5, h6⟩ := h
  refine ⟨h1, h2, h3, h4, h5, fun hl => ?_⟩
  obtain ⟨b, off, e, hc⟩ := h6 hl
  refine ⟨b, off, e, fun j hj => ?_⟩
  rw [← hc j hj]
  exact hb.cell (block_lt_of_cell (hc j hj))

theorem size_getD {ss : List ByteArray} {j B : Nat} (h : ∀ s ∈ ss, s.size ≤ B) : (ss.getD j ByteArray.empty).size ≤ B := by
  rw [List.getD_eq_getElem?_getD]
  cases hj : ss[j]? with
  | none => simp
  | some s => exact h s (List.mem_of_getElem? hj)

/-- What the bound on total length says. -/
def BytesPost (ns ps : List ByteArray) (e : Ending) : Prop :=
  e = .returned (.bool false) ∨ (e = .returned (.bool true) ∧ (∀ j, j < ns.length → (ns.getD j ByteArray.empty).size ≤ 1048576) ∧ ∀ j, j < ps.length → (ps.getD j ByteArray.empty).size ≤ 1048576)

/-- The first k are short. -/
def Short (ss : List ByteArray) (k : Nat) : Prop := ∀ j, j < k → (ss.getD j ByteArray.empty).size ≤ 1048576

theorem Short.next {ss : List ByteArray} {k : Nat} (h : Short ss k) (hk : (ss.getD k ByteArray.empty).size ≤ 1048576) : Short ss (k + 1) := fun j hj => by
  by_cases e : j = k
  · subst e; exact hk
  · exact h j (by omega)

set_option maxHeartbeats 4000000 in
theorem zzBytes14_any (a0 a1 : Option Addr) (l0 c0 l1 c1 : Nat) (ns ps : List ByteArray) (t : ByteArray) (w : World) (h0 : IsStrs w a0 l0 c0 ns) (h1 : IsStrs w a1 l1 c1 ps) (_ht : t.size ≤ maxLen) :
    Calls Trym.prog 14 #[.slice a0 l0 c0, .slice a1 l1 c1, .string t] w fun e w' => BytesPost ns ps e ∧ w' = w := by
  have H0 : Hid (IsStrs w a0 l0 c0 ns) := h0
  have H1 : Hid (IsStrs w a1 l1 c1 ps) := h1
  have hl0 : l0 ≤ 9223372036854775807 := by have := h0.2.1; have := h0.2.2.1; unfold maxLen at this; omega
  have hl1 : l1 ≤ 9223372036854775807 := by have := h1.2.1; have := h1.2.2.1; unfold maxLen at this; omega
  clear h0 h1
  by_cases q0 : l0 ≤ 1048576
  · have d0 : decide ((1048576 : Int) < (l0 : Int)) = false := by simp; omega
    by_cases q1 : l1 ≤ 1048576
    · have d1 : decide ((1048576 : Int) < (l1 : Int)) = false := by simp; omega
      go_enter Trym.func14, Trym.ntmps14
      go_wp2
      go_loop [7, 8] (fun z i => ∃ (k : Nat) (Z : Int), k ≤ l0 ∧ i = .int .i64 k ∧ z = .int .i64 Z ∧ Hid (Short ns k)) (fun _ i => l0 - (intOf i).toNat)
      case atStart => exact ⟨0, _, by omega, rfl, rfl, fun j hj => by omega⟩
      case round =>
        obtain ⟨k, Z, hk, rfl, rfl, HS⟩ := hrel
        by_cases hlt : k < l0
        · obtain ⟨b, off, rfl, hc⟩ := H0.out.2.2.2.2.2 (by omega)
          have hcell := hc k hlt
          by_cases hx0 : (ns.getD k ByteArray.empty).size ≤ 1048576
          · have HS2 : Hid (Short ns (k + 1)) := HS.out.next hx0
            obtain ⟨x, hx⟩ : ∃ x, x = ns.getD k ByteArray.empty := ⟨_, rfl⟩
            rw [← hx] at hcell hx0
            clear hc hx
            go_wp2
            all_goals
              first
              | (go_ret; exact ⟨.inl rfl, rfl⟩)
              | (go_round
                 case rel => exact ⟨k + 1, _, by omega, by go_num, rfl, HS2⟩
                 case measure => simp [intOf]; omega)
          · obtain ⟨x, hx⟩ : ∃ x, x = ns.getD k ByteArray.empty := ⟨_, rfl⟩
            rw [← hx] at hcell hx0
            have hx1 : (1048576 : Int) < (x.size : Int) := by omega
            clear hc hx
            go_wp2
            all_goals (go_ret; exact ⟨.inl rfl, rfl⟩)
        · go_wp2
          all_goals try (go_ret; exact ⟨.inl rfl, rfl⟩)
          go_loop [7, 9] (fun z i => ∃ (k : Nat) (Z : Int), k ≤ l1 ∧ i = .int .i64 k ∧ z = .int .i64 Z ∧ Hid (Short ps k)) (fun _ i => l1 - (intOf i).toNat)
          case atStart => exact ⟨0, _, by omega, rfl, rfl, fun j hj => by omega⟩
          case round =>
            obtain ⟨k', Z', hk', rfl, rfl, HS'⟩ := hrel
            by_cases hlt' : k' < l1
            · obtain ⟨b, off, rfl, hc⟩ := H1.out.2.2.2.2.2 (by omega)
              have hcell := hc k' hlt'
              by_cases hx0 : (ps.getD k' ByteArray.empty).size ≤ 1048576
              · have HS2 : Hid (Short ps (k' + 1)) := HS'.out.next hx0
                obtain ⟨x, hx⟩ : ∃ x, x = ps.getD k' ByteArray.empty := ⟨_, rfl⟩
                rw [← hx] at hcell hx0
                clear hc hx
                go_wp2
                all_goals
                  first
                  | (go_ret; exact ⟨.inl rfl, rfl⟩)
                  | (go_round
                     case rel => exact ⟨k' + 1, _, by omega, by go_num, rfl, HS2⟩
                     case measure => simp [intOf]; omega)
              · obtain ⟨x, hx⟩ : ∃ x, x = ps.getD k' ByteArray.empty := ⟨_, rfl⟩
                rw [← hx] at hcell hx0
                have hx1 : (1048576 : Int) < (x.size : Int) := by omega
                clear hc hx
                go_wp2
                all_goals (go_ret; exact ⟨.inl rfl, rfl⟩)
            · have HF : Hid ((∀ j, j < ns.length → (ns.getD j ByteArray.empty).size ≤ 1048576) ∧ ∀ j, j < ps.length → (ps.getD j ByteArray.empty).size ≤ 1048576) :=
                ⟨fun j hj => HS.out j (by have := H0.out.1; omega), fun j hj => HS'.out j (by have := H1.out.1; omega)⟩
              clear HS HS'
              go_wp2
              all_goals (go_ret; first | exact ⟨.inl rfl, rfl⟩ | exact ⟨.inr ⟨rfl, HF.out⟩, rfl⟩)
    · have d1 : (1048576 : Int) < (l1 : Int) := by omega
      go_enter Trym.func14, Trym.ntmps14
      go_wp2
      go_loop [7, 8] (fun z i => ∃ (k : Nat) (Z : Int), k ≤ l0 ∧ i = .int .i64 k ∧ z = .int .i64 Z ∧ Hid (Short ns k)) (fun _ i => l0 - (intOf i).toNat)
      case atStart => exact ⟨0, _, by omega, rfl, rfl, fun j hj => by omega⟩
      case round =>
        obtain ⟨k, Z, hk, rfl, rfl, HS⟩ := hrel
        by_cases hlt : k < l0
        · obtain ⟨b, off, rfl, hc⟩ := H0.out.2.2.2.2.2 (by omega)
          have hcell := hc k hlt
          by_cases hx0 : (ns.getD k ByteArray.empty).size ≤ 1048576
          · have HS2 : Hid (Short ns (k + 1)) := HS.out.next hx0
            obtain ⟨x, hx⟩ : ∃ x, x = ns.getD k ByteArray.empty := ⟨_, rfl⟩
            rw [← hx] at hcell hx0
            clear hc hx
            go_wp2
            all_goals
              first
              | (go_ret; exact ⟨.inl rfl, rfl⟩)
              | (go_round
                 case rel => exact ⟨k + 1, _, by omega, by go_num, rfl, HS2⟩
                 case measure => simp [intOf]; omega)
          · obtain ⟨x, hx⟩ : ∃ x, x = ns.getD k ByteArray.empty := ⟨_, rfl⟩
            rw [← hx] at hcell hx0
            have hx1 : (1048576 : Int) < (x.size : Int) := by omega
            clear hc hx
            go_wp2
            all_goals (go_ret; exact ⟨.inl rfl, rfl⟩)
        · go_wp2
          all_goals (go_ret; exact ⟨.inl rfl, rfl⟩)
  · have d0 : (1048576 : Int) < (l0 : Int) := by omega
    go_enter Trym.func14, Trym.ntmps14
    go_wp2
    all_goals (go_ret; exact ⟨.inl rfl, rfl⟩)

end Go.Proofs.Qxb6600920aMods
