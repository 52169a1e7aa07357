/- zzBytes (8, 13), zzCloneBytes (9), zzEqBytes (11): contracts. -/
import Derived.Test.Qxb6612263aModsZz
namespace Go.Proofs.Qxb6612263aMods
open Go.RowKit
open Extern.Stop (cell)

set_option maxHeartbeats 400000 in
theorem zzBytes8_yes (ao : Option Addr) (len cap : Nat) (t : Int) (cs : Array Value) (w : World) (hl : len ≤ 1048576) :
    Calls Trym.prog 8 #[.slice ao len cap, .int .u8 t, .agg cs] w fun e w' => e = .returned (.bool true) ∧ Below w.heap.size w w' := by
  have h : (len : Int) ≤ 1048576 := by omega
  go_enter Trym.func8, Trym.ntmps8
  go_wp2
  go_ret
  exact ⟨rfl, (Below.refl _ _).alloc (Nat.le_refl _) _⟩

set_option maxHeartbeats 400000 in
theorem zzBytes8_no (ao : Option Addr) (len cap : Nat) (t : Int) (cs : Array Value) (w : World) (hl : 1048576 < len) :
    Calls Trym.prog 8 #[.slice ao len cap, .int .u8 t, .agg cs] w fun e w' => e = .returned (.bool false) ∧ Below w.heap.size w w' := by
  have h : (1048576 : Int) < (len : Int) := by omega
  go_enter Trym.func8, Trym.ntmps8
  go_wp2
  go_ret
  exact ⟨rfl, (Below.refl _ _).alloc (Nat.le_refl _) _⟩

set_option maxHeartbeats 400000 in
theorem zzBytes13_yes (ao : Option Addr) (len cap : Nat) (t : Int) (cs cs' : Array Value) (w : World) (hl : len ≤ 1048576) :
    Calls Trym.prog 13 #[.slice ao len cap, .int .u8 t, .agg cs, .agg cs'] w fun e w' => e = .returned (.bool true) ∧ Below w.heap.size w w' := by
  have h : (len : Int) ≤ 1048576 := by omega
  go_enter Trym.func13, Trym.ntmps13
  go_wp2
  go_ret
  exact ⟨rfl, ((Below.refl _ _).alloc (Nat.le_refl _) _).alloc (by simp) _⟩

set_option maxHeartbeats 400000 in
theorem zzBytes13_no (ao : Option Addr) (len cap : Nat) (t : Int) (cs cs' : Array Value) (w : World) (hl : 1048576 < len) :
    Calls Trym.prog 13 #[.slice ao len cap, .int .u8 t, .agg cs, .agg cs'] w fun e w' => e = .returned (.bool false) ∧ Below w.heap.size w w' := by
  have h : (1048576 : Int) < (len : Int) := by omega
  go_enter Trym.func13, Trym.ntmps13
  go_wp2
  go_ret
  exact ⟨rfl, ((Below.refl _ _).alloc (Nat.le_refl _) _).alloc (by simp) _⟩

/-- A slice of bytes that came in: nil, or its first 'len' cells are 'xs'. -/
def IsBytes (w : World) (a : Option Addr) (len cap : Nat) (xs : List UInt8) : Prop :=
  (a = none ∧ len = 0 ∧ cap = 0 ∧ xs = []) ∨
  ∃ x, a = some x ∧ len ≤ cap ∧ cap ≤ maxLen ∧ xs.length = len ∧ ∀ i u, (xs.map cell)[i]? = some u → w.cell? (x.add i) = some u

set_option maxHeartbeats 400000 in
theorem clone_nil (w : World) :
    Calls Trym.prog 9 #[.slice none 0 0] w fun e w' => e = .returned (.slice none 0 0) ∧ w' = w := by
  have hq := fun w => Lib.run_eql_slice_nil (P := Trym.prog) w 22 5 none 0 0 0 0 Trym.underlying22
  go_enter Trym.func9, Trym.ntmps9
  go_wp2
  go_ret
  exact ⟨rfl, rfl⟩

theorem splice_all {α : Type} (L cs : List α) (h : cs.length = L.length) : splice L 0 cs = cs := by
  simp [splice, h]

theorem row_of_own {w : World} {base g n : Nat} {e : TypeId} {xs : List Value} (h : w.ownsRow base e 1 (.slice (some ⟨g, 0, none⟩) n n) n xs) : w.heap[g]? = some (.cells xs.toArray e (0, 0)) := by
  obtain ⟨_, h | ⟨g', cap, cur, e1, _, e3, _, _, e6, e7⟩⟩ := h
  · simp at h
  · simp at e1
    obtain ⟨rfl, rfl⟩ := e1
    rw [e3]
    rw [← e7, List.take_of_length_le (by simp [e6])]

set_option maxHeartbeats 400000 in
theorem clone_some (x : Addr) (n cap : Nat) (xs : List UInt8) (w : World) (hlen : xs.length = n) (_hcap : n ≤ cap) (hc : ∀ i u, (xs.map cell)[i]? = some u → w.cell? (x.add i) = some u) (hn : n ≤ 1048576) :
    Calls Trym.prog 9 #[.slice (some x) n cap] w fun e w' => ∃ g, e = .returned (.slice (some ⟨g, 0, none⟩) n n) ∧ w'.heap[g]? = some (.cells (xs.map cell).toArray 5 (0, 0)) ∧ Below w.heap.size w w' := by
  have hq := fun w => Lib.run_eql_slice_nil (P := Trym.prog) w 22 5 (some x) n cap 0 0 Trym.underlying22
  obtain ⟨i0, hi, hz0, hz1, hz2⟩ := info_parts info5
  have hb : i0.bytes * n ≤ 281474976710656 := by rw [hz2]; omega
  have HC : Hid (∀ i u, (xs.map cell)[i]? = some u → w.cell? (x.add i) = some u) := hc
  clear hc
  go_enter Trym.func9, Trym.ntmps9
  go_wp2_with (at_make; refine wpList_make_full _ rfl _ _ 22 rfl w.heap.size 5 i0 (.int .u8 0) 1 Trym.underlying22 hi hz0 hz1 _ _ _ _ n rfl rfl rfl rfl hb (by unfold maxLen; omega) (Nat.le_refl _) ?_)
  intro w1 hown hgrow
  have hrow := row_of_own hown
  have hbel : Below w.heap.size w w1 := (Below.refl _ _).grown hgrow (Nat.le_refl _) (by simp)
  obtain ⟨L, hL⟩ : ∃ L, L = (madeCells #[Value.int IntKind.u8 0] n).toList := ⟨_, rfl⟩
  rw [← hL] at hrow
  have hLl : L.length = n := by rw [hL]; simp [madeCells]
  have HR : Hid (w1.heap[w.heap.size]? = some (.cells L.toArray 5 (0, 0))) := hrow
  have HB : Hid (Below w.heap.size w w1) := hbel
  have HS : Hid (∀ i u, (xs.map cell)[i]? = some u → w1.cell? (x.add i) = some u) := fun i u hu => by
    have h := HC.out i u hu
    rw [← h]
    exact hbel.cell (block_lt_of_cell h)
  have HN : Hid ((xs.map cell).length = Nat.min n n) := by show _ = _; simp [hlen]
  have HL : Hid (L.length = n) := hLl
  clear hrow hbel hown hgrow hL hLl HC
  go_wp2_with (refine wpList_copy_splice rfl (.tmp 9) (.tmp 10) 22 22 rfl 5 Trym.underlying22 (by kernel_rfl) _ _ _ _ _ _ rfl rfl w.heap.size 0 L 5 HR.out (xs.map cell) HN.out (fun _ => ⟨rfl, x, rfl, HS.out⟩) (by rw [HL.out]; simp [hlen]) (bytes_one _) w.heap.size w HB.out (Nat.le_refl _) ?_)
  intro w2 hr2 hb2
  have HF : Hid (w2.heap[w.heap.size]? = some (.cells (xs.map cell).toArray 5 (0, 0)) ∧ Below w.heap.size w w2) := ⟨by have := hr2.out; rw [splice_all _ _ (by rw [HL.out]; simp [hlen])] at this; exact this, hb2⟩
  clear hr2 hb2
  go_wp2
  go_ret
  exact ⟨_, rfl, HF.out⟩

set_option maxHeartbeats 400000 in
theorem eq_any (g1 n c1 c2 : Nat) (a2 : Option Addr) (xs : List UInt8) (w : World) (hlen : xs.length = n) (h1 : w.rangeAt g1 0 (xs.map cell)) (h2 : 0 < n → ∃ g2, a2 = some ⟨g2, 0, none⟩ ∧ w.rangeAt g2 0 (xs.map cell)) (hn : n ≤ 1048576) :
    Calls Trym.prog 11 #[.slice (some ⟨g1, 0, none⟩) n c1, .slice a2 n c2] w fun e w' => e = .returned (.bool true) ∧ Below w.heap.size w w' := by
  have H1 : Hid (w.rangeAt g1 0 (xs.map cell) ∧ (0 < n → ∃ g2, a2 = some ⟨g2, 0, none⟩ ∧ w.rangeAt g2 0 (xs.map cell))) := ⟨h1, h2⟩
  clear h1 h2
  go_enter Trym.func11, Trym.ntmps11
  go_wp2
  go_loopw [5] (fun i wr => ∃ k : Nat, k ≤ n ∧ i = .int .i64 k ∧ ∃ m, wr = w.drewN m) (fun i _ => n - (intOf i).toNat)
  case atStart => exact ⟨0, Nat.zero_le _, rfl, 0, rfl⟩
  case round =>
    obtain ⟨k, hk, rfl, m, rfl⟩ := hrel
    by_cases hlt : k < n
    · obtain ⟨g2, rfl, hr2⟩ := H1.out.2 (by omega)
      obtain ⟨v, hv⟩ : ∃ v : Int, cell (xs[k]'(by omega)) = .int .u8 v := ⟨_, rfl⟩
      have f1 : w.cell? ⟨g1, k, none⟩ = some (.int .u8 v) := by
        have := H1.out.1 k (cell (xs[k]'(by omega))) (by simp [hlen, hlt])
        rw [Nat.zero_add, hv] at this
        exact this
      have f2 : w.cell? ⟨g2, k, none⟩ = some (.int .u8 v) := by
        have := hr2 k (cell (xs[k]'(by omega))) (by simp [hlen, hlt])
        rw [Nat.zero_add, hv] at this
        exact this
      clear hv hr2
      have i1 : (k : Int) < (n : Int) := by omega
      have i2 : (0 : Int) ≤ (k : Int) := by omega
      go_wp2
      go_quiet (fail)
      go_wp2
      go_roundw
      case rel => exact ⟨k + 1, by omega, by go_num, _, rfl⟩
      case measure => simp [intOf]; omega
    · go_wp2
      go_ret
      exact ⟨rfl, below_drewN (Below.refl _ _) _⟩

end Go.Proofs.Qxb6612263aMods
