/- FnAppendHeaderReadsBack (3): the walk. -/
import Derived.Test.Qxb6612263aModsSl
import Derived.Test.Qxb6612263aModsCookieWalk
namespace Go.Proofs.Qxb6612263aMods
open Go.RowKit
open Extern.Stop (cell)

theorem IsBytes.below {w w' : World} {a : Option Addr} {len cap : Nat} {xs : List UInt8} (h : IsBytes w a len cap xs) (hb : Below w.heap.size w w') : IsBytes w' a len cap xs := by
  rcases h with h | ⟨x, h1, h2, h3, h4, h5⟩
  · exact .inl h
  · exact .inr ⟨x, h1, h2, h3, h4, fun i u hu => by
      have h := h5 i u hu
      rw [← h]
      exact hb.cell (block_lt_of_cell h)⟩

theorem clone_any (a : Option Addr) (len cap : Nat) (xs : List UInt8) (w : World) (h : IsBytes w a len cap xs) (hn : len ≤ 1048576) :
    Calls Trym.prog 9 #[.slice a len cap] w fun e w' => ∃ a', e = .returned (.slice a' len len) ∧ (a' = none → len = 0) ∧ (0 < len → ∃ g, a' = some ⟨g, 0, none⟩ ∧ g < w'.heap.size ∧ w'.rangeAt g 0 (xs.map cell)) ∧
      (∀ b, a' = some b → ∀ j u, (xs.map cell)[j]? = some u → w'.cell? (b.add j) = some u) ∧ Below w.heap.size w w' := by
  rcases h with ⟨rfl, rfl, rfl, rfl⟩ | ⟨x, rfl, h2, _, h4, h5⟩
  · refine (clone_nil w).mono ?_
    rintro e w' ⟨rfl, rfl⟩
    exact ⟨none, rfl, fun _ => rfl, fun h => by omega, (by simp), Below.refl _ _⟩
  · refine (clone_some x len cap xs w h4 h2 h5 hn).mono ?_
    rintro e w' ⟨g, rfl, hg, hb⟩
    have hr : w'.rangeAt g 0 (xs.map cell) := fun j v hv => by
      rw [Nat.zero_add, cell_of_row _ _ _ _ _ _ hg]
      simpa using hv
    refine ⟨_, rfl, (by simp), fun _ => ⟨g, rfl, ?_, hr⟩, ?_, hb⟩
    · have := (Array.getElem?_eq_some_iff.1 hg).1
      exact this
    · intro b hb' j u hu
      simp at hb'
      subst hb'
      exact news_of_range hr j u hu

theorem zzReadHeader_ok (g off cap : Nat) (t : UInt8) (id : List UInt8) (w : World) (hx : w.rangeAt g off ((1 :: t :: (id ++ [])).map cell)) (hid : id.length = 8) (hcap : 10 ≤ cap) :
    Calls Trym.prog 12 #[.slice (some ⟨g, off, none⟩) 10 cap, .agg (id.map cell).toArray] w fun e w' => e = .returned (.tuple #[.int .u8 t.toNat, .bool true]) ∧ Below w.heap.size w w' :=
  zzReadHeader_any g off 10 cap t true _ id w hid hx (fun W hW => readHeader_ok g off 10 cap t id [] W hW hid rfl (by omega) hcap)

theorem zzReadHeader_no (g off cap : Nat) (t : UInt8) (ida id : List UInt8) (w : World) (hx : w.rangeAt g off ((1 :: t :: (ida ++ [])).map cell)) (hid : id.length = 8) (hida : ida.length = 8) (hne : (ida == id) = false) (hcap : 10 ≤ cap) :
    Calls Trym.prog 12 #[.slice (some ⟨g, off, none⟩) 10 cap, .agg (id.map cell).toArray] w fun e w' => e = .returned (.tuple #[.int .u8 0, .bool false]) ∧ Below w.heap.size w w' :=
  zzReadHeader_any g off 10 cap 0 false _ id w hid hx (fun W hW => readHeader_no g off 10 cap t ida id [] W hW hid hida hne rfl (by omega) hcap)

set_option maxHeartbeats 1000000 in
theorem back_no (a : Option Addr) (len cap : Nat) (t : Int) (id : List UInt8) (w : World) (hid : id.length = 8) (hl : 1048576 < len) :
    Calls Trym.prog 3 #[.slice a len cap, .int .u8 t, .agg (id.map cell).toArray] w fun e w' => e = .returned (.bool true) ∧ Below w.heap.size w w' := by
  have j23 : Hid ((Trym.prog.info? 23).map (·.size) = some (id.map cell).length) := by show _ = _; rw [info23]; simp [hid]
  go_enter Trym.func3, Trym.ntmps3
  go_wp2_with (refine wpList_load_mid rfl 23 (.tmp 5) rfl _ _ rfl (id.map cell) _ ?_ Trym.underlying23 rfl j23.out ?_)
  · exact rangeAt_new _ _ _
  refine (zzBytes8_no a len cap t _ _ hl).mono ?_
  rintro e w1 ⟨rfl, b1⟩
  have B1 : Hid (Below w.heap.size w w1) := ((Below.refl _ _).alloc (Nat.le_refl _) _).trans (b1.mono (by simp))
  clear b1
  go_wp2
  go_ret
  exact ⟨rfl, B1.out⟩

set_option maxHeartbeats 1000000 in
theorem back_yes (a : Option Addr) (len cap : Nat) (xs : List UInt8) (t : UInt8) (id : List UInt8) (w : World) (hb : IsBytes w a len cap xs) (hxs : xs.length = len) (hid : id.length = 8) (hl : len ≤ 1048576) :
    Calls Trym.prog 3 #[.slice a len cap, .int .u8 t.toNat, .agg (id.map cell).toArray] w fun e w' => e = .returned (.bool true) ∧ Below w.heap.size w w' := by
  have j23 : Hid ((Trym.prog.info? 23).map (·.size) = some (id.map cell).length) := by show _ = _; rw [info23]; simp [hid]
  have hli : (len : Int) ≤ 1048576 := by omega
  go_enter Trym.func3, Trym.ntmps3
  go_wp2_with (refine wpList_load_mid rfl 23 (.tmp 5) rfl _ _ rfl (id.map cell) _ ?_ Trym.underlying23 rfl j23.out ?_)
  · exact rangeAt_new _ _ _
  refine calls_any ?_
  intro W0 hW0
  have r0 : W0.rangeAt w.heap.size 0 (id.map cell) := by rw [hW0]; exact rangeAt_new _ _ _
  have b0 : Below w.heap.size w W0 := by rw [hW0]; exact (Below.refl _ _).alloc (Nat.le_refl _) _
  have z0 : W0.heap.size = w.heap.size + 1 := by rw [hW0]; simp
  have i0 : IsBytes W0 a len cap xs := hb.below b0
  clear hW0 hb
  refine (zzBytes8_yes a len cap _ _ W0 hl).mono ?_
  rintro e w1 ⟨rfl, b1⟩
  have IB : Hid (IsBytes w1 a len cap xs) := i0.below b1
  have R1 : Hid (w1.rangeAt w.heap.size 0 (id.map cell)) := range_below b1 (by omega) r0
  have B1 : Hid (Below w.heap.size w w1) := b0.trans (b1.mono (by omega))
  have z1 : w.heap.size + 1 ≤ w1.heap.size := by have := b1.size; omega
  clear r0 b0 z0 i0 b1 W0
  go_wp2_with fail
  refine (clone_any a len cap xs w1 IB.out hl).mono ?_
  rintro e w2 ⟨a', rfl, c1, c2, c3, b2⟩
  have R2 : Hid (w2.rangeAt w.heap.size 0 (id.map cell)) := range_below b2 (by omega) R1.out
  have B2 : Hid (Below w.heap.size w w2) := B1.out.trans (b2.mono (by omega))
  have z2 : w.heap.size + 1 ≤ w2.heap.size := by have := b2.size; omega
  have C1 : Hid (a' = none → len = 0) := c1
  have C2 : Hid (0 < len → ∃ g, a' = some ⟨g, 0, none⟩ ∧ g < w2.heap.size ∧ w2.rangeAt g 0 (xs.map cell)) := c2
  have C3 : Hid (∀ b, a' = some b → ∀ j u, (xs.map cell)[j]? = some u → w2.cell? (b.add j) = some u) := c3
  clear c1 c2 c3 b2 B1 R1 IB z1
  go_wp2_with (refine wpList_load_mid rfl 23 (.tmp 5) rfl _ _ rfl (id.map cell) _ ?_ Trym.underlying23 rfl j23.out ?_)
  · exact R2.out
  refine (zzAppendHeader_any a' len xs id t w2 C1.out hxs C3.out hid hl).mono ?_
  rintro e w3 ⟨g, cap3, rfl, o3, b3⟩
  have hcap : len + 10 ≤ cap3 := by
    obtain ⟨_, h | ⟨g', cap', cur, e1, e2, e3, e4, _⟩⟩ := o3
    · simp at h
    · simp at e1; omega
  have hg3 : g < w3.heap.size := (o3.lt g rfl).2
  have Q3 : w3.rangeAt g 0 ((xs ++ (1 :: t :: id)).map cell) := fun j v hv => by
    have := o3.cells (g := g) rfl j v hv
    rw [Addr.add_mid] at this
    exact this
  have P3 : Hid (w3.rangeAt g 0 (xs.map cell)) := by show World.rangeAt _ _ _ _; rw [List.map_append] at Q3; exact range_prefix Q3
  have R3 : Hid (w3.rangeAt g len ((1 :: t :: (id ++ [])).map cell)) := by
    have h : w3.rangeAt g 0 ((xs ++ ((1 :: t :: id) ++ [])).map cell) := by simpa using Q3
    have := range_mid h
    show World.rangeAt _ _ _ _
    simpa [hxs] using this
  have D3 : Hid (0 < len → ∃ g, a' = some ⟨g, 0, none⟩ ∧ w3.rangeAt g 0 (xs.map cell)) := fun h => by
    obtain ⟨g', e1, e2, e3⟩ := C2.out h
    exact ⟨g', e1, range_below b3 e2 e3⟩
  have F3 : Hid (w3.rangeAt w.heap.size 0 (id.map cell)) := range_below b3 (by omega) R2.out
  have B3 : Hid (Below w.heap.size w w3) := B2.out.trans (b3.mono (by omega))
  have z3 : w.heap.size + 1 ≤ w3.heap.size := by have := b3.size; omega
  clear o3 Q3 b3 B2 R2 C1 C2 C3 z2
  have k1 : ((len : Int) + 10) ≤ (cap3 : Int) := by omega
  have k2 : (len : Int) ≤ (cap3 : Int) := by omega
  go_wp2_with fail
  refine (eq_any g len cap3 len a' xs w3 hxs P3.out D3.out hl).mono ?_
  rintro e w4 ⟨rfl, b4⟩
  have R4 : Hid (w4.rangeAt g len ((1 :: t :: (id ++ [])).map cell)) := range_below b4 hg3 R3.out
  have F4 : Hid (w4.rangeAt w.heap.size 0 (id.map cell)) := range_below b4 (by omega) F3.out
  have B4 : Hid (Below w.heap.size w w4) := B3.out.trans (b4.mono (by omega))
  have z4 : w.heap.size + 1 ≤ w4.heap.size := by have := b4.size; omega
  have hg4 : g < w4.heap.size := by have := b4.size; omega
  clear b4 P3 D3 R3 F3 B3 z3 hg3
  have k3 : ¬ cap3 = len := by omega
  have k4 : (0 : Int) ≤ (len : Int) := by omega
  have k5 : (len : Int) ≤ (len : Int) + 10 := by omega
  go_wp2
  refine wp_region_held_drew (S := fun w' => Below w4.heap.size w4 w') (by kernel_rfl) (Below.refl _ _).drew (fun hHeld => ?_)
  refine wpAnyH_take_at 0 (some 40) (v := ?_) rfl rfl (by kernel_rfl) (by kernel_rfl) (by kernel_rfl) (fun _ _ _ h => h) (Or.inl ⟨by rfl, ?_⟩) hHeld ?_
  rotate_left
  · intro w hSw; go_simp; with_reducible rfl
  simp only [Act.put, List.setIfInBounds_toArray, List.set_cons_zero, List.set_cons_succ]
  refine wpAnyH_take_at 1 (some 41) (v := ?_) rfl rfl (by kernel_rfl) (by kernel_rfl) (by kernel_rfl) (fun _ _ _ h => h) (Or.inl ⟨by rfl, ?_⟩) hHeld ?_
  rotate_left
  · intro w hSw; go_simp; with_reducible rfl
  simp only [Act.put, List.setIfInBounds_toArray, List.set_cons_zero, List.set_cons_succ]
  refine wpAnyH_take_at 2 (some 42) (v := ?_) rfl rfl (by kernel_rfl) (by kernel_rfl) (by kernel_rfl) (fun _ _ _ h => h) (Or.inl ⟨by rfl, ?_⟩) hHeld ?_
  rotate_left
  · intro w hSw; go_simp; with_reducible rfl
  simp only [Act.put, List.setIfInBounds_toArray, List.set_cons_zero, List.set_cons_succ]
  refine wpAnyH_take_at 3 (some 43) (v := ?_) rfl rfl (by kernel_rfl) (by kernel_rfl) (by kernel_rfl) (fun _ _ _ h => h) (Or.inl ⟨by rfl, ?_⟩) hHeld ?_
  rotate_left
  · intro w hSw; go_simp; with_reducible rfl
  simp only [Act.put, List.setIfInBounds_toArray, List.set_cons_zero, List.set_cons_succ]
  refine wpAnyH_take_at 4 (some 44) (v := _) rfl rfl (by kernel_rfl) (by kernel_rfl) (by kernel_rfl) (fun _ _ _ h => h) (yieldsIf_load_mid (by rfl) _ _ rfl _ _ rfl _ _ (fun w' h => range_below h (by omega) F4.out) Trym.underlying23 rfl j23.out) hHeld ?_
  simp only [Act.put, List.setIfInBounds_toArray, List.set_cons_zero, List.set_cons_succ]
  refine wpAnyH_ready (rs := [5]) (by kernel_rfl) (by simp) ?_
  refine AllReadyH.cons rfl (fun K hK => ?_) AllReadyH.nil
  go_simp
  refine (zzReadHeader_ok g len (cap3 - len) t id w4.drew (by simpa using R4.out) hid (by omega)).mono ?_
  rintro e w5 ⟨rfl, b5⟩
  have b5' : Below w4.heap.size w4 w5 := ((Below.refl _ _).drew).trans b5
  refine hK.out _ _ b5' (fun _ => ?_)
  clear hK K b5
  refine wpAnyH_take_at 6 (some 39) (v := ?_) rfl rfl (by kernel_rfl) (by kernel_rfl) (by kernel_rfl) (fun _ _ _ h => h) (Or.inl ⟨by rfl, ?_⟩) b5' ?_
  rotate_left
  · intro w hSw; go_simp; with_reducible rfl
  simp only [Act.put, List.setIfInBounds_toArray, List.set_cons_zero, List.set_cons_succ]
  refine wpAnyH_take_at 7 (some 46) (v := ?_) rfl rfl (by kernel_rfl) (by kernel_rfl) (by kernel_rfl) (fun _ _ _ h => h) (Or.inl ⟨by rfl, ?_⟩) b5' ?_
  rotate_left
  · intro w hSw; go_simp; with_reducible rfl
  simp only [Act.put, List.setIfInBounds_toArray, List.set_cons_zero, List.set_cons_succ]
  refine wpAnyH_take_at 8 (some 47) (v := ?_) rfl rfl (by kernel_rfl) (by kernel_rfl) (by kernel_rfl) (fun _ _ _ h => h) (Or.inl ⟨by rfl, ?_⟩) b5' ?_
  rotate_left
  · intro w hSw; go_simp; with_reducible rfl
  simp only [Act.put, List.setIfInBounds_toArray, List.set_cons_zero, List.set_cons_succ]
  refine wpAnyH_take_at 9 (some 8) (v := ?_) rfl rfl (by kernel_rfl) (by kernel_rfl) (by kernel_rfl) (fun _ _ _ h => h) (Or.inl ⟨by rfl, ?_⟩) b5' ?_
  rotate_left
  · intro w hSw; go_simp; with_reducible rfl
  simp only [Act.put, List.setIfInBounds_toArray, List.set_cons_zero, List.set_cons_succ]
  refine wpAnyH_take_at 10 (some 9) (v := ?_) rfl rfl (by kernel_rfl) (by kernel_rfl) (by kernel_rfl) (fun _ _ _ h => h) (Or.inl ⟨by rfl, ?_⟩) b5' ?_
  rotate_left
  · intro w hSw; go_simp; with_reducible rfl
  simp only [Act.put, List.setIfInBounds_toArray, List.set_cons_zero, List.set_cons_succ]
  refine wpAnyH_done (by kernel_rfl) ?_ _
  have HF : Hid (Below w.heap.size w w5) := B4.out.trans (b5'.mono (by omega))
  clear b5' B4 R4 F4
  go_wp2
  go_ret
  exact ⟨rfl, HF.out⟩

end Go.Proofs.Qxb6612263aMods
