/- FnAppendHeaderForeignNetworkRefused (4): the walk. -/
import Derived.Test.Qxb6612263aModsBack
namespace Go.Proofs.Qxb6612263aMods
open Go.RowKit
open Extern.Stop (cell)

theorem eql23 (xs ys : List UInt8) (hx : xs.length = 8) (hy : ys.length = 8) (w : World) :
    (binOp .eql 23 (.agg (xs.map cell).toArray) (.agg (ys.map cell).toArray)).run Trym.prog w = .ok (.bool (xs == ys)) w := by
  rw [run_eql_struct, run_equalIn_bytes w 9998 23 5 8 Trym.underlying23 Trym.underlying5 size5 xs ys hx hy]
  rfl

theorem two_blocks {w W : World} {a b : List Value} {t1 t2 : TypeId} (hW : W = (w.alloc (.cells a.toArray t1)).alloc (.cells b.toArray t2)) :
    W.rangeAt w.heap.size 0 a ∧ W.rangeAt (w.heap.size + 1) 0 b ∧ W.heap.size = w.heap.size + 2 ∧ Below w.heap.size w W := by
  subst hW
  have h1 := rangeAt_new w a t1
  have h2 := rangeAt_new (w.alloc (.cells a.toArray t1)) b t2
  simp only [World.size_alloc] at h2
  exact ⟨World.rangeAt_alloc h1 _, h2, by simp, ((Below.refl _ _).alloc (Nat.le_refl _) _).alloc (by simp) _⟩

set_option maxHeartbeats 1000000 in
theorem foreign_no (a : Option Addr) (len cap : Nat) (t : Int) (id other : List UInt8) (w : World) (hid : id.length = 8) (ho : other.length = 8) (hl : 1048576 < len) :
    Calls Trym.prog 4 #[.slice a len cap, .int .u8 t, .agg (id.map cell).toArray, .agg (other.map cell).toArray] w fun e w' => e = .returned (.bool true) ∧ Below w.heap.size w w' := by
  have j1 : Hid ((Trym.prog.info? 23).map (·.size) = some (id.map cell).length) := by show _ = _; rw [info23]; simp [hid]
  have j2 : Hid ((Trym.prog.info? 23).map (·.size) = some (other.map cell).length) := by show _ = _; rw [info23]; simp [ho]
  go_enter Trym.func4, Trym.ntmps4
  go_wp2_with (first | (refine wpList_load_mid rfl 23 (.tmp 6) rfl _ _ rfl (id.map cell) _ ?_ Trym.underlying23 rfl j1.out ?_) | (refine wpList_load_mid rfl 23 (.tmp 7) rfl _ _ rfl (other.map cell) _ ?_ Trym.underlying23 rfl j2.out ?_))
  · exact (two_blocks rfl).1
  · exact (two_blocks rfl).2.1
  refine calls_any ?_
  intro W0 hW0
  obtain ⟨f1, f2, f3, f4⟩ := two_blocks hW0
  clear hW0
  refine (zzBytes13_no a len cap t _ _ W0 hl).mono ?_
  rintro e w1 ⟨rfl, b1⟩
  have B1 : Hid (Below w.heap.size w w1) := f4.trans (b1.mono (by omega))
  clear b1 f1 f2 f3 f4 W0
  go_wp2
  go_ret
  exact ⟨rfl, B1.out⟩

set_option maxHeartbeats 1000000 in
theorem foreign_same (a : Option Addr) (len cap : Nat) (xs : List UInt8) (t : UInt8) (id other : List UInt8) (w : World) (hb : IsBytes w a len cap xs) (hxs : xs.length = len) (hid : id.length = 8) (ho : other.length = 8) (hl : len ≤ 1048576) (hne : (id == other) = true) :
    Calls Trym.prog 4 #[.slice a len cap, .int .u8 t.toNat, .agg (id.map cell).toArray, .agg (other.map cell).toArray] w fun e w' => e = .returned (.bool true) ∧ Below w.heap.size w w' := by
  have j1 : Hid ((Trym.prog.info? 23).map (·.size) = some (id.map cell).length) := by show _ = _; rw [info23]; simp [hid]
  have j2 : Hid ((Trym.prog.info? 23).map (·.size) = some (other.map cell).length) := by show _ = _; rw [info23]; simp [ho]
  have hli : (len : Int) ≤ 1048576 := by omega
  have e23 := eql23 id other hid ho
  go_enter Trym.func4, Trym.ntmps4
  go_wp2_with (first | (refine wpList_load_mid rfl 23 (.tmp 6) rfl _ _ rfl (id.map cell) _ ?_ Trym.underlying23 rfl j1.out ?_) | (refine wpList_load_mid rfl 23 (.tmp 7) rfl _ _ rfl (other.map cell) _ ?_ Trym.underlying23 rfl j2.out ?_))
  · exact (two_blocks rfl).1
  · exact (two_blocks rfl).2.1
  refine calls_any ?_
  intro W0 hW0
  obtain ⟨r0, s0, z0, b0⟩ := two_blocks hW0
  have i0 : IsBytes W0 a len cap xs := hb.below b0
  clear hW0 hb
  refine (zzBytes13_yes a len cap _ _ _ W0 hl).mono ?_
  rintro e w1 ⟨rfl, b1⟩
  have IB : Hid (IsBytes w1 a len cap xs) := i0.below b1
  have R1 : Hid (w1.rangeAt w.heap.size 0 (id.map cell)) := range_below b1 (by omega) r0
  have S1 : Hid (w1.rangeAt (w.heap.size + 1) 0 (other.map cell)) := range_below b1 (by omega) s0
  have B1 : Hid (Below w.heap.size w w1) := b0.trans (b1.mono (by omega))
  have z1 : w.heap.size + 2 ≤ w1.heap.size := by have := b1.size; omega
  clear r0 s0 b0 z0 i0 b1 W0
  go_wp2_with (first | (refine wpList_load_mid rfl 23 (.tmp 6) rfl _ _ rfl (id.map cell) _ ?_ Trym.underlying23 rfl j1.out ?_) | (refine wpList_load_mid rfl 23 (.tmp 7) rfl _ _ rfl (other.map cell) _ ?_ Trym.underlying23 rfl j2.out ?_))
  · exact R1.out
  · exact S1.out
  go_ret
  exact ⟨rfl, B1.out⟩

set_option maxHeartbeats 1000000 in
theorem foreign_yes (a : Option Addr) (len cap : Nat) (xs : List UInt8) (t : UInt8) (id other : List UInt8) (w : World) (hb : IsBytes w a len cap xs) (hxs : xs.length = len) (hid : id.length = 8) (ho : other.length = 8) (hl : len ≤ 1048576) (hne : (id == other) = false) :
    Calls Trym.prog 4 #[.slice a len cap, .int .u8 t.toNat, .agg (id.map cell).toArray, .agg (other.map cell).toArray] w fun e w' => e = .returned (.bool true) ∧ Below w.heap.size w w' := by
  have j1 : Hid ((Trym.prog.info? 23).map (·.size) = some (id.map cell).length) := by show _ = _; rw [info23]; simp [hid]
  have j2 : Hid ((Trym.prog.info? 23).map (·.size) = some (other.map cell).length) := by show _ = _; rw [info23]; simp [ho]
  have hli : (len : Int) ≤ 1048576 := by omega
  have e23 := eql23 id other hid ho
  go_enter Trym.func4, Trym.ntmps4
  go_wp2_with (first | (refine wpList_load_mid rfl 23 (.tmp 6) rfl _ _ rfl (id.map cell) _ ?_ Trym.underlying23 rfl j1.out ?_) | (refine wpList_load_mid rfl 23 (.tmp 7) rfl _ _ rfl (other.map cell) _ ?_ Trym.underlying23 rfl j2.out ?_))
  · exact (two_blocks rfl).1
  · exact (two_blocks rfl).2.1
  refine calls_any ?_
  intro W0 hW0
  obtain ⟨r0, s0, z0, b0⟩ := two_blocks hW0
  have i0 : IsBytes W0 a len cap xs := hb.below b0
  clear hW0 hb
  refine (zzBytes13_yes a len cap _ _ _ W0 hl).mono ?_
  rintro e w1 ⟨rfl, b1⟩
  have IB : Hid (IsBytes w1 a len cap xs) := i0.below b1
  have R1 : Hid (w1.rangeAt w.heap.size 0 (id.map cell)) := range_below b1 (by omega) r0
  have S1 : Hid (w1.rangeAt (w.heap.size + 1) 0 (other.map cell)) := range_below b1 (by omega) s0
  have B1 : Hid (Below w.heap.size w w1) := b0.trans (b1.mono (by omega))
  have z1 : w.heap.size + 2 ≤ w1.heap.size := by have := b1.size; omega
  clear r0 s0 b0 z0 i0 b1 W0
  go_wp2_with (first | (refine wpList_load_mid rfl 23 (.tmp 6) rfl _ _ rfl (id.map cell) _ ?_ Trym.underlying23 rfl j1.out ?_) | (refine wpList_load_mid rfl 23 (.tmp 7) rfl _ _ rfl (other.map cell) _ ?_ Trym.underlying23 rfl j2.out ?_))
  · exact R1.out
  · exact S1.out
  refine (clone_any a len cap xs w1 IB.out hl).mono ?_
  rintro e w2 ⟨a', rfl, c1, c2, c3, b2⟩
  have R2 : Hid (w2.rangeAt w.heap.size 0 (id.map cell)) := range_below b2 (by omega) R1.out
  have S2 : Hid (w2.rangeAt (w.heap.size + 1) 0 (other.map cell)) := range_below b2 (by omega) S1.out
  have B2 : Hid (Below w.heap.size w w2) := B1.out.trans (b2.mono (by omega))
  have z2 : w.heap.size + 2 ≤ w2.heap.size := by have := b2.size; omega
  have C1 : Hid (a' = none → len = 0) := c1
  have C2 : Hid (0 < len → ∃ g, a' = some ⟨g, 0, none⟩ ∧ g < w2.heap.size ∧ w2.rangeAt g 0 (xs.map cell)) := c2
  have C3 : Hid (∀ b, a' = some b → ∀ j u, (xs.map cell)[j]? = some u → w2.cell? (b.add j) = some u) := c3
  clear c1 c2 c3 b2 B1 R1 S1 IB z1
  go_wp2_with (refine wpList_load_mid rfl 23 (.tmp 6) rfl _ _ rfl (id.map cell) _ ?_ Trym.underlying23 rfl j1.out ?_)
  · exact R2.out
  refine (zzAppendHeader_any a' len xs id t w2 C1.out hxs C3.out hid hl).mono ?_
  rintro e w3 ⟨g, cap3, rfl, o3, b3⟩
  have hcap : len + 10 ≤ cap3 := by
    obtain ⟨_, h | ⟨g', cap', cur, e1, e2, e3, e4, _⟩⟩ := o3
    · simp at h
    · simp at e1; omega
  have hg3 : g < w3.heap.size := (o3.lt g rfl).2
  have Q3 : w3.rangeAt g 0 ((xs ++ (1 :: t :: id)).map cell) := fun j v hv => by
    have := o3.cells (g := g) rfl j v hv
    rw [Addr.add_mid] at this
    exact this
  have P3 : Hid (w3.rangeAt g 0 (xs.map cell)) := by show World.rangeAt _ _ _ _; rw [List.map_append] at Q3; exact range_prefix Q3
  have R3 : Hid (w3.rangeAt g len ((1 :: t :: (id ++ [])).map cell)) := by
    have h : w3.rangeAt g 0 ((xs ++ ((1 :: t :: id) ++ [])).map cell) := by simpa using Q3
    have := range_mid h
    show World.rangeAt _ _ _ _
    simpa [hxs] using this
  have D3 : Hid (0 < len → ∃ g, a' = some ⟨g, 0, none⟩ ∧ w3.rangeAt g 0 (xs.map cell)) := fun h => by
    obtain ⟨g', e1, e2, e3⟩ := C2.out h
    exact ⟨g', e1, range_below b3 e2 e3⟩
  have F3 : Hid (w3.rangeAt w.heap.size 0 (id.map cell)) := range_below b3 (by omega) R2.out
  have S3 : Hid (w3.rangeAt (w.heap.size + 1) 0 (other.map cell)) := range_below b3 (by omega) S2.out
  have B3 : Hid (Below w.heap.size w w3) := B2.out.trans (b3.mono (by omega))
  have z3 : w.heap.size + 2 ≤ w3.heap.size := by have := b3.size; omega
  clear o3 Q3 b3 B2 R2 S2 C1 C2 C3 z2
  have k1 : ((len : Int) + 10) ≤ (cap3 : Int) := by omega
  have k2 : (len : Int) ≤ (cap3 : Int) := by omega
  go_wp2_with fail
  refine (eq_any g len cap3 len a' xs w3 hxs P3.out D3.out hl).mono ?_
  rintro e w4 ⟨rfl, b4⟩
  have R4 : Hid (w4.rangeAt g len ((1 :: t :: (id ++ [])).map cell)) := range_below b4 hg3 R3.out
  have F4 : Hid (w4.rangeAt w.heap.size 0 (id.map cell)) := range_below b4 (by omega) F3.out
  have S4 : Hid (w4.rangeAt (w.heap.size + 1) 0 (other.map cell)) := range_below b4 (by omega) S3.out
  have B4 : Hid (Below w.heap.size w w4) := B3.out.trans (b4.mono (by omega))
  have z4 : w.heap.size + 2 ≤ w4.heap.size := by have := b4.size; omega
  have hg4 : g < w4.heap.size := by have := b4.size; omega
  clear b4 P3 D3 R3 F3 S3 B3 z3 hg3
  have k3 : ¬ cap3 = len := by omega
  have k4 : (0 : Int) ≤ (len : Int) := by omega
  have k5 : (len : Int) ≤ (len : Int) + 10 := by omega
  go_wp2_with (refine wpList_load_mid rfl 23 (.tmp 6) rfl _ _ rfl (id.map cell) _ ?_ Trym.underlying23 rfl j1.out ?_)
  · exact F4.out
  refine (zzReadHeader_ok g len (cap3 - len) t id w4 R4.out hid (by omega)).mono ?_
  rintro e w5 ⟨rfl, b5⟩
  have R5 : Hid (w5.rangeAt g len ((1 :: t :: (id ++ [])).map cell)) := range_below b5 hg4 R4.out
  have S5 : Hid (w5.rangeAt (w.heap.size + 1) 0 (other.map cell)) := range_below b5 (by omega) S4.out
  have B5 : Hid (Below w.heap.size w w5) := B4.out.trans (b5.mono (by omega))
  have z5 : w.heap.size + 2 ≤ w5.heap.size := by have := b5.size; omega
  clear b5 R4 S4 F4 B4 z4 hg4
  go_wp2_with (refine wpList_load_mid rfl 23 (.tmp 7) rfl _ _ rfl (other.map cell) _ ?_ Trym.underlying23 rfl j2.out ?_)
  · exact S5.out
  refine (zzReadHeader_no g len (cap3 - len) t id other w5 R5.out ho hid hne (by omega)).mono ?_
  rintro e w6 ⟨rfl, b6⟩
  have HF : Hid (Below w.heap.size w w6) := B5.out.trans (b6.mono (by omega))
  clear b6 R5 S5 B5
  go_wp2
  go_ret
  exact ⟨rfl, HF.out⟩

end Go.Proofs.Qxb6612263aMods
