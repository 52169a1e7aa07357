/- readCookie (20): contracts. -/
import Derived.Test.Qxb6612263aModsHead
import Derived.Test.Qxb6612263aModsReq
import Derived.Test.Qxb6612263aModsApp
namespace Go.Proofs.Qxb6612263aMods
open Go.RowKit
open Extern.Stop (cell)

theorem range_below {B : Nat} {w w' : World} (h : Below B w w') {b o : Nat} {cs : List Value} (hb : b < B) (hr : w.rangeAt b o cs) : w'.rangeAt b o cs :=
  fun j v hv => (h.cell (p := ⟨b, o + j, none⟩) hb).trans (hr j v hv)

theorem there_below {B : Nat} {w w' : World} (h : Below B w w') {b o n : Nat} (hb : b < B) (hr : w.there b o n) : w'.there b o n := fun j hj => by
  rw [h.cell (p := ⟨b, o + j, none⟩) hb, h.frozen (p := ⟨b, o + j, none⟩) hb]
  exact hr j hj

theorem results_cell_tmp_mid {P : Program} {fn : Func} {p q : Tmp} {ty : TypeId} (h : fn.results = #[.cell p ty, .tmp q]) (tmps : Array Value) (w : World) (g off : Nat) (cs : List Value) (d : TypeDesc) (v : Value)
    (hp : tmps.getD p undef = .pointer (some ⟨g, off, none⟩)) (hq : tmps.getD q undef = v) (hc : w.rangeAt g off cs) (hu : P.underlying ty = some d) (hd : d.isRow = true) (hi : (P.info? ty).map (·.size) = some cs.length) :
    (results fn tmps).run P w = .ok (.tuple #[.agg cs.toArray, v]) w := by
  have hp' : tmps[p]?.getD undef = .pointer (some ⟨g, off, none⟩) := by simpa using hp
  have hq' : tmps[q]?.getD undef = v := by simpa using hq
  simp [results, h, hp', hq', asAddr, run_loadVar_mid w g off ty cs d hc hu hd hi]

theorem eql45 (xs ys : List UInt8) (hx : xs.length = 16) (hy : ys.length = 16) (w : World) :
    (binOp .eql 45 (.agg (xs.map cell).toArray) (.agg (ys.map cell).toArray)).run Trym.prog w = .ok (.bool (xs == ys)) w := by
  rw [run_eql_struct, run_equalIn_bytes w 9998 45 5 16 Trym.underlying45 Trym.underlying5 size5 xs ys hx hy]
  rfl

theorem wp_any {P : Program} {c : Code} {Q : Exit → Act → World → Prop} {a : Act} {w : World} (h : ∀ W1, W1 = w → Code.wp P c Q a W1) : Code.wp P c Q a w := h _ rfl
theorem calls_named3 {P : Program} {f : FuncId} {args : Array Value} {Q : Ending → World → Prop} {w : World} {o1 o2 o3 : Obj} (h : ∀ W1, W1 = ((w.alloc o1).alloc o2).alloc o3 → Calls P f args W1 Q) : Calls P f args (((w.alloc o1).alloc o2).alloc o3) Q := h _ rfl

/-- What three new blocks hold. -/
theorem three_new {w W : World} {a b : List Value} {c : Array Value} {t1 t2 t3 : TypeId} (hW : W = ((w.alloc (.cells a.toArray t1)).alloc (.cells b.toArray t2)).alloc (.cells c t3)) (k : Nat) (hk : c.size = k) {g off : Nat} {xs : List Value} (hx : w.rangeAt g off xs) :
    W.rangeAt g off xs ∧ W.rangeAt w.heap.size 0 a ∧ W.rangeAt (w.heap.size + 1) 0 b ∧ W.there (w.heap.size + 2) 0 k ∧ W.heap.size = w.heap.size + 3 ∧ Below w.heap.size w W := by
  subst hW
  have e1 : (w.alloc (.cells a.toArray t1)).heap.size = w.heap.size + 1 := by simp
  have e2 : ((w.alloc (.cells a.toArray t1)).alloc (.cells b.toArray t2)).heap.size = w.heap.size + 2 := by simp
  refine ⟨World.rangeAt_alloc (World.rangeAt_alloc (World.rangeAt_alloc hx _) _) _, World.rangeAt_alloc (World.rangeAt_alloc (rangeAt_new _ _ _) _) _, ?_, ?_, by simp, ?_⟩
  · have h := rangeAt_new (w.alloc (.cells a.toArray t1)) b t2
    rw [e1] at h
    exact World.rangeAt_alloc h _
  · have h := there_new ((w.alloc (.cells a.toArray t1)).alloc (.cells b.toArray t2)) c.toList t3
    rw [e2] at h
    simpa [hk] using h
  · exact (((Below.refl _ _).alloc (Nat.le_refl _) _).alloc (by simp) _).alloc (by simp; omega) _

set_option maxHeartbeats 400000 in
theorem readCookie_ok (g off cap : Nat) (id n c n0 : List UInt8) (w : World) (hx : w.rangeAt g off ((1 :: 8 :: (id ++ (n ++ c))).map cell))
    (hid : id.length = 8) (hn : n.length = 16) (hc : c.length = 16) (hn0 : n0.length = 16) (hcap : 42 ≤ cap) :
    Calls Trym.prog 20 #[.slice (some ⟨g, off, none⟩) 42 cap, .agg (id.map cell).toArray, .agg (n0.map cell).toArray] w fun e w' => e = .returned (.tuple #[.agg (c.map cell).toArray, .bool (n == n0)]) ∧ Below w.heap.size w w' := by
  have hlt : g < w.heap.size := by simpa using block_lt_of_cell (hx 0 (cell 1) (by simp))
  go_enter Trym.func20, Trym.ntmps20
  go_wp2_with (refine wpList_load_mid rfl 39 (.tmp 4) rfl _ _ rfl (id.map cell) _ ?_ Trym.underlying39 rfl ?_ ?_)
  · exact World.rangeAt_alloc (World.rangeAt_alloc (rangeAt_new _ _ _) _) _
  · rw [info39]; simp [hid]
  refine calls_named3 ?_
  intro W0 hW0
  obtain ⟨f1, f2, f3, f4, f5, f6⟩ := three_new hW0 16 rfl hx
  clear hW0 hx
  refine (readHeader_ok g off 42 cap 8 id (n ++ c) W0 f1 hid (by simp [hn, hc]) (by omega) hcap).mono ?_
  rintro e w1 ⟨rfl, b1⟩
  have g1 := range_below b1 (by omega) f1
  have g3 := range_below b1 (by omega) f3
  have g4 := there_below b1 (by omega) f4
  have hz1 : w.heap.size + 3 ≤ w1.heap.size := by have := b1.size; omega
  have G6 : Hid (Below w.heap.size w w1) := f6.trans (b1.mono (by omega))
  have GA : Hid (w1.rangeAt g off ((1 :: 8 :: (id ++ (n ++ c))).map cell) ∧ w1.rangeAt (w.heap.size + 1) 0 (n0.map cell) ∧ w1.there (w.heap.size + 2) 0 16) := ⟨g1, g3, g4⟩
  clear b1 f1 f2 f3 f4 f5 f6 g1 g3 g4 W0
  go_wp2_with fail
  refine (readRequestHead_any g off cap (1 :: 8 :: id) n c w1 GA.out.1 (by simp [hid]) hn hc hcap (by omega)).mono ?_
  rintro e w2 ⟨rfl, b2⟩
  have hz2 : w1.heap.size ≤ w2.heap.size := b2.size
  have HA : Hid (Below w.heap.size w w2 ∧ w2.rangeAt (w.heap.size + 1) 0 (n0.map cell) ∧ w2.there (w.heap.size + 2) 0 16) :=
    ⟨G6.out.trans (b2.mono (by omega)), range_below b2 (by omega) GA.out.2.1, there_below b2 (by omega) GA.out.2.2⟩
  clear b2 G6 GA
  obtain ⟨nc, hnc⟩ : ∃ nc, nc = n ++ c := ⟨_, rfl⟩
  rw [← hnc]
  have HN : Hid (nc = n ++ c) := hnc
  have hi3 : Hid ((Trym.prog.info? 49).map (·.size) = some (nc.map cell).toArray.size) := by show _ = _; rw [info49, hnc]; simp [hn, hc]
  have hl3 : Hid ((nc.map cell).toArray.size = 32) := by show _ = _; rw [hnc]; simp [hn, hc]
  clear hnc
  go_wp2_with (refine wpList_store_mid rfl 49 (.tmp 10) (.tmp 30) rfl _ _ (nc.map cell).toArray rfl rfl ?_ hi3.out (all_oneCell_toArray (bytes_one _)) ?_)
  · rw [hl3.out]; exact there_new w2 _ 49
  refine wp_any ?_
  intro W4 hW4
  simp only [Act.put]
  have T0 := there_new w2 (List.replicate 32 (Value.int .u8 0)) 49
  have q0 : W4.rangeAt w2.heap.size 0 (nc.map cell) := by
    rw [hW4]
    refine World.rangeAt_setCells_same _ _ _ _ ?_
    have e : (nc.map cell).length = 32 := by simpa using hl3.out
    rw [e]
    exact T0
  have r0 : W4.rangeAt w2.heap.size 0 (n.map cell) := by
    rw [HN.out] at q0
    have h : W4.rangeAt w2.heap.size 0 (([] ++ (n ++ c)).map cell) := q0
    exact range_mid h
  have r1 : W4.rangeAt w2.heap.size 16 (c.map cell) := by
    rw [HN.out] at q0
    have h : W4.rangeAt w2.heap.size 0 ((n ++ (c ++ [])).map cell) := by simpa using q0
    have := range_mid h
    simpa [hn] using this
  have r2 : W4.rangeAt (w.heap.size + 1) 0 (n0.map cell) := by
    rw [hW4]
    exact World.rangeAt_setCells_apart (World.rangeAt_alloc HA.out.2.1 _) _ _ _ (by omega)
  have t0 : W4.there (w.heap.size + 1 + 1) 0 16 := by
    rw [hW4]
    exact World.there_setCells (World.there_alloc HA.out.2.2 _) _ _ _
  have HB : Hid (Below w.heap.size w W4) := by
    show Below _ _ _
    rw [hW4]
    exact below_setCells _ _ _ (HA.out.1.alloc (by omega) _) (by omega)
  clear hW4 T0 q0 HA hl3 hi3 HN
  have eq := eql45 n n0 hn hn0
  have hi1 : (Trym.prog.info? 45).map (·.size) = some (n.map cell).length := by rw [info45]; simp [hn]
  have hi1' : (Trym.prog.info? 45).map (·.size) = some (n0.map cell).length := by rw [info45]; simp [hn0]
  have hi2 : (Trym.prog.info? 42).map (·.size) = some (c.map cell).length := by rw [info42]; simp [hc]
  have hu1 := Trym.underlying45
  have hu2 := Trym.underlying42
  have hM : w.heap.size + 3 ≤ w2.heap.size := by omega
  generalize w2.heap.size = M at *
  refine wp_region_held_drew (S := fun w' => w'.rangeAt M 0 (n.map cell) ∧ w'.rangeAt M 16 (c.map cell) ∧ w'.rangeAt (w.heap.size + 1) 0 (n0.map cell) ∧ w'.there (w.heap.size + 1 + 1) 0 16) (by kernel_rfl) ⟨by simpa using r0, by simpa using r1, by simpa using r2, by simpa using t0⟩ (fun hHeld => ?_)
  refine wpAnyH_take_at 0 (some 31) (v := ?_) rfl rfl (by kernel_rfl) (by kernel_rfl) (by kernel_rfl) (fun _ _ _ h => h) (Or.inl ⟨by rfl, ?_⟩) hHeld ?_
  rotate_left
  · intro w hSw; go_simp; with_reducible rfl
  simp only [Act.put, List.setIfInBounds_toArray, List.set_cons_zero, List.set_cons_succ]
  refine wpAnyH_take_at 1 (some 32) (v := _) rfl rfl (by kernel_rfl) (by kernel_rfl) (by kernel_rfl) (fun _ _ _ h => h) (yieldsIf_load_mid (by rfl) _ _ rfl _ _ rfl _ _ (fun w' h => h.2.1) hu2 rfl hi2) hHeld ?_
  simp only [Act.put, List.setIfInBounds_toArray, List.set_cons_zero, List.set_cons_succ]
  refine wpAnyH_take_at 2 (some 33) (v := ?_) rfl rfl (by kernel_rfl) (by kernel_rfl) (by kernel_rfl) (fun _ _ _ h => h) (Or.inl ⟨by rfl, ?_⟩) hHeld ?_
  rotate_left
  · intro w hSw; go_simp; with_reducible rfl
  simp only [Act.put, List.setIfInBounds_toArray, List.set_cons_zero, List.set_cons_succ]
  refine wpAnyH_take_at 3 (some 34) (v := _) rfl rfl (by kernel_rfl) (by kernel_rfl) (by kernel_rfl) (fun _ _ _ h => h) (yieldsIf_load_mid (by rfl) _ _ rfl _ _ rfl _ _ (fun w' h => h.1) hu1 rfl hi1) hHeld ?_
  simp only [Act.put, List.setIfInBounds_toArray, List.set_cons_zero, List.set_cons_succ]
  refine wpAnyH_take_at 4 (some 35) (v := _) rfl rfl (by kernel_rfl) (by kernel_rfl) (by kernel_rfl) (fun _ _ _ h => h) (yieldsIf_load_mid (by rfl) _ _ rfl _ _ rfl _ _ (fun w' h => h.2.2.1) hu1 rfl hi1') hHeld ?_
  simp only [Act.put, List.setIfInBounds_toArray, List.set_cons_zero, List.set_cons_succ]
  refine wpAnyH_take_at 5 (some 36) (v := ?_) rfl rfl (by kernel_rfl) (by kernel_rfl) (by kernel_rfl) (fun _ _ _ h => h) (Or.inl ⟨by rfl, ?_⟩) hHeld ?_
  rotate_left
  · intro w hSw; go_simp; with_reducible rfl
  simp only [Act.put, List.setIfInBounds_toArray, List.set_cons_zero, List.set_cons_succ]
  have hl3 : (c.map cell).length = 16 := by simp [hc]
  have t2 : W4.drew.there (w.heap.size + 1 + 1) 0 (c.map cell).length := by rw [hl3]; exact hHeld.2.2.2
  have hS2 : (fun w' : World => w'.rangeAt M 0 (n.map cell) ∧ w'.rangeAt M 16 (c.map cell) ∧ w'.rangeAt (w.heap.size + 1) 0 (n0.map cell) ∧ w'.there (w.heap.size + 1 + 1) 0 16) (W4.drew.setCells (w.heap.size + 1 + 1) 0 (c.map cell)) :=
    ⟨World.rangeAt_setCells_apart hHeld.1 _ _ _ (by omega), World.rangeAt_setCells_apart hHeld.2.1 _ _ _ (by omega), World.rangeAt_setCells_apart hHeld.2.2.1 _ _ _ (by omega), World.there_setCells hHeld.2.2.2 _ _ _⟩
  refine wpAnyH_store_last 6 rfl rfl (by kernel_rfl) (by rfl) 42 (.tmp 6) (.tmp 32) rfl _ _ (c.map cell) rfl rfl t2 hi2 (bytes_one _) ?_ ?_
  · exact hS2
  refine wpAnyH_take_at 7 (some 7) (v := ?_) rfl rfl (by kernel_rfl) (by kernel_rfl) (by kernel_rfl) (fun _ _ _ h => h) (Or.inl ⟨by rfl, ?_⟩) hS2 ?_
  rotate_left
  · intro w hSw; go_simp; with_reducible rfl
  simp only [Act.put, List.setIfInBounds_toArray, List.set_cons_zero, List.set_cons_succ]
  refine wpAnyH_done (by kernel_rfl) ?_ _
  have HR := World.rangeAt_setCells_same W4.drew (w.heap.size + 1 + 1) 0 (c.map cell) t2
  have HE : Hid (Below w.heap.size w (W4.drew.setCells (w.heap.size + 1 + 1) 0 (c.map cell))) := below_setCells _ _ _ HB.out.drew (by omega)
  generalize W4.drew.setCells (w.heap.size + 1 + 1) 0 (c.map cell) = W5 at *
  clear t2 hHeld hS2 t0 r0 r1 r2 HB
  go_wp2
  exact bodyPost_ret (v := .tuple #[.agg (c.map cell).toArray, .bool (n == n0)]) (results_cell_tmp_mid Trym.results20 _ _ _ _ _ _ _ rfl rfl HR hu2 rfl hi2) rfl ⟨rfl, HE.out⟩

/-- Sixteen zero bytes. -/
def z16 : List UInt8 := List.replicate 16 0

set_option maxHeartbeats 400000 in
theorem readCookie_short (g off cap : Nat) (id rest n0 : List UInt8) (w : World) (hx : w.rangeAt g off ((1 :: 8 :: (id ++ rest)).map cell))
    (hid : id.length = 8) (hn : rest.length = 31) (hcap : 41 ≤ cap) :
    Calls Trym.prog 20 #[.slice (some ⟨g, off, none⟩) 41 cap, .agg (id.map cell).toArray, .agg (n0.map cell).toArray] w fun e w' => e = .returned (.tuple #[.agg (z16.map cell).toArray, .bool false]) ∧ Below w.heap.size w w' := by
  have hlt : g < w.heap.size := by simpa using block_lt_of_cell (hx 0 (cell 1) (by simp))
  have hi3 : Hid ((Trym.prog.info? 42).map (·.size) = some (z16.map cell).toArray.size) := by show _ = _; rw [info42]; rfl
  go_enter Trym.func20, Trym.ntmps20
  go_wp2_with (refine wpList_load_mid rfl 39 (.tmp 4) rfl _ _ rfl (id.map cell) _ ?_ Trym.underlying39 rfl ?_ ?_)
  · exact World.rangeAt_alloc (World.rangeAt_alloc (rangeAt_new _ _ _) _) _
  · rw [info39]; simp [hid]
  refine calls_named3 ?_
  intro W0 hW0
  obtain ⟨f1, f2, f3, f4, f5, f6⟩ := three_new hW0 16 rfl hx
  clear hW0 hx
  refine (readHeader_ok g off 41 cap 8 id rest W0 f1 hid (by simp [hn]) (by omega) hcap).mono ?_
  rintro e w1 ⟨rfl, b1⟩
  have g4 := there_below b1 (by omega) f4
  have hz1 : w.heap.size + 3 ≤ w1.heap.size := by have := b1.size; omega
  have G6 : Hid (Below w.heap.size w w1) := f6.trans (b1.mono (by omega))
  have GA : Hid (w1.there (w.heap.size + 2) 0 16) := g4
  clear b1 f1 f2 f3 f4 f5 f6 g4 W0
  go_wp2_with (refine wpList_store_mid rfl 42 (.tmp 6) (.tmp 28) rfl _ _ (z16.map cell).toArray rfl rfl ?_ hi3.out (all_oneCell_toArray (bytes_one _)) ?_)
  · exact GA.out
  exact bodyPost_ret (v := .tuple #[.agg (z16.map cell).toArray, .bool false]) (results_cell_tmp_mid Trym.results20 _ _ _ _ _ _ _ rfl rfl (World.rangeAt_setCells_same _ _ _ _ GA.out) Trym.underlying42 rfl hi3.out) rfl ⟨rfl, below_setCells _ _ _ G6.out (by omega)⟩
end Go.Proofs.Qxb6612263aMods
