/- readRequestHead (23): contract. -/
import Derived.Test.Qxb6612263aModsLaws
import Derived.Deep.RegionHeld3
namespace Go.Proofs.Qxb6612263aMods
open Go.RowKit
open Extern.Stop (cell)

theorem info42 : (Trym.prog.info? 42).map (·.size) = some 16 := by kernel_rfl
theorem info45 : (Trym.prog.info? 45).map (·.size) = some 16 := by kernel_rfl
theorem info33 : (Trym.prog.info? 33).map (·.size) = some 16 := by kernel_rfl
theorem info23 : (Trym.prog.info? 23).map (·.size) = some 8 := by kernel_rfl
theorem info49 : (Trym.prog.info? 49).map (·.size) = some 32 := by kernel_rfl

theorem list16 (xs : List UInt8) (h : xs.length = 16) : ∃ a0 a1 a2 a3 a4 a5 a6 a7 a8 a9 aa ab ac ad ae af, xs = [a0, a1, a2, a3, a4, a5, a6, a7, a8, a9, aa, ab, ac, ad, ae, af] := by
  match xs, h with
  | [a0, a1, a2, a3, a4, a5, a6, a7, a8, a9, aa, ab, ac, ad, ae, af], _ => exact ⟨a0, a1, a2, a3, a4, a5, a6, a7, a8, a9, aa, ab, ac, ad, ae, af, rfl⟩

theorem build49 (n c : List UInt8) (hn : n.length = 16) (hc : c.length = 16) (w : World) :
    (Instr.build 49 #[(0, .agg (n.map cell).toArray), (1, .agg (c.map cell).toArray)]).run Trym.prog w = .ok (.agg ((n ++ c).map cell).toArray) w := by
  obtain ⟨a0, a1, a2, a3, a4, a5, a6, a7, a8, a9, aa, ab, ac, ad, ae, af, rfl⟩ := list16 n hn
  obtain ⟨b0, b1, b2, b3, b4, b5, b6, b7, b8, b9, ba, bb, bc, bd, be, bf, rfl⟩ := list16 c hc
  exact run_build w 49 _ _ (by kernel_rfl)

theorem range_mid {w : World} {g off : Nat} {a b c : List UInt8} (h : w.rangeAt g off ((a ++ (b ++ c)).map cell)) : w.rangeAt g (off + a.length) (b.map cell) := fun j v hv => by
  have hj : j < b.length := by
    have := (List.getElem?_eq_some_iff.1 hv).1
    simpa using this
  have := h (a.length + j) v (by
    rw [← hv, List.map_append, List.map_append, List.getElem?_append_right (by simp), List.getElem?_append_left (by simpa using hj)]
    simp)
  rw [Nat.add_assoc]
  exact this

theorem there_new (w : World) (cs : List Value) (t : TypeId) : (w.alloc (.cells cs.toArray t)).there w.heap.size 0 cs.length := fun j hj => by
  have hb := heap_alloc_new w (.cells cs.toArray t)
  refine ⟨?_, frozen_of_row _ _ _ _ _ hb⟩
  rw [Nat.zero_add, cell_of_row _ _ _ _ _ _ hb]
  simp [hj]

theorem below_setCells {B : Nat} {w0 : World} : ∀ (vs : List Value) {w : World} (b o : Nat), Below B w0 w → B ≤ b → Below B w0 (w.setCells b o vs)
  | [], _, _, _, h, _ => h
  | v :: r, _, b, o, h, hb => below_setCells r b (o + 1) (h.setCell (p := ⟨b, o, none⟩) hb v) hb

theorem wp_named {P : Program} {c : Code} {Q : Exit → Act → World → Prop} {a : Act} {w : World} {o : Obj} (h : ∀ W1, W1 = w.alloc o → Code.wp P c Q a W1) : Code.wp P c Q a (w.alloc o) := h _ rfl

theorem results_cell_mid {P : Program} {fn : Func} {p : Tmp} {ty : TypeId} (h : fn.results = #[.cell p ty]) (tmps : Array Value) (w : World) (g off : Nat) (cs : List Value) (d : TypeDesc)
    (hp : tmps.getD p undef = .pointer (some ⟨g, off, none⟩)) (hc : w.rangeAt g off cs) (hu : P.underlying ty = some d) (hd : d.isRow = true) (hi : (P.info? ty).map (·.size) = some cs.length) :
    (results fn tmps).run P w = .ok (.agg cs.toArray) w := by
  have hp' : tmps[p]?.getD undef = .pointer (some ⟨g, off, none⟩) := by simpa using hp
  simp [results, h, hp', asAddr, run_loadVar_mid w g off ty cs d hc hu hd hi]

theorem wpAnyH_take_at {P : Program} {ops : Array Oper} {Q : Exit → Act → World → Prop} {md : Region.Mode} {S : World → Prop} {oi : Oper} {v : Value} {fuel : Nat} {listed : Array Bool} {a : Act} {w : World} (i : Nat) (d : Option Tmp) (hi : ops[i]? = some oi) (hd : oi.dst = d)
    (hs : Region.noSelect ops = true) (hf : Region.free md ops listed i = true) (hr : (Region.ready md ops listed).contains i = true)
    (hQ : ∀ c a w, Q (.panic c) (a.put oi.dst v) w → Q (.panic c) a w) (hy : YieldsIf P ops S oi v a) (hS : S w)
    (h : wpAnyH P md ops Q S fuel (listed.setIfInBounds i true) (a.put d v) w) : wpAnyH P md ops Q S (fuel + 1) listed a w :=
  wpAnyH_take hi hs hf hr hQ hy hS (hd ▸ h)

theorem exec_build {P : Program} {o : Oper} {a : Act} (t : TypeId) (parts : Array (Nat × Operand)) (ho : o.op = .build t parts) (ps : Array (Nat × Value)) (hp : (parts.map fun (i, x) => (i, a.eval x)) = ps)
    (cells : Array Value) (w : World) (h : (Instr.build t ps).run P w = .ok (.agg cells) w) : (execOp a.eval o).run P w = .ok (.value (.agg cells)) w := by
  unfold execOp
  simp only [ho, hp, Sem.run_bind, Sem.run_pure, h, Result.andThen_ok]

theorem wpAnyH_store_last {P : Program} {ops : Array Oper} {Q : Exit → Act → World → Prop} {md : Region.Mode} {S : World → Prop} {oi : Oper} {fuel : Nat} {listed : Array Bool} {a : Act} {w : World} (i : Nat) (hi : ops[i]? = some oi) (hd : oi.dst = none)
    (hr : Region.ready md ops listed = [i]) (hw : Region.wanted oi (yielded ops a.tmps) = true)
    (ty : TypeId) (x y : Operand) (ho : oi.op = .store ty x y) (b o : Nat) (cells : List Value) (hx : a.eval x = .pointer (some ⟨b, o, none⟩)) (hy : a.eval y = .agg cells.toArray)
    (ht : w.there b o cells.length) (hin : (P.info? ty).map (·.size) = some cells.length) (h1 : ∀ v ∈ cells, v.oneCell' = true) (hS : S (w.setCells b o cells))
    (h : wpAnyH P md ops Q S fuel (listed.setIfInBounds i true) a (w.setCells b o cells)) : wpAnyH P md ops Q S (fuel + 1) listed a w := by
  refine wpAnyH_ready hr (by simp) (AllReadyH.cons hi (fun K hK => ?_) AllReadyH.nil)
  rw [if_pos hw]
  refine wp_store_mid ty x y ho b o cells.toArray hx hy (by simpa using ht) (by simpa using hin) (all_oneCell_toArray h1) ?_
  rw [hd]
  exact hK.out _ _ (by simpa using hS) (fun _ => by simpa [Act.put] using h)

set_option maxHeartbeats 400000 in
theorem readRequestHead_any (g off cap : Nat) (hd n c : List UInt8) (w : World) (hx : w.rangeAt g off ((hd ++ (n ++ c)).map cell))
    (hh : hd.length = 10) (hn : n.length = 16) (hc : c.length = 16) (hcap : 42 ≤ cap) (hlt : g < w.heap.size) :
    Calls Trym.prog 23 #[.slice (some ⟨g, off, none⟩) 42 cap] w fun e w' => e = .returned (.agg ((n ++ c).map cell).toArray) ∧ Below w.heap.size w w' := by
  have hb := build49 n c hn hc
  have r1 : w.rangeAt g (off + 10) (n.map cell) := by rw [← hh]; exact range_mid hx
  have r2 : w.rangeAt g (off + 26) (c.map cell) := by
    have h : w.rangeAt g off (((hd ++ n) ++ (c ++ [])).map cell) := by simpa using hx
    have := range_mid h
    simpa [hh, hn, Nat.add_assoc] using this
  have k1 : (42 : Int) ≤ (cap : Int) := by omega
  have k2 : (26 : Int) ≤ (cap : Int) := by omega
  have k3 : ¬ cap = 10 := by omega
  have k4 : ¬ cap = 26 := by omega
  have aa := fun w ao len cap => run_arrayAt (P := Trym.prog) w 45 5 16 ao len cap Trym.underlying45
  have ab := fun w ao len cap => run_arrayAt (P := Trym.prog) w 42 5 16 ao len cap Trym.underlying42
  have hi1 : (Trym.prog.info? 45).map (·.size) = some (n.map cell).length := by rw [info45]; simp [hn]
  have hi2 : (Trym.prog.info? 42).map (·.size) = some (c.map cell).length := by rw [info42]; simp [hc]
  have hu1 := Trym.underlying45
  have hu2 := Trym.underlying42
  clear hx
  go_enter Trym.func23, Trym.ntmps23
  go_wp2
  refine wp_named ?_
  intro W1 hW1
  have t1 : W1.there w.heap.size 0 32 := by rw [hW1]; exact there_new w _ 49
  have s1 : W1.rangeAt g (off + 10) (n.map cell) := by rw [hW1]; exact World.rangeAt_alloc r1 _
  have s2 : W1.rangeAt g (off + 26) (c.map cell) := by rw [hW1]; exact World.rangeAt_alloc r2 _
  have HB : Hid (Below w.heap.size w W1) := by show Below _ _ _; rw [hW1]; exact (Below.refl _ _).alloc (Nat.le_refl _) _
  clear hW1 r1 r2
  have hi3 : (Trym.prog.info? 49).map (·.size) = some ((n ++ c).map cell).length := by rw [info49]; simp [hn, hc]
  have hu3 := Trym.underlying49
  have hl3 : ((n ++ c).map cell).length = 32 := by simp [hn, hc]
  have h1 : ∀ v ∈ (n ++ c).map cell, v.oneCell' = true := by
    intro u hu
    obtain ⟨b, _, rfl⟩ := List.mem_map.1 hu
    rfl
  refine wp_region_held_drew (S := fun w' => w'.rangeAt g (off + 10) (n.map cell) ∧ w'.rangeAt g (off + 26) (c.map cell) ∧ w'.there w.heap.size 0 32) (by kernel_rfl) ⟨by simpa using s1, by simpa using s2, by simpa using t1⟩ (fun hHeld => ?_)
  refine wpAnyH_take_at 0 (some 3) (v := ?_) rfl rfl (by kernel_rfl) (by kernel_rfl) (by kernel_rfl) (fun _ _ _ h => h) (Or.inl ⟨by rfl, ?_⟩) hHeld ?_
  rotate_left
  · intro w hSw; go_simp; with_reducible rfl
  simp only [Act.put, List.setIfInBounds_toArray, List.set_cons_zero, List.set_cons_succ]
  refine wpAnyH_take_at 1 (some 4) (v := ?_) rfl rfl (by kernel_rfl) (by kernel_rfl) (by kernel_rfl) (fun _ _ _ h => h) (Or.inl ⟨by rfl, ?_⟩) hHeld ?_
  rotate_left
  · intro w hSw; go_simp; with_reducible rfl
  simp only [Act.put, List.setIfInBounds_toArray, List.set_cons_zero, List.set_cons_succ]
  refine wpAnyH_take_at 2 (some 5) (v := ?_) rfl rfl (by kernel_rfl) (by kernel_rfl) (by kernel_rfl) (fun _ _ _ h => h) (Or.inl ⟨by rfl, ?_⟩) hHeld ?_
  rotate_left
  · intro w hSw; go_simp; with_reducible rfl
  simp only [Act.put, List.setIfInBounds_toArray, List.set_cons_zero, List.set_cons_succ]
  refine wpAnyH_take_at 3 (some 6) (v := _) rfl rfl (by kernel_rfl) (by kernel_rfl) (by kernel_rfl) (fun _ _ _ h => h) (yieldsIf_load_mid (by rfl) _ _ rfl _ _ rfl _ _ (fun w' h => h.1) hu1 rfl hi1) hHeld ?_
  simp only [Act.put, List.setIfInBounds_toArray, List.set_cons_zero, List.set_cons_succ]
  refine wpAnyH_take_at 4 (some 7) (v := ?_) rfl rfl (by kernel_rfl) (by kernel_rfl) (by kernel_rfl) (fun _ _ _ h => h) (Or.inl ⟨by rfl, ?_⟩) hHeld ?_
  rotate_left
  · intro w hSw; go_simp; with_reducible rfl
  simp only [Act.put, List.setIfInBounds_toArray, List.set_cons_zero, List.set_cons_succ]
  refine wpAnyH_take_at 5 (some 8) (v := ?_) rfl rfl (by kernel_rfl) (by kernel_rfl) (by kernel_rfl) (fun _ _ _ h => h) (Or.inl ⟨by rfl, ?_⟩) hHeld ?_
  rotate_left
  · intro w hSw; go_simp; with_reducible rfl
  simp only [Act.put, List.setIfInBounds_toArray, List.set_cons_zero, List.set_cons_succ]
  refine wpAnyH_take_at 6 (some 9) (v := ?_) rfl rfl (by kernel_rfl) (by kernel_rfl) (by kernel_rfl) (fun _ _ _ h => h) (Or.inl ⟨by rfl, ?_⟩) hHeld ?_
  rotate_left
  · intro w hSw; go_simp; with_reducible rfl
  simp only [Act.put, List.setIfInBounds_toArray, List.set_cons_zero, List.set_cons_succ]
  refine wpAnyH_take_at 7 (some 10) (v := _) rfl rfl (by kernel_rfl) (by kernel_rfl) (by kernel_rfl) (fun _ _ _ h => h) (yieldsIf_load_mid (by rfl) _ _ rfl _ _ rfl _ _ (fun w' h => h.2.1) hu2 rfl hi2) hHeld ?_
  simp only [Act.put, List.setIfInBounds_toArray, List.set_cons_zero, List.set_cons_succ]
  refine wpAnyH_take_at 8 (some 11) (v := .agg ((n ++ c).map cell).toArray) rfl rfl (by kernel_rfl) (by kernel_rfl) (by kernel_rfl) (fun _ _ _ h => h) (Or.inl ⟨by rfl, fun w _ => exec_build 49 #[(0, .tmp 6), (1, .tmp 10)] rfl #[(0, .agg (n.map cell).toArray), (1, .agg (c.map cell).toArray)] (by simp [Act.eval]) _ w (hb w)⟩) hHeld ?_
  simp only [Act.put, List.setIfInBounds_toArray, List.set_cons_zero, List.set_cons_succ]
  have t2 : W1.drew.there w.heap.size 0 ((n ++ c).map cell).length := by rw [hl3]; exact hHeld.2.2
  refine wpAnyH_store_last 9 rfl rfl (by kernel_rfl) (by rfl) 49 (.tmp 2) (.tmp 11) rfl _ _ ((n ++ c).map cell) rfl rfl t2 hi3 h1 ?_ ?_
  · exact ⟨World.rangeAt_setCells_apart hHeld.1 _ _ _ (by omega), World.rangeAt_setCells_apart hHeld.2.1 _ _ _ (by omega), World.there_setCells hHeld.2.2 _ _ _⟩
  refine wpAnyH_done (by kernel_rfl) ?_ _
  have HR := World.rangeAt_setCells_same W1.drew w.heap.size 0 ((n ++ c).map cell) t2
  have HE : Hid (Below w.heap.size w (W1.drew.setCells w.heap.size 0 ((n ++ c).map cell))) := below_setCells _ _ _ HB.out.drew (Nat.le_refl _)
  generalize W1.drew.setCells w.heap.size 0 ((n ++ c).map cell) = W2 at *
  clear t2 hHeld t1 s1 s2 HB
  go_wp2
  exact bodyPost_ret (v := .agg ((n ++ c).map cell).toArray) (results_cell_mid Trym.results23 _ _ _ _ _ _ rfl HR hu3 rfl hi3) rfl ⟨rfl, HE.out⟩
end Go.Proofs.Qxb6612263aMods
