/- FnCookieMessageRoundTrip (7): the walk. -/
import Derived.Test.Qxb6612263aModsZz
namespace Go.Proofs.Qxb6612263aMods
open Go.RowKit
open Extern.Stop (cell)

theorem calls_any {P : Program} {f : FuncId} {args : Array Value} {Q : Ending → World → Prop} {w : World} (h : ∀ W1, W1 = w → Calls P f args W1 Q) : Calls P f args w Q := h _ rfl

theorem wpList_load_want {P : Program} {ops : Array Oper} {rest : List Oper} {op : Oper} {a : Act} {w : World} {Q : Exit → Act → World → Prop} (hw : Region.wanted op (yielded ops a.tmps) = true) (ty : TypeId) (x : Operand) (ho : op.op = .load ty x)
    (b o : Nat) (hx : a.eval x = .pointer (some ⟨b, o, none⟩)) (cs : List Value) (d : TypeDesc) (hc : w.rangeAt b o cs)
    (hu : P.underlying ty = some d) (hd : d.isRow = true) (hi : (P.info? ty).map (·.size) = some cs.length)
    (h : wpList P ops Q rest (a.put op.dst (.agg cs.toArray)) w) : wpList P ops Q (op :: rest) a w :=
  BigFrame.wpList_want hw fun _ hK => wp_load_mid ty x ho b o hx cs d hc hu hd hi (hK _ _ h)

theorem eql33 (xs ys : List UInt8) (hx : xs.length = 16) (hy : ys.length = 16) (w : World) :
    (binOp .eql 33 (.agg (xs.map cell).toArray) (.agg (ys.map cell).toArray)).run Trym.prog w = .ok (.bool (xs == ys)) w := by
  rw [run_eql_struct, run_equalIn_bytes w 9998 33 5 16 Trym.underlying33 Trym.underlying5 size5 xs ys hx hy]
  rfl

/-- What four new blocks hold. -/
theorem four_new {w W : World} {a b c d : List Value} {t1 t2 t3 t4 : TypeId} (hW : W = (((w.alloc (.cells a.toArray t1)).alloc (.cells b.toArray t2)).alloc (.cells c.toArray t3)).alloc (.cells d.toArray t4)) :
    W.rangeAt w.heap.size 0 a ∧ W.rangeAt (w.heap.size + 1) 0 b ∧ W.rangeAt (w.heap.size + 2) 0 c ∧ W.rangeAt (w.heap.size + 3) 0 d ∧ W.heap.size = w.heap.size + 4 ∧ Below w.heap.size w W := by
  subst hW
  have h1 := rangeAt_new w a t1
  have h2 := rangeAt_new (w.alloc (.cells a.toArray t1)) b t2
  have h3 := rangeAt_new ((w.alloc (.cells a.toArray t1)).alloc (.cells b.toArray t2)) c t3
  have h4 := rangeAt_new (((w.alloc (.cells a.toArray t1)).alloc (.cells b.toArray t2)).alloc (.cells c.toArray t3)) d t4
  simp only [World.size_alloc] at h2 h3 h4
  exact ⟨World.rangeAt_alloc (World.rangeAt_alloc (World.rangeAt_alloc h1 _) _) _, World.rangeAt_alloc (World.rangeAt_alloc h2 _) _, World.rangeAt_alloc h3 _, h4, by simp,
    ((((Below.refl _ _).alloc (Nat.le_refl _) _).alloc (by simp) _).alloc (by simp; omega) _).alloc (by simp; omega) _⟩

theorem news_of_range {w : World} {b : Nat} {cs : List Value} (h : w.rangeAt b 0 cs) : ∀ j u, cs[j]? = some u → w.cell? ((⟨b, 0, none⟩ : Addr).add j) = some u := fun j u hu => by
  rw [Addr.add_mid]; exact h j u hu

theorem size_setCells : ∀ (vs : List Value) (w : World) (b o : Nat), (w.setCells b o vs).heap.size = w.heap.size
  | [], _, _, _ => rfl
  | v :: r, w, b, o => by
    rw [World.setCells, size_setCells r]
    simp [World.setCell]

theorem any_named {P : Program} {ops : Array Oper} {Q : Exit → Act → World → Prop} {md : Region.Mode} {S : World → Prop} {fuel : Nat} {listed : Array Bool} {a : Act} {w : World} (h : ∀ W, W = w → wpAnyH P md ops Q S fuel listed a W) : wpAnyH P md ops Q S fuel listed a w := h _ rfl

theorem range_prefix {w : World} {g off : Nat} {a b : List Value} (h : w.rangeAt g off (a ++ b)) : w.rangeAt g off a := fun j v hv => h j v (by
  rw [List.getElem?_append_left (List.getElem?_eq_some_iff.1 hv).1]; exact hv)

theorem zzReadCookie_ok (g cap : Nat) (id n c n0 : List UInt8) (w : World) (hx : w.rangeAt g 0 ((1 :: 8 :: (id ++ (n ++ c))).map cell))
    (hid : id.length = 8) (hn : n.length = 16) (hc : c.length = 16) (hn0 : n0.length = 16) (hcap : 42 ≤ cap) :
    Calls Trym.prog 16 #[.slice (some ⟨g, 0, none⟩) 42 cap, .agg (id.map cell).toArray, .agg (n0.map cell).toArray] w fun e w' => e = .returned (.tuple #[.agg (c.map cell).toArray, .bool (n == n0)]) ∧ Below w.heap.size w w' :=
  zzReadCookie_any g 0 42 cap c (n == n0) _ id n0 w hid hn0 hc hx (fun W hW => readCookie_ok g 0 cap id n c n0 W hW hid hn hc hn0 hcap)

theorem zzReadCookie_short (g cap : Nat) (id n c n0 : List UInt8) (w : World) (hx : w.rangeAt g 0 ((1 :: 8 :: (id ++ (n ++ c))).map cell))
    (hid : id.length = 8) (hn : n.length = 16) (hc : c.length = 16) (hn0 : n0.length = 16) (hcap : 42 ≤ cap) :
    Calls Trym.prog 16 #[.slice (some ⟨g, 0, none⟩) 41 cap, .agg (id.map cell).toArray, .agg (n0.map cell).toArray] w fun e w' => e = .returned (.tuple #[.agg (z16.map cell).toArray, .bool false]) ∧ Below w.heap.size w w' := by
  have hp : w.rangeAt g 0 ((1 :: 8 :: (id ++ (n ++ c).take 31)).map cell) := by
    have h : w.rangeAt g 0 ((1 :: 8 :: (id ++ (n ++ c).take 31)).map cell ++ ((n ++ c).drop 31).map cell) := by
      rw [← List.map_append]
      have e : (1 :: 8 :: (id ++ (n ++ c).take 31)) ++ (n ++ c).drop 31 = 1 :: 8 :: (id ++ (n ++ c)) := by
        rw [List.cons_append, List.cons_append, List.append_assoc, List.take_append_drop]
      rw [e]
      exact hx
    exact range_prefix h
  exact zzReadCookie_any g 0 41 cap z16 false _ id n0 w hid hn0 rfl hp (fun W hW => readCookie_short g 0 cap id _ n0 W hW hid (by simp [hn, hc]) (by omega))

set_option maxHeartbeats 1000000 in
theorem cookie_walk (id n c other : List UInt8) (w : World) (hid : id.length = 8) (hn : n.length = 16) (hc : c.length = 16) (ho : other.length = 16) (b : Bool) (hb1 : (n == other) = b) (hb2 : (other == n) = b) :
    Calls Trym.prog 7 #[.agg (id.map cell).toArray, .agg (n.map cell).toArray, .agg (c.map cell).toArray, .agg (other.map cell).toArray] w fun e w' => e = .returned (.bool true) ∧ Below w.heap.size w w' := by
  obtain ⟨i0, hi, hz0, hz1, hz2⟩ := info_parts info5
  have j23 : Hid ((Trym.prog.info? 23).map (·.size) = some (id.map cell).length) := by show _ = _; rw [info23]; simp [hid]
  have jn : Hid ((Trym.prog.info? 33).map (·.size) = some (n.map cell).length) := by show _ = _; rw [info33]; simp [hn]
  have jc : Hid ((Trym.prog.info? 33).map (·.size) = some (c.map cell).length) := by show _ = _; rw [info33]; simp [hc]
  have jo : Hid ((Trym.prog.info? 33).map (·.size) = some (other.map cell).length) := by show _ = _; rw [info33]; simp [ho]
  have jz : Hid ((Trym.prog.info? 33).map (·.size) = some (z16.map cell).length) := by show _ = _; rw [info33]; rfl
  have e1 := eql33 c c hc hc
  have e2 := eql33 other n ho hn
  have e3 := eql33 z16 z16 rfl rfl
  have ln : Hid ((n.map cell).length = 16 * 1) := by show _ = _; simp [hn]
  have lc : Hid ((c.map cell).length = 16 * 1) := by show _ = _; simp [hc]
  go_enter Trym.func7, Trym.ntmps7
  go_wp2_with (refine wpList_load_mid rfl 23 (.tmp 4) rfl _ _ rfl (id.map cell) _ ?_ Trym.underlying23 rfl j23.out ?_)
  · exact World.rangeAt_alloc (World.rangeAt_alloc (World.rangeAt_alloc (rangeAt_new _ _ _) _) _) _
  refine calls_any ?_
  intro W0 hW0
  obtain ⟨f1, f2, f3, f4, f5, f6⟩ := four_new hW0
  clear hW0
  refine (zzAppendHeader_any none 0 [] id 8 W0 (fun _ => rfl) rfl (by simp) hid (by omega)).mono ?_
  rintro e w1 ⟨g1, cap1, rfl, o1, b1⟩
  simp only [Nat.zero_add, List.nil_append] at o1
  have hz1' : w.heap.size + 4 ≤ w1.heap.size := by have := b1.size; omega
  have O1 : Hid (w1.ownsRow (w.heap.size + 4) 5 1 (.slice (some ⟨g1, 0, none⟩) 10 cap1) 10 ((1 :: 8 :: id).map cell)) := by rw [f5] at o1; exact o1
  have F1 : Hid (w1.rangeAt w.heap.size 0 (id.map cell) ∧ w1.rangeAt (w.heap.size + 1) 0 (n.map cell) ∧ w1.rangeAt (w.heap.size + 2) 0 (c.map cell) ∧ w1.rangeAt (w.heap.size + 3) 0 (other.map cell) ∧ Below w.heap.size w w1) :=
    ⟨range_below b1 (by omega) f1, range_below b1 (by omega) f2, range_below b1 (by omega) f3, range_below b1 (by omega) f4, f6.trans (b1.mono (by omega))⟩
  clear b1 o1 f1 f2 f3 f4 f5 f6 W0
  have NW1 : Hid (∀ j u, (n.map cell)[j]? = some u → w1.cell? ((⟨w.heap.size + 1, 0, none⟩ : Addr).add j) = some u) := news_of_range F1.out.2.1
  go_wp2_with (at_builtin; refine wpList_append_lies _ rfl (.tmp 19) (.tmp 20) 22 rfl (w.heap.size + 4) 5 i0 (.int .u8 0) 1 1 Trym.underlying22 hi hz0 hz1 hz2 rfl (by decide) _ 10 _ rfl O1.out ⟨w.heap.size + 1, 0, none⟩ 16 16 (n.map cell) rfl ln.out NW1.out (bytes_one n) (by decide) (by decide) (by decide) hz1' _ rfl ?_)
  intro g2 cap2 w2 o2 gr2 x1 x2
  clear x1 x2
  have hz2' : w.heap.size + 4 ≤ w2.heap.size := by have := gr2.size; omega
  have O2 : Hid (w2.ownsRow (w.heap.size + 4) 5 1 (.slice (some ⟨g2, 0, none⟩) 26 cap2) 26 ((1 :: 8 :: (id ++ n)).map cell)) := by show World.ownsRow _ _ _ _ _ _ _; simpa using o2
  have B12 : Below (w.heap.size + 4) w1 w2 := (Below.refl _ _).grown gr2 hz1' (fun k hk => (O1.out.lt k hk).1)
  have F2 : Hid (w2.rangeAt w.heap.size 0 (id.map cell) ∧ w2.rangeAt (w.heap.size + 1) 0 (n.map cell) ∧ w2.rangeAt (w.heap.size + 2) 0 (c.map cell) ∧ w2.rangeAt (w.heap.size + 3) 0 (other.map cell) ∧ Below w.heap.size w w2) :=
    ⟨range_below B12 (by omega) F1.out.1, range_below B12 (by omega) F1.out.2.1, range_below B12 (by omega) F1.out.2.2.1, range_below B12 (by omega) F1.out.2.2.2.1, F1.out.2.2.2.2.trans (B12.mono (by omega))⟩
  clear o2 gr2 B12 F1 O1 NW1 hz1'
  have NW2 : Hid (∀ j u, (c.map cell)[j]? = some u → w2.cell? ((⟨w.heap.size + 1 + 1, 0, none⟩ : Addr).add j) = some u) := news_of_range F2.out.2.2.1
  go_wp2_with (at_builtin; refine wpList_append_lies _ rfl (.tmp 22) (.tmp 23) 22 rfl (w.heap.size + 4) 5 i0 (.int .u8 0) 1 1 Trym.underlying22 hi hz0 hz1 hz2 rfl (by decide) _ 26 _ rfl O2.out ⟨w.heap.size + 1 + 1, 0, none⟩ 16 16 (c.map cell) rfl lc.out NW2.out (bytes_one c) (by decide) (by decide) (by decide) hz2' _ rfl ?_)
  intro g cap w3 o3 gr3 x1 hg3
  clear x1
  have hz3 : w.heap.size + 4 ≤ w3.heap.size := by have := gr3.size; omega
  have O3 : w3.ownsRow (w.heap.size + 4) 5 1 (.slice (some ⟨g, 0, none⟩) 42 cap) 42 ((1 :: 8 :: (id ++ (n ++ c))).map cell) := by simpa using o3
  have hcap : 42 ≤ cap := by
    obtain ⟨_, h | ⟨g', cap', cur, e1, e2, e3, e4, _⟩⟩ := O3
    · simp at h
    · simp at e1; omega
  have R3 : Hid (w3.rangeAt g 0 ((1 :: 8 :: (id ++ (n ++ c))).map cell)) := fun j v hv => by
    have := O3.cells (g := g) rfl j v hv
    rw [Addr.add_mid] at this
    exact this
  have B23 : Below (w.heap.size + 4) w2 w3 := (Below.refl _ _).grown gr3 hz2' (fun k hk => (O2.out.lt k hk).1)
  have F3 : Hid (w3.rangeAt w.heap.size 0 (id.map cell) ∧ w3.rangeAt (w.heap.size + 1) 0 (n.map cell) ∧ w3.rangeAt (w.heap.size + 2) 0 (c.map cell) ∧ w3.rangeAt (w.heap.size + 3) 0 (other.map cell) ∧ Below w.heap.size w w3) :=
    ⟨range_below B23 (by omega) F2.out.1, range_below B23 (by omega) F2.out.2.1, range_below B23 (by omega) F2.out.2.2.1, range_below B23 (by omega) F2.out.2.2.2.1, F2.out.2.2.2.2.trans (B23.mono (by omega))⟩
  clear o3 gr3 B23 F2 O2 O3 NW2 hz2' w1 w2
  go_wp2_with (first | (refine wpList_load_mid rfl 23 (.tmp 4) rfl _ _ rfl (id.map cell) _ ?_ Trym.underlying23 rfl j23.out ?_) | (refine wpList_load_mid rfl 33 (.tmp 5) rfl _ _ rfl (n.map cell) _ ?_ Trym.underlying33 rfl jn.out ?_))
  · exact F3.out.1
  · exact F3.out.2.1
  refine (zzReadCookie_ok g cap id n c n w3 R3.out hid hn hc hn hcap).mono ?_
  rintro e w4 ⟨rfl, b4⟩
  have hz4 : w3.heap.size ≤ w4.heap.size := b4.size
  have B4 : Hid (Below w3.heap.size w3 w4) := b4
  clear b4
  have jc' : Hid ((Trym.prog.info? 33).map (·.size) = some (c.map cell).toArray.size) := by show _ = _; simpa using jc.out
  have kc' : Hid ((c.map cell).toArray.size = 16) := by show _ = _; simp [hc]
  have kc : Hid ((c.map cell).length = 16) := by show _ = _; simp [hc]
  go_wp2_with (first | (refine wpList_store_mid rfl 33 (.tmp 10) (.tmp 33) rfl _ _ (c.map cell).toArray rfl rfl ?_ jc'.out (all_oneCell_toArray (bytes_one _)) ?_) | (refine wpList_load_mid rfl 23 (.tmp 4) rfl _ _ rfl (id.map cell) _ ?_ Trym.underlying23 rfl j23.out ?_) | (refine wpList_load_mid rfl 33 (.tmp 7) rfl _ _ rfl (other.map cell) _ ?_ Trym.underlying33 rfl jo.out ?_))
  · rw [kc'.out]; exact there_new w4 _ 33
  · exact World.rangeAt_setCells_apart (World.rangeAt_alloc (range_below B4.out (by omega) F3.out.1) _) _ _ _ (by omega)
  · exact World.rangeAt_setCells_apart (World.rangeAt_alloc (range_below B4.out (by omega) F3.out.2.2.2.1) _) _ _ _ (by omega)
  refine calls_any ?_
  intro W5 hW5
  obtain ⟨p1, hp1⟩ : ∃ p1, p1 = w4.heap.size := ⟨_, rfl⟩
  have B5 : Hid (Below w3.heap.size w3 W5) := by
    show Below _ _ _
    rw [hW5]
    exact below_setCells _ _ _ (B4.out.alloc (by omega) _) (by omega)
  have G5 : Hid (W5.rangeAt w4.heap.size 0 (c.map cell)) := by
    show World.rangeAt _ _ _ _
    rw [hW5]
    refine World.rangeAt_setCells_same _ _ _ _ ?_
    rw [kc.out]; exact there_new w4 _ 33
  have hz5 : w4.heap.size < W5.heap.size := by rw [hW5, size_setCells]; simp
  rw [← hp1] at G5 hz5 hz4 ⊢
  clear hW5 B4 hp1
  refine (zzReadCookie_ok g cap id n c other W5 (range_below B5.out hg3 R3.out) hid hn hc ho hcap).mono ?_
  rintro e w6 ⟨rfl, b6⟩
  have hz6 : p1 < w6.heap.size := by have := b6.size; omega
  have hz6' : w3.heap.size ≤ w6.heap.size := by have := b6.size; omega
  have B6 : Hid (Below w3.heap.size w3 w6) := B5.out.trans (b6.mono (by omega))
  have G6 : Hid (w6.rangeAt p1 0 (c.map cell)) := range_below b6 hz5 G5.out
  clear b6 B5 G5 hz5
  go_wp2_with (first | (refine wpList_store_mid rfl 33 (.tmp 12) (.tmp 40) rfl _ _ (c.map cell).toArray rfl rfl ?_ jc'.out (all_oneCell_toArray (bytes_one _)) ?_))
  · rw [kc'.out]; exact there_new w6 _ 33
  refine wp_any ?_
  intro W7 hW7
  try simp only [Act.put]
  have B7 : Below w3.heap.size w3 W7 := by
    rw [hW7]
    exact below_setCells _ _ _ (B6.out.alloc (by omega) _) (by omega)
  have G7 : W7.rangeAt p1 0 (c.map cell) := by
    rw [hW7]
    exact World.rangeAt_setCells_apart (World.rangeAt_alloc G6.out _) _ _ _ (by omega)
  have G8 : W7.rangeAt w6.heap.size 0 (c.map cell) := by
    rw [hW7]
    refine World.rangeAt_setCells_same _ _ _ _ ?_
    rw [kc.out]; exact there_new w6 _ 33
  have hz7 : w6.heap.size < W7.heap.size := by rw [hW7, size_setCells]; simp
  generalize w6.heap.size = p2 at *
  clear hW7 B6 G6
  have F7 : Hid (W7.rangeAt w.heap.size 0 (id.map cell) ∧ W7.rangeAt (w.heap.size + 1) 0 (n.map cell) ∧ W7.rangeAt (w.heap.size + 2) 0 (c.map cell) ∧ W7.rangeAt (w.heap.size + 3) 0 (other.map cell) ∧ Below w.heap.size w W7) :=
    ⟨range_below B7 (by omega) F3.out.1, range_below B7 (by omega) F3.out.2.1, range_below B7 (by omega) F3.out.2.2.1, range_below B7 (by omega) F3.out.2.2.2.1, F3.out.2.2.2.2.trans (B7.mono (by omega))⟩
  have R7 : Hid (W7.rangeAt g 0 ((1 :: 8 :: (id ++ (n ++ c))).map cell) ∧ W7.rangeAt p1 0 (c.map cell) ∧ W7.rangeAt p2 0 (c.map cell)) := ⟨range_below B7 hg3 R3.out, G7, G8⟩
  have hg7 : g < W7.heap.size := by have := B7.size; omega
  have hw7 : w.heap.size + 4 ≤ W7.heap.size := by have := B7.size; omega
  clear B7 G7 G8 F3 R3 hg3 hz3 hz4 hz6' w3
  have k41 : (41 : Int) ≤ (cap : Int) := by omega
  refine wp_region_held_drew (S := fun w' => Below W7.heap.size W7 w') (by kernel_rfl) (Below.refl _ _).drew (fun hHeld => ?_)
  refine wpAnyH_take_at 0 (some 43) (v := ?_) rfl rfl (by kernel_rfl) (by kernel_rfl) (by kernel_rfl) (fun _ _ _ h => h) (Or.inl ⟨by rfl, ?_⟩) hHeld ?_
  rotate_left
  · intro w hSw; go_simp; with_reducible rfl
  simp only [Act.put, List.setIfInBounds_toArray, List.set_cons_zero, List.set_cons_succ]
  refine wpAnyH_take_at 1 (some 44) (v := ?_) rfl rfl (by kernel_rfl) (by kernel_rfl) (by kernel_rfl) (fun _ _ _ h => h) (Or.inl ⟨by rfl, ?_⟩) hHeld ?_
  rotate_left
  · intro w hSw; go_simp; with_reducible rfl
  simp only [Act.put, List.setIfInBounds_toArray, List.set_cons_zero, List.set_cons_succ]
  refine wpAnyH_take_at 2 (some 45) (v := _) rfl rfl (by kernel_rfl) (by kernel_rfl) (by kernel_rfl) (fun _ _ _ h => h) (yieldsIf_load_mid (by rfl) _ _ rfl _ _ rfl _ _ (fun w' h => range_below h (by omega) F7.out.1) Trym.underlying23 rfl j23.out) hHeld ?_
  simp only [Act.put, List.setIfInBounds_toArray, List.set_cons_zero, List.set_cons_succ]
  refine wpAnyH_take_at 3 (some 46) (v := _) rfl rfl (by kernel_rfl) (by kernel_rfl) (by kernel_rfl) (fun _ _ _ h => h) (yieldsIf_load_mid (by rfl) _ _ rfl _ _ rfl _ _ (fun w' h => range_below h (by omega) F7.out.2.1) Trym.underlying33 rfl jn.out) hHeld ?_
  simp only [Act.put, List.setIfInBounds_toArray, List.set_cons_zero, List.set_cons_succ]
  refine wpAnyH_ready (rs := [4, 8]) (by kernel_rfl) (by simp) ?_
  refine AllReadyH.cons rfl (fun K hK => ?_) (AllReadyH.cons rfl (fun K hK => ?_) AllReadyH.nil)
  · go_simp
    refine (zzReadCookie_short g cap id n c n W7.drew (by simpa using R7.out.1) hid hn hc hn hcap).mono ?_
    rintro e w8 ⟨rfl, b8⟩
    have b8' : Below W7.heap.size W7 w8 := ((Below.refl _ _).drew).trans b8
    refine hK.out _ _ b8' (fun h8 => ?_)
    clear hK K b8
    refine wpAnyH_take_at 5 (some 42) (v := ?_) rfl rfl (by kernel_rfl) (by kernel_rfl) (by kernel_rfl) (fun _ _ _ h => h) (Or.inl ⟨by rfl, ?_⟩) b8' ?_
    rotate_left
    · intro w hSw; go_simp; with_reducible rfl
    simp only [Act.put, List.setIfInBounds_toArray, List.set_cons_zero, List.set_cons_succ]
    refine wpAnyH_take_at 6 (some 48) (v := ?_) rfl rfl (by kernel_rfl) (by kernel_rfl) (by kernel_rfl) (fun _ _ _ h => h) (Or.inl ⟨by rfl, ?_⟩) b8' ?_
    rotate_left
    · intro w hSw; go_simp; with_reducible rfl
    simp only [Act.put, List.setIfInBounds_toArray, List.set_cons_zero, List.set_cons_succ]
    refine wpAnyH_take_at 7 (some 49) (v := ?_) rfl rfl (by kernel_rfl) (by kernel_rfl) (by kernel_rfl) (fun _ _ _ h => h) (Or.inl ⟨by rfl, ?_⟩) b8' ?_
    rotate_left
    · intro w hSw; go_simp; with_reducible rfl
    simp only [Act.put, List.setIfInBounds_toArray, List.set_cons_zero, List.set_cons_succ]
    refine wpAnyH_ready (rs := [8]) (by kernel_rfl) (by simp) ?_
    refine AllReadyH.cons rfl (fun K hK => ?_) AllReadyH.nil
    go_simp
    have h9 : ∀ o, Below W7.heap.size W7 (w8.alloc o) := fun o => b8'.alloc b8'.size o
    refine hK.out _ _ (h9 _) (fun _ => ?_)
    clear hK K
    obtain ⟨p3, hp3⟩ : ∃ p3, p3 = w8.heap.size := ⟨_, rfl⟩
    have hz8 : W7.heap.size ≤ w8.heap.size := b8'.size
    have h10 : ∀ o, Below W7.heap.size W7 ((w8.alloc o).setCells w8.heap.size 0 (z16.map cell)) := fun o => below_setCells _ _ _ (h9 o) hz8
    refine wpAnyH_store_last 9 rfl rfl (by kernel_rfl) (by rfl) 33 (.tmp 14) (.tmp 48) rfl _ _ (z16.map cell) rfl rfl (there_new w8 _ 33) jz.out (bytes_one _) (h10 _) ?_
    refine wpAnyH_take_at 10 (some 15) (v := ?_) rfl rfl (by kernel_rfl) (by kernel_rfl) (by kernel_rfl) (fun _ _ _ h => h) (Or.inl ⟨by rfl, ?_⟩) (h10 _) ?_
    rotate_left
    · intro w hSw; go_simp; with_reducible rfl
    simp only [Act.put, List.setIfInBounds_toArray, List.set_cons_zero, List.set_cons_succ]
    refine any_named ?_
    intro W9 hW9
    have hB9 : Hid (Below W7.heap.size W7 W9) := by show Below _ _ _; rw [hW9]; exact h10 _
    have z9 : Hid (W9.rangeAt p3 0 (z16.map cell)) := by
      show World.rangeAt _ _ _ _
      rw [hW9, hp3]
      exact World.rangeAt_setCells_same _ _ _ _ (there_new w8 _ 33)
    rw [← hp3]
    clear hW9 h10 h9 hp3
    refine wpAnyH_done (by kernel_rfl) ?_ _
    have hz9 : W7.heap.size ≤ W9.heap.size := hB9.out.size
    go_wp2_with (first | (refine wpList_load_want rfl 33 (.tmp 10) rfl _ _ rfl (c.map cell) _ ?_ Trym.underlying33 rfl jc.out ?_) | (refine wpList_load_want rfl 33 (.tmp 6) rfl _ _ rfl (c.map cell) _ ?_ Trym.underlying33 rfl jc.out ?_) | (refine wpList_load_want rfl 33 (.tmp 12) rfl _ _ rfl (c.map cell) _ ?_ Trym.underlying33 rfl jc.out ?_) | (refine wpList_load_want rfl 33 (.tmp 7) rfl _ _ rfl (other.map cell) _ ?_ Trym.underlying33 rfl jo.out ?_) | (refine wpList_load_want rfl 33 (.tmp 5) rfl _ _ rfl (n.map cell) _ ?_ Trym.underlying33 rfl jn.out ?_) | (refine wpList_load_want rfl 33 (.tmp 14) rfl _ _ rfl (z16.map cell) _ ?_ Trym.underlying33 rfl jz.out ?_) | (refine wpList_load_want rfl 33 (.tmp 16) rfl _ _ rfl (z16.map cell) _ ?_ Trym.underlying33 rfl jz.out ?_))
    · exact World.rangeAt_alloc (range_below hB9.out (by omega) R7.out.2.1) _
    · exact World.rangeAt_alloc (range_below hB9.out (by omega) F7.out.2.2.1) _
    · exact World.rangeAt_alloc (range_below hB9.out (by omega) R7.out.2.2) _
    · exact World.rangeAt_alloc (range_below hB9.out (by omega) F7.out.2.2.1) _
    · exact World.rangeAt_alloc (range_below hB9.out (by omega) F7.out.2.2.2.1) _
    · exact World.rangeAt_alloc (range_below hB9.out (by omega) F7.out.2.1) _
    · exact World.rangeAt_alloc z9.out _
    · exact rangeAt_new W9 (z16.map cell) 33
    go_ret
    exact ⟨rfl, (F7.out.2.2.2.2.trans (hB9.out.mono (by omega))).alloc (by have := hB9.out.size; omega) _⟩
  · go_simp
    have h8 : ∀ o, Below W7.heap.size W7 ((W7.alloc o).drew) := fun o => ((Below.refl _ _).alloc (Nat.le_refl _) o).drew
    refine hK.out _ _ (h8 _) (fun _ => ?_)
    clear hK K
    refine wpAnyH_ready (rs := [4]) (by kernel_rfl) (by simp) ?_
    refine AllReadyH.cons rfl (fun K hK => ?_) AllReadyH.nil
    go_simp
    refine calls_any ?_
    intro W8 hW8
    have h8' : Below W7.heap.size W7 W8 := by rw [hW8]; exact h8 _
    have t8 : W8.there W7.heap.size 0 16 := by rw [hW8]; exact (World.there_drew _ _ _ _).2 (there_new W7 _ 33)
    have hz8 : W7.heap.size < W8.heap.size := by rw [hW8]; simp
    clear hW8 h8
    refine (zzReadCookie_short g cap id n c n W8 (range_below h8' hg7 R7.out.1) hid hn hc hn hcap).mono ?_
    rintro e w8 ⟨rfl, b8⟩
    have b8' : Below W7.heap.size W7 w8 := h8'.trans (b8.mono (by omega))
    have t9 : w8.there W7.heap.size 0 16 := there_below b8 hz8 t8
    refine hK.out _ _ b8' (fun _ => ?_)
    clear hK K b8 t8
    refine wpAnyH_take_at 5 (some 42) (v := ?_) rfl rfl (by kernel_rfl) (by kernel_rfl) (by kernel_rfl) (fun _ _ _ h => h) (Or.inl ⟨by rfl, ?_⟩) b8' ?_
    rotate_left
    · intro w hSw; go_simp; with_reducible rfl
    simp only [Act.put, List.setIfInBounds_toArray, List.set_cons_zero, List.set_cons_succ]
    refine wpAnyH_take_at 6 (some 48) (v := ?_) rfl rfl (by kernel_rfl) (by kernel_rfl) (by kernel_rfl) (fun _ _ _ h => h) (Or.inl ⟨by rfl, ?_⟩) b8' ?_
    rotate_left
    · intro w hSw; go_simp; with_reducible rfl
    simp only [Act.put, List.setIfInBounds_toArray, List.set_cons_zero, List.set_cons_succ]
    refine wpAnyH_take_at 7 (some 49) (v := ?_) rfl rfl (by kernel_rfl) (by kernel_rfl) (by kernel_rfl) (fun _ _ _ h => h) (Or.inl ⟨by rfl, ?_⟩) b8' ?_
    rotate_left
    · intro w hSw; go_simp; with_reducible rfl
    simp only [Act.put, List.setIfInBounds_toArray, List.set_cons_zero, List.set_cons_succ]
    have h10 : Below W7.heap.size W7 (w8.setCells W7.heap.size 0 (z16.map cell)) := below_setCells _ _ _ b8' (Nat.le_refl _)
    refine wpAnyH_store_last 9 rfl rfl (by kernel_rfl) (by rfl) 33 (.tmp 14) (.tmp 48) rfl _ _ (z16.map cell) rfl rfl t9 jz.out (bytes_one _) h10 ?_
    refine wpAnyH_take_at 10 (some 15) (v := ?_) rfl rfl (by kernel_rfl) (by kernel_rfl) (by kernel_rfl) (fun _ _ _ h => h) (Or.inl ⟨by rfl, ?_⟩) h10 ?_
    rotate_left
    · intro w hSw; go_simp; with_reducible rfl
    simp only [Act.put, List.setIfInBounds_toArray, List.set_cons_zero, List.set_cons_succ]
    refine any_named ?_
    intro W9 hW9
    have hB9 : Hid (Below W7.heap.size W7 W9) := by show Below _ _ _; rw [hW9]; exact h10
    have z9 : Hid (W9.rangeAt W7.heap.size 0 (z16.map cell)) := by
      show World.rangeAt _ _ _ _
      rw [hW9]
      exact World.rangeAt_setCells_same _ _ _ _ t9
    clear hW9 h10 t9
    refine wpAnyH_done (by kernel_rfl) ?_ _
    have hz9 : W7.heap.size ≤ W9.heap.size := hB9.out.size
    go_wp2_with (first | (refine wpList_load_want rfl 33 (.tmp 10) rfl _ _ rfl (c.map cell) _ ?_ Trym.underlying33 rfl jc.out ?_) | (refine wpList_load_want rfl 33 (.tmp 6) rfl _ _ rfl (c.map cell) _ ?_ Trym.underlying33 rfl jc.out ?_) | (refine wpList_load_want rfl 33 (.tmp 12) rfl _ _ rfl (c.map cell) _ ?_ Trym.underlying33 rfl jc.out ?_) | (refine wpList_load_want rfl 33 (.tmp 7) rfl _ _ rfl (other.map cell) _ ?_ Trym.underlying33 rfl jo.out ?_) | (refine wpList_load_want rfl 33 (.tmp 5) rfl _ _ rfl (n.map cell) _ ?_ Trym.underlying33 rfl jn.out ?_) | (refine wpList_load_want rfl 33 (.tmp 14) rfl _ _ rfl (z16.map cell) _ ?_ Trym.underlying33 rfl jz.out ?_) | (refine wpList_load_want rfl 33 (.tmp 16) rfl _ _ rfl (z16.map cell) _ ?_ Trym.underlying33 rfl jz.out ?_))
    · exact World.rangeAt_alloc (range_below hB9.out (by omega) R7.out.2.1) _
    · exact World.rangeAt_alloc (range_below hB9.out (by omega) F7.out.2.2.1) _
    · exact World.rangeAt_alloc (range_below hB9.out (by omega) R7.out.2.2) _
    · exact World.rangeAt_alloc (range_below hB9.out (by omega) F7.out.2.2.1) _
    · exact World.rangeAt_alloc (range_below hB9.out (by omega) F7.out.2.2.2.1) _
    · exact World.rangeAt_alloc (range_below hB9.out (by omega) F7.out.2.1) _
    · exact World.rangeAt_alloc z9.out _
    · exact rangeAt_new W9 (z16.map cell) 33
    go_ret
    exact ⟨rfl, (F7.out.2.2.2.2.trans (hB9.out.mono (by omega))).alloc (by have := hB9.out.size; omega) _⟩

end Go.Proofs.Qxb6612263aMods
