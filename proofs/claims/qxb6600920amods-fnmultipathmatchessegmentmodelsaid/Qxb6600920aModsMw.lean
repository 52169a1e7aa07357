/- The worlds of zzMultipathModel (13): what each pass keeps. No code in sight. -/
import Derived.Test.Qxb6600920aModsQc
import Derived.Deep.OwnRows
namespace Go.Proofs.Qxb6600920aMods
open Go.RowKit

theorem info4 : (Trym.prog.info? 4).map (fun i => (i.zero, i.size, i.bytes)) = some (some (.bool false), 1, 1) := by kernel_rfl
theorem info3 : (Trym.prog.info? 3).map (fun i => (i.zero, i.size, i.bytes)) = some (some (.int .i64 0), 1, 8) := by kernel_rfl

/-- The first pass has marked what lies ahead of k. -/
def W1 (s : ByteArray) (w : World) (k : Nat) (wx : World) : Prop :=
  wx.rowIs w.heap.size 4 s.size (fun j => .bool (if j < k then synB s.data.toList j else false)) ∧ Below w.heap.size w wx

theorem W1.start (s : ByteArray) (w : World) : W1 s w 0 (w.alloc (.cells (madeCells #[.bool false] s.size) 4)) :=
  ⟨(World.rowIs_made w (.bool false) s.size 4).congr (fun i _ => by simp), (Below.refl _ _).alloc (Nat.le_refl _) _⟩

theorem W1.skip {s : ByteArray} {w wx : World} {k : Nat} (h : W1 s w k wx) (k' : Nat) (hk : k ≤ k') (hn : ∀ j, k ≤ j → j < k' → synB s.data.toList j = false) : W1 s w k' wx := by
  refine ⟨h.1.congr (fun i hi => ?_), h.2⟩
  by_cases h1 : i < k
  · simp only [h1, if_true]
    rw [if_pos (by omega)]
  · by_cases h2 : i < k'
    · simp only [h1, h2, if_true, if_false, hn i (by omega) h2]
    · simp only [h1, h2, if_false]

theorem W1.mark {s : ByteArray} {w wx : World} {k : Nat} (h : W1 s w k wx) (hk : synB s.data.toList k = true) : W1 s w (k + 1) (wx.setCell ⟨w.heap.size, k, none⟩ (.bool true)) := by
  refine ⟨(h.1.set k (.bool true)).congr (fun i hi => ?_), h.2.setCell (Nat.le_refl _) _⟩
  by_cases h1 : i = k
  · subst h1
    simp [hk]
  · rw [if_neg h1]
    by_cases h2 : i < k
    · simp only [h2, if_true]
      rw [if_pos (by omega)]
    · simp only [h2, if_false]
      rw [if_neg (by omega)]

/-- The first pass is done. -/
def W1d (s : ByteArray) (w wx : World) : Prop :=
  wx.rowIs w.heap.size 4 s.size (fun j => .bool (synB s.data.toList j)) ∧ Below w.heap.size w wx

theorem W1.done {s : ByteArray} {w wx : World} {k : Nat} (h : W1 s w k wx) (hn : ∀ j, k ≤ j → j < s.size → synB s.data.toList j = false) : W1d s w wx := by
  refine ⟨h.1.congr (fun i hi => ?_), h.2⟩
  by_cases h1 : i < k
  · simp only [h1, if_true]
  · simp only [h1, if_false]
    rw [hn i (by omega) hi]

def cvals (l : List Nat) : List Value := l.map fun (c : Nat) => Value.int .i64 (c : Int)

/-- The second pass stands at k. -/
structure W2 (s : ByteArray) (w : World) (q : Nat) (k : Nat) (v : Value) (wx : World) : Prop where
  syn : wx.rowIs w.heap.size 4 s.size (fun j => .bool (synB s.data.toList j))
  dep : wx.rowIs q 3 s.size (fun j => .int .i64 (if j < k ∧ synB s.data.toList j = true then dAt s.data.toList j else 0))
  com : wx.ownsRow (q + 1) 3 1 v (commasTo s.data.toList k).length (cvals (commasTo s.data.toList k))
  bel : Below w.heap.size w wx
  lq : w.heap.size < q

theorem W2.start {s : ByteArray} {w wx : World} (h : W1d s w wx) : W2 s w wx.heap.size 0 (.slice none 0 0) (wx.alloc (.cells (madeCells #[.int .i64 0] s.size) 3)) where
  syn := h.1.alloc _
  dep := (World.rowIs_made wx (.int .i64 0) s.size 3).congr (fun i _ => by simp)
  com := World.ownsRow_nil _ _ _ _
  bel := h.2.alloc h.2.size _
  lq := h.1.lt

theorem W2.idle {s : ByteArray} {w wx : World} {q k : Nat} {v : Value} (h : W2 s w q k v wx) (hk : synB s.data.toList k = false) : W2 s w q (k + 1) v wx where
  syn := h.syn
  dep := h.dep.congr (fun i _ => by
    by_cases h1 : i = k
    · subst h1; simp [hk]
    · have e : (i < k) ↔ (i < k + 1) := by omega
      simp only [e])
  com := by
    have e : commasTo s.data.toList (k + 1) = commasTo s.data.toList k := by
      have : comB s.data.toList k = false := by simp only [comB, hk, Bool.false_and]
      simp [commasTo, this]
    rw [e]
    exact h.com
  bel := h.bel
  lq := h.lq

/-- The depth written down. -/
theorem W2.note {s : ByteArray} {w wx : World} {q k : Nat} {v : Value} (h : W2 s w q k v wx) (hk : synB s.data.toList k = true) (hc : comB s.data.toList k = false) :
    W2 s w q (k + 1) v (wx.setCell ⟨q, k, none⟩ (.int .i64 (dAt s.data.toList k))) where
  syn := h.syn.setOther (by have := h.lq; show w.heap.size ≠ q; omega) _
  dep := (h.dep.set k _).congr (fun i _ => by
    by_cases h1 : i = k
    · subst h1; simp [hk]
    · rw [if_neg h1]
      have e : (i < k) ↔ (i < k + 1) := by omega
      simp only [e])
  com := by
    have e : commasTo s.data.toList (k + 1) = commasTo s.data.toList k := by simp [commasTo, hc]
    rw [e]
    exact ownsRow_setCell_below h.com (by show q < q + 1; omega) _
  bel := h.bel.setCell (by have := h.lq; show w.heap.size ≤ q; omega) _
  lq := h.lq

/-- A comma written down, and its depth. -/
theorem W2.comma {s : ByteArray} {w wx w1 : World} {q k g cap m : Nat} {v : Value} (h : W2 s w q k v wx) (hk : synB s.data.toList k = true) (hc : comB s.data.toList k = true) (hm : m = (commasTo s.data.toList k).length) (o : Obj)
    (hown : w1.ownsRow (q + 1) 3 1 (.slice (some ⟨g, 0, none⟩) (m + 1) cap) (m + 1) (cvals (commasTo s.data.toList k) ++ [.int .i64 (k : Int)]))
    (hg : ((wx.setCell ⟨q, k, none⟩ (.int .i64 (dAt s.data.toList k))).alloc o).grownBy w1 v.ownBlock) :
    W2 s w q (k + 1) (.slice (some ⟨g, 0, none⟩) (m + 1) cap) w1 := by
  have hq : q < wx.heap.size := h.dep.lt
  have hs0 : ((wx.setCell ⟨q, k, none⟩ (.int .i64 (dAt s.data.toList k))).alloc o).heap.size = wx.heap.size + 1 := by simp [World.setCell]
  have hr : ∀ j, v.ownBlock = some j → q + 1 ≤ j := fun j hj => (h.com.lt j hj).1
  have hb : ∀ j, j ≤ q → w1.heap[j]? = ((wx.setCell ⟨q, k, none⟩ (.int .i64 (dAt s.data.toList k))).alloc o).heap[j]? := fun j hj => hg.block j (by omega) (fun e => by have := hr j e.symm; omega)
  refine ⟨?_, ?_, ?_, ?_, h.lq⟩
  · exact ((h.syn.setOther (by have := h.lq; show w.heap.size ≠ q; omega) _).alloc o).of_block (hb _ (by have := h.lq; omega))
  · refine (((h.dep.set k (.int .i64 (dAt s.data.toList k))).alloc o).of_block (hb q (Nat.le_refl _))).congr (fun i _ => ?_)
    by_cases h1 : i = k
    · subst h1; simp [hk]
    · rw [if_neg h1]
      have e : (i < k) ↔ (i < k + 1) := by omega
      simp only [e]
  · have e : commasTo s.data.toList (k + 1) = commasTo s.data.toList k ++ [k] := by simp [commasTo, hc]
    rw [e]
    have e2 : cvals (commasTo s.data.toList k ++ [k]) = cvals (commasTo s.data.toList k) ++ [.int .i64 (k : Int)] := by simp [cvals]
    have e3 : (commasTo s.data.toList k ++ [k]).length = m + 1 := by simp [hm]
    rw [e2, e3]
    exact hown
  · have h1 := (h.bel.setCell (p := ⟨q, k, none⟩) (by have := h.lq; show w.heap.size ≤ q; omega) (.int .i64 (dAt s.data.toList k)))
    have h2 := h1.alloc h1.size o
    exact h2.grown hg h2.size (fun j hj => by have := hr j hj; have := h.lq; omega)

/-- The third pass reads what the second left in wd. -/
structure W3 (s : ByteArray) (w : World) (q x m : Nat) (ao : Option Addr) (wd : World) : Prop where
  syn : ∀ j, j < s.size → wd.cell? ⟨w.heap.size, j, none⟩ = some (.bool (synB s.data.toList j))
  dep : ∀ j, j < s.size → j < x → synB s.data.toList j = true → wd.cell? ⟨q, j, none⟩ = some (.int .i64 (dAt s.data.toList j))
  com : ∀ e (c : Nat), (commasTo s.data.toList x)[e]? = some c → ∃ g, ao = some ⟨g, 0, none⟩ ∧ g < wd.heap.size ∧ wd.cell? ⟨g, e, none⟩ = some (.int .i64 (c : Int))
  len : m = (commasTo s.data.toList x).length
  lw : w.heap.size < wd.heap.size
  lq : q < wd.heap.size
  bel : Below w.heap.size w wd

theorem W2.third {s : ByteArray} {w wx : World} {q x : Nat} {v : Value} (h : W2 s w q (x + 1) v wx) (hf : finB s.data.toList x = true) :
    ∃ ao m cap, v = .slice ao m cap ∧ W3 s w q x m ao wx := by
  have hx : comB s.data.toList x = false := by
    unfold finB at hf
    rw [Bool.and_eq_true, Bool.and_eq_true] at hf
    have hne := close_ne _ hf.1.2
    have q1 : (s.data.toList.getD x 0 == 44) = false := by
      rw [beq_eq_false_iff_ne]
      intro e
      have := hf.1.2
      rw [e] at this
      simp [isClose] at this
    simp only [comB, q1, Bool.and_false, Bool.false_and]
  have e : commasTo s.data.toList (x + 1) = commasTo s.data.toList x := by simp [commasTo, hx]
  have hcom := h.com
  rw [e] at hcom
  have hlw : w.heap.size < wx.heap.size := h.syn.lt
  have hsyn : ∀ j, j < s.size → wx.cell? ⟨w.heap.size, j, none⟩ = some (.bool (synB s.data.toList j)) := fun j hj => h.syn.cell hj
  have hdep : ∀ j, j < s.size → j < x → synB s.data.toList j = true → wx.cell? ⟨q, j, none⟩ = some (.int .i64 (dAt s.data.toList j)) := fun j hj hjx hs => by
    have := h.dep.cell hj
    rw [if_pos ⟨by omega, hs⟩] at this
    exact this
  rcases hcom.2 with ⟨hv, h0⟩ | ⟨g, cap, cur, hv, hb, hg, h1, h2, h3, h4⟩
  · refine ⟨none, 0, 0, hv, hsyn, hdep, ?_, h0.symm, hlw, h.dep.lt, h.bel⟩
    intro e c hc
    have := (List.getElem?_eq_some_iff.1 hc).1
    omega
  · refine ⟨_, _, _, hv, hsyn, hdep, ?_, rfl, hlw, h.dep.lt, h.bel⟩
    intro e c hc
    refine ⟨g, rfl, (Array.getElem?_eq_some_iff.1 hg).1, ?_⟩
    have hlt := (List.getElem?_eq_some_iff.1 hc).1
    rw [hv] at hcom
    rw [hcom.cellAt e (by omega)]
    simp [cvals, hc]

theorem ownsRow_base {w : World} {base base' : Nat} {e : TypeId} {size : Nat} {v : Value} {n : Nat} {xs : List Value} (h : w.ownsRow base e size v n xs) (hb : base' ≤ base) : w.ownsRow base' e size v n xs := by
  refine ⟨h.1, ?_⟩
  rcases h.2 with h2 | ⟨g, cap, cur, hv, hg, hr⟩
  · exact .inl h2
  · exact .inr ⟨g, cap, cur, hv, Nat.le_trans hb hg, hr⟩

/-! ### Plain: the ends in order -/
theorem segScan_bound (L : List UInt8) (a : Nat) : ∀ k, a ≤ k → a ≤ (segScan L a k).1 ∧ (segScan L a k).1 ≤ k := by
  intro k
  induction k with
  | zero => intro h; simp [segScan]; omega
  | succ k ih =>
    intro h
    rw [segScan]
    split
    · simp; omega
    · have := ih (by omega)
      rw [segStep]
      split
      · split
        · simp; omega
        · split
          · split
            · simp; omega
            · omega
          · omega
      · omega

theorem ordered_at : ∀ (bs : List Nat) (a e : Nat) (b : Nat), Ordered a bs → bs[e]? = some b → startOf a (bs.take e) ≤ b := by
  intro bs
  induction bs with
  | nil => intro a e b _ h; simp at h
  | cons x r ih =>
    intro a e b h hb
    cases e with
    | zero =>
      simp at hb
      subst hb
      simp [startOf]
      exact h.1
    | succ e =>
      simp at hb
      simp [startOf]
      exact ih (x + 1) e b h.2 hb

theorem startOf_pos : ∀ (bs : List Nat) (a : Nat), 1 ≤ a → 1 ≤ startOf a bs := by
  intro bs
  induction bs with
  | nil => intro a h; exact h
  | cons x r ih => intro a _; exact ih (x + 1) (by omega)

theorem take_snoc {bs : List Nat} {e b : Nat} (h : bs[e]? = some b) : bs.take (e + 1) = bs.take e ++ [b] := by
  rw [List.take_add_one, h]
  rfl

/-- The ends: the commas, then the closing byte. -/
def ends (L : List UInt8) (x : Nat) : List Nat := commasTo L x ++ [x]

theorem ends_bound (L : List UInt8) (x e b : Nat) (h : (ends L x)[e]? = some b) : b ≤ x := by
  have hm : b ∈ ends L x := List.mem_of_getElem? h
  rcases List.mem_append.1 hm with h1 | h1
  · have := (commas_bound L x).2 b h1; omega
  · simp at h1; omega

theorem ends_ordered (L : List UInt8) (x : Nat) (h : finB L x = true) : Ordered 1 (ends L x) := by
  refine ordered_snoc x _ 1 (commas_ordered L x) ?_
  have hd : dAt L x = 1 := by
    unfold finB at h
    rw [Bool.and_eq_true] at h
    simpa using h.2
  have := (dAt_bound L x).2
  have := startOf_le L x
  omega

theorem segsOf_take (L : List UInt8) (bs : List Nat) (e b : Nat) (h : bs[e]? = some b) :
    segsOf L 1 (bs.take (e + 1)) = segsOf L 1 (bs.take e) ++ [((segScan L (startOf 1 (bs.take e)) b).1, b)] := by
  rw [take_snoc h, segsOf_snoc]

theorem startOf_take (bs : List Nat) (e b : Nat) (h : bs[e]? = some b) : startOf 1 (bs.take (e + 1)) = b + 1 := by
  rw [take_snoc h, startOf_snoc]

theorem segsOf_length (L : List UInt8) : ∀ (bs : List Nat) (a : Nat), (segsOf L a bs).length = bs.length := by
  intro bs
  induction bs with
  | nil => intro a; rfl
  | cons x r ih => intro a; simp [segsOf, ih]

end Go.Proofs.Qxb6600920aMods
