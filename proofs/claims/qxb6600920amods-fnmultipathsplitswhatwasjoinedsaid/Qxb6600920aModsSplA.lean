/- Plain facts and small laws for FnMultipathSplitsWhatWasJoined (6). -/
import Derived.Test.Qxb6600920aModsCs
import Derived.Lib.AppendStr
import Derived.Deep.QuietTactic
import Derived.BigQuiet
namespace Go.Proofs.Qxb6600920aMods
open Go.RowKit

theorem info5 : (Trym.prog.info? 5).map (fun i => (i.zero, i.size, i.bytes)) = some (some (.int .u8 0), 1, 1) := by kernel_rfl

def sumSz (l : List ByteArray) : Nat := (l.map (fun s => 16 + s.size)).sum

theorem sumSz_next (ss : List ByteArray) (k : Nat) (h : k < ss.length) : sumSz (ss.take (k + 1)) = sumSz (ss.take k) + (16 + (ss.getD k ByteArray.empty).size) := by
  have e : ss.getD k ByteArray.empty = ss[k] := by simp [h]
  rw [List.take_succ_eq_append_getElem h, e]
  unfold sumSz
  rw [List.map_append, List.sum_append]
  simp only [List.map_cons, List.map_nil, List.sum_cons, List.sum_nil, Nat.add_zero]

theorem sumSz_all (ss : List ByteArray) (k : Nat) (h : ss.length ≤ k) : sumSz (ss.take k) = sumSz ss := by rw [List.take_of_length_le h]

/-- The elements, as plain lists. -/
def itsOf (ns ps : List ByteArray) : List (Option (List UInt8) × List UInt8) :=
  if ns = [] then ps.map (fun p => (none, p.data.toList)) else List.zipWith (fun n p => (some n.data.toList, p.data.toList)) ns ps

theorem itsOf_length (ns ps : List ByteArray) (h : ns = [] ∨ ns.length = ps.length) : (itsOf ns ps).length = ps.length := by
  unfold itsOf
  split
  · simp
  · simp
    rcases h with h | h
    · contradiction
    · omega

theorem itsOf_get_nil (ps : List ByteArray) (k : Nat) (h : k < ps.length) : (itsOf [] ps)[k]? = some (none, (ps.getD k ByteArray.empty).data.toList) := by
  simp [itsOf, h]

theorem itsOf_get (ns ps : List ByteArray) (hn : ns ≠ []) (k : Nat) (h : k < ps.length) (h' : k < ns.length) :
    (itsOf ns ps)[k]? = some (some (ns.getD k ByteArray.empty).data.toList, (ps.getD k ByteArray.empty).data.toList) := by
  simp [itsOf, hn, h, h', List.getElem?_zipWith]

/-- What the buffer holds after k rounds. -/
def headTo (o : UInt8) (its : List (Option (List UInt8) × List UInt8)) (k : Nat) : List UInt8 := o :: joinFrom true (its.take k)

theorem headTo_zero (o : UInt8) (its : List (Option (List UInt8) × List UInt8)) : headTo o its 0 = [o] := by simp [headTo, joinFrom]

theorem headTo_next (o : UInt8) (its : List (Option (List UInt8) × List UInt8)) (k : Nat) (it : Option (List UInt8) × List UInt8) (h : its[k]? = some it) :
    headTo o its (k + 1) = headTo o its k ++ ((if k = 0 then [] else [44]) ++ item it) := by
  obtain ⟨hlt, he⟩ := List.getElem?_eq_some_iff.1 h
  unfold headTo
  rw [List.take_succ_eq_append_getElem hlt, he, joinFrom_snoc, List.cons_append]
  by_cases hk : k = 0
  · subst hk
    simp
  · have : its.take k ≠ [] := by
      intro e
      have hl : (its.take k).length = k := by rw [List.length_take]; omega
      rw [e] at hl
      exact hk hl.symm
    simp [hk, this]

def itemSz (it : Option (List UInt8) × List UInt8) : Nat := 16 + it.2.length + (match it.1 with | none => 0 | some n => 16 + n.length)

theorem item_le (it : Option (List UInt8) × List UInt8) : (item it).length + 1 ≤ itemSz it := by
  obtain ⟨nm, p⟩ := it
  cases nm with
  | none => simp [item, itemSz]; omega
  | some n => simp [item, itemSz]; omega

theorem joinFrom_le : ∀ (its : List (Option (List UInt8) × List UInt8)) (b : Bool), (joinFrom b its).length ≤ (its.map itemSz).sum := by
  intro its
  induction its with
  | nil => intro b; simp [joinFrom]
  | cons it r ih =>
    intro b
    have h1 := item_le it
    have h2 := ih false
    simp only [joinFrom, List.length_append, List.map_cons, List.sum_cons]
    cases b
    · simp; omega
    · simp; omega

theorem item_le3 (it : Option (List UInt8) × List UInt8) : (item it).length + 4 ≤ itemSz it := by
  obtain ⟨nm, p⟩ := it
  cases nm with
  | none => simp [item, itemSz]; omega
  | some n => simp [item, itemSz]; omega

theorem joinFrom_le3 (its : List (Option (List UInt8) × List UInt8)) (h : its ≠ []) : (joinFrom true its).length + 4 ≤ (its.map itemSz).sum := by
  obtain ⟨it, r, rfl⟩ := List.exists_cons_of_ne_nil h
  have h1 := item_le3 it
  have h2 := joinFrom_le r false
  simp only [joinFrom, List.length_append, List.map_cons, List.sum_cons, if_true, List.length_nil]
  omega

theorem sum_take_le (l : List Nat) (k : Nat) : (l.take k).sum ≤ l.sum := by
  induction l generalizing k with
  | nil => simp
  | cons x r ih =>
    cases k with
    | zero => simp
    | succ k => simp only [List.take_succ_cons, List.sum_cons]; have := ih k; omega

theorem its_sum_zip : ∀ (ns ps : List ByteArray), ((List.zipWith (fun n p : ByteArray => (some n.data.toList, p.data.toList)) ns ps).map itemSz).sum ≤ sumSz ns + sumSz ps := by
  intro ns
  induction ns with
  | nil => intro ps; simp
  | cons n r ih =>
    intro ps
    cases ps with
    | nil => simp
    | cons p q =>
      have := ih q
      simp only [List.zipWith_cons_cons, List.map_cons, List.sum_cons, sumSz, itemSz] at this ⊢
      have e1 : n.data.toList.length = n.size := by simp
      have e2 : p.data.toList.length = p.size := by simp
      omega

theorem its_sum (ns ps : List ByteArray) : ((itsOf ns ps).map itemSz).sum ≤ sumSz ns + sumSz ps := by
  unfold itsOf
  split
  · rename_i h
    subst h
    have : ∀ l : List ByteArray, ((l.map (fun p => ((none : Option (List UInt8)), p.data.toList))).map itemSz).sum = sumSz l := by
      intro l
      induction l with
      | nil => rfl
      | cons p r ih =>
        simp only [List.map_cons, List.sum_cons, ih, sumSz, itemSz]
        have e2 : p.data.toList.length = p.size := by simp
        omega
    rw [this]
    omega
  · exact its_sum_zip ns ps

theorem headTo_le (o : UInt8) (ns ps : List ByteArray) (k : Nat) : (headTo o (itsOf ns ps) k).length ≤ sumSz ns + sumSz ps + 1 := by
  unfold headTo
  have h1 := joinFrom_le ((itsOf ns ps).take k) true
  have h2 := sum_take_le ((itsOf ns ps).map itemSz) k
  have h3 := its_sum ns ps
  rw [← List.map_take] at h2
  simp only [List.length_cons]
  omega

theorem headAll_le (o : UInt8) (ns ps : List ByteArray) (h : ns = [] ∨ ns.length = ps.length) (hne : ps ≠ []) : (headTo o (itsOf ns ps) ps.length).length + 1 ≤ sumSz ns + sumSz ps := by
  have hl := itsOf_length ns ps h
  have hits : itsOf ns ps ≠ [] := by
    intro e
    rw [e] at hl
    exact hne (List.eq_nil_of_length_eq_zero (by simpa using hl.symm))
  have h1 := joinFrom_le3 (itsOf ns ps) hits
  have h3 := its_sum ns ps
  unfold headTo
  rw [List.take_of_length_le (by omega)]
  simp only [List.length_cons]
  omega

/-- The bytes as cells. -/
def bcells (l : List UInt8) : List Value := l.map fun b => Value.int .u8 b.toNat

theorem bcells_append (a b : List UInt8) : bcells a ++ bcells b = bcells (a ++ b) := by simp [bcells]
theorem bcells_length (a : List UInt8) : (bcells a).length = a.length := by simp [bcells]
theorem own_at {w : World} {B n : Nat} {v : Value} {l : List UInt8} (l' : List UInt8) (h : Hid (w.ownsRow B 5 1 v n (bcells l))) (e : l = l') : Hid (w.ownsRow B 5 1 v n (bcells l')) := e ▸ h
theorem own_cast {w : World} {B n : Nat} {e : TypeId} {v : Value} {xs ys : List Value} (h : w.ownsRow B e 1 v n xs) (he : xs = ys) : w.ownsRow B e 1 v n ys := he ▸ h
theorem strCells_eq (s : ByteArray) : Lib.strCells s = bcells s.data.toList := rfl

theorem bcells_one (l : List UInt8) : ∀ u ∈ bcells l, u.oneCell' = true := by
  intro u hu
  obtain ⟨b, _, rfl⟩ := List.mem_map.1 hu
  rfl

def PlainTo (ps : List ByteArray) (k : Nat) : Prop := ∀ j, j < k → ∀ c ∈ (ps.getD j ByteArray.empty).data.toList, plainB c = true
def PlainPre (x : ByteArray) (m : Nat) : Prop := ∀ c ∈ x.data.toList.take m, plainB c = true
def NameTo (ns : List ByteArray) (k : Nat) : Prop := ∀ j, j < k → ∀ c ∈ (ns.getD j ByteArray.empty).data.toList, c ≠ 34 ∧ c ≠ 92
def NamePre (x : ByteArray) (m : Nat) : Prop := ∀ c ∈ x.data.toList.take m, c ≠ 34 ∧ c ≠ 92

theorem take_next (x : ByteArray) (m : Nat) (h : m < x.size) : x.data.toList.take (m + 1) = x.data.toList.take m ++ [x[m]] := by
  rw [List.take_succ_eq_append_getElem (by simpa using h)]
  rfl

theorem PlainPre.next {x : ByteArray} {m : Nat} (h : PlainPre x m) (hm : m < x.size) (hc : plainB x[m] = true) : PlainPre x (m + 1) := by
  intro c hc'
  rw [take_next x m hm] at hc'
  rcases List.mem_append.1 hc' with h1 | h1
  · exact h c h1
  · simp at h1; subst h1; exact hc

theorem NamePre.next {x : ByteArray} {m : Nat} (h : NamePre x m) (hm : m < x.size) (h1 : x[m] ≠ 34) (h2 : x[m] ≠ 92) : NamePre x (m + 1) := by
  intro c hc'
  rw [take_next x m hm] at hc'
  rcases List.mem_append.1 hc' with h3 | h3
  · exact h c h3
  · simp at h3; subst h3; exact ⟨h1, h2⟩

theorem PlainTo.next {ps : List ByteArray} {k m : Nat} (h : PlainTo ps k) (hp : PlainPre (ps.getD k ByteArray.empty) m) (hm : (ps.getD k ByteArray.empty).size ≤ m) : PlainTo ps (k + 1) := by
  intro j hj
  by_cases e : j = k
  · subst e
    unfold PlainPre at hp
    rw [List.take_of_length_le (by simpa using hm)] at hp
    exact hp
  · exact h j (by omega)

theorem NameTo.next {ps : List ByteArray} {k m : Nat} (h : NameTo ps k) (hp : NamePre (ps.getD k ByteArray.empty) m) (hm : (ps.getD k ByteArray.empty).size ≤ m) : NameTo ps (k + 1) := by
  intro j hj
  by_cases e : j = k
  · subst e
    unfold NamePre at hp
    rw [List.take_of_length_le (by simpa using hm)] at hp
    exact hp
  · exact h j (by omega)

theorem its_good (ns ps : List ByteArray) (hn : NameTo ns ns.length) (hp : PlainTo ps ps.length) : ∀ x ∈ itsOf ns ps, GoodItem x := by
  have hp' : ∀ p ∈ ps, ∀ c ∈ p.data.toList, plainB c = true := by
    intro p hpm
    obtain ⟨j, hj, rfl⟩ := List.mem_iff_getElem.1 hpm
    have := hp j hj
    simpa [hj] using this
  have hn' : ∀ p ∈ ns, ∀ c ∈ p.data.toList, c ≠ 34 ∧ c ≠ 92 := by
    intro p hpm
    obtain ⟨j, hj, rfl⟩ := List.mem_iff_getElem.1 hpm
    have := hn j hj
    simpa [hj] using this
  intro x hx
  unfold itsOf at hx
  split at hx
  · obtain ⟨p, hpm, rfl⟩ := List.mem_map.1 hx
    exact ⟨hp' p hpm, by simp⟩
  · obtain ⟨i, hi, rfl⟩ := List.mem_iff_getElem.1 hx
    simp at hi
    simp only [List.getElem_zipWith]
    refine ⟨hp' _ (List.getElem_mem _), fun n e => ?_⟩
    simp at e
    subst e
    exact hn' _ (List.getElem_mem _)

theorem its_snd (ns ps : List ByteArray) (h : ns = [] ∨ ns.length = ps.length) : (itsOf ns ps).map (·.2) = ps.map (fun p => p.data.toList) := by
  unfold itsOf
  split
  · simp
  · rename_i h0
    have hl := h.resolve_left h0
    apply List.ext_getElem
    · simp; omega
    · intro i h1 h2
      simp

/-- What multipath finds in the joined text. -/
theorem joined_path (ns ps : List ByteArray) (o q : UInt8) (ho : isOpen o = true) (hq : isClose q = true) (h : ns = [] ∨ ns.length = ps.length) (hne : ps ≠ []) (hn : NameTo ns ns.length) (hp : PlainTo ps ps.length) (t : ByteArray) :
    ∃ R, mPath ((⟨(headTo o (itsOf ns ps) ps.length ++ [q]).toArray⟩ : ByteArray) ++ t).data.toList = some (R, (headTo o (itsOf ns ps) ps.length ++ [q]).length) ∧ R.length = ps.length ∧
      elems ((⟨(headTo o (itsOf ns ps) ps.length ++ [q]).toArray⟩ : ByteArray) ++ t) R = ps.map Value.string := by
  have hl := itsOf_length ns ps h
  have e1 : headTo o (itsOf ns ps) ps.length ++ [q] = o :: (joinFrom true (itsOf ns ps) ++ [q]) := by
    unfold headTo
    rw [List.take_of_length_le (by omega), List.cons_append]
  have e2 : ((⟨(headTo o (itsOf ns ps) ps.length ++ [q]).toArray⟩ : ByteArray) ++ t).data.toList = (o :: (joinFrom true (itsOf ns ps) ++ [q])) ++ t.data.toList := by
    rw [ByteArray.data_append, Array.toList_append, e1]
  have hits : itsOf ns ps ≠ [] := by
    intro e
    rw [e] at hl
    exact hne (List.eq_nil_of_length_eq_zero (by simpa using hl.symm))
  refine ⟨rangesFrom 1 (itsOf ns ps), ?_, ?_, ?_⟩
  · rw [e2, e1]
    exact mPath_joined o q ho hq (itsOf ns ps) hits (its_good ns ps hn hp) t.data.toList
  · have : ∀ (its : List (Option (List UInt8) × List UInt8)) (st : Nat), (rangesFrom st its).length = its.length := by
      intro its
      induction its with
      | nil => intro st; rfl
      | cons x r ih => intro st; simp [rangesFrom, ih]
    rw [this, hl]
  · have hr := ranges_hold ((o :: (joinFrom true (itsOf ns ps) ++ [q])) ++ t.data.toList) (q :: t.data.toList) (itsOf ns ps) true 1 (by simp)
    simp only [if_true, Nat.add_zero] at hr
    rw [its_snd ns ps h] at hr
    unfold elems
    have hx : ∀ p : Nat × Nat, Value.string (ByteArray.extract ((⟨(headTo o (itsOf ns ps) ps.length ++ [q]).toArray⟩ : ByteArray) ++ t) p.1 p.2) =
        Value.string ⟨((((o :: (joinFrom true (itsOf ns ps) ++ [q])) ++ t.data.toList).drop p.1).take (p.2 - p.1)).toArray⟩ := by
      intro p
      congr 1
      apply ByteArray.ext
      apply Array.toList_inj.1
      rw [Lib.extract_data, e2]
    rw [List.map_congr_left (fun p _ => hx p)]
    have hm := congrArg (List.map (fun l : List UInt8 => Value.string ⟨l.toArray⟩)) hr
    rw [List.map_map, List.map_map] at hm
    exact hm

end Go.Proofs.Qxb6600920aMods
