/- PLAIN LAWS: what was joined comes apart again. No Go in sight. -/
import Derived.Test.Qxb6600920aModsPlainM
namespace Go.Proofs.Qxb6600920aMods

def plainB (c : UInt8) : Bool := !(c == 92 || c == 34 || c == 64 || c == 58 || c == 44 || c == 123 || c == 125 || c == 91 || c == 93 || c == 40 || c == 41)

/-- One element: its path, behind its quoted name and a colon where it has a name. -/
def item : Option (List UInt8) × List UInt8 → List UInt8
  | (none, p) => p
  | (some n, p) => 34 :: (n ++ 34 :: 58 :: p)

def itemOff : Option (List UInt8) × List UInt8 → Nat
  | (none, _) => 0
  | (some n, _) => n.length + 3

/-- The elements, each behind a comma but the first. -/
def joinFrom : Bool → List (Option (List UInt8) × List UInt8) → List UInt8
  | _, [] => []
  | first, it :: r => (if first = true then [] else [44]) ++ (item it ++ joinFrom false r)

def rangesFrom : Nat → List (Option (List UInt8) × List UInt8) → List (Nat × Nat)
  | _, [] => []
  | st, it :: r => (st + itemOff it, st + (item it).length) :: rangesFrom (st + (item it).length + 1) r

def GoodItem (it : Option (List UInt8) × List UInt8) : Prop := (∀ c ∈ it.2, plainB c = true) ∧ ∀ n, it.1 = some n → ∀ c ∈ n, c ≠ 34 ∧ c ≠ 92

theorem plain_ne (c : UInt8) (h : plainB c = true) : c ≠ 92 ∧ c ≠ 34 ∧ c ≠ 64 ∧ c ≠ 58 ∧ c ≠ 44 ∧ isOpen c = false ∧ isClose c = false := by
  simp [plainB] at h
  simp [isOpen, isClose, h]

theorem scan_plain (L : List UInt8) (S : MSt) (rest : List UInt8) : ∀ (p : List UInt8) (i : Nat), (∀ c ∈ p, plainB c = true) → mScan L 0 S i (p ++ rest) = mScan L 0 S (i + p.length) rest := by
  intro p
  induction p with
  | nil => intro i _; rfl
  | cons c r ih =>
    intro i h
    obtain ⟨h1, h2, h3, h4, h5, h6, h7⟩ := plain_ne c (h c (by simp))
    rw [List.cons_append, mScan, if_neg (by simp [h7])]
    have e : mStep L S i c = S := by simp [mStep, h3, h4, h5, h6, h7]
    simp only [nxt, h1, h2, if_false, if_true, e]
    rw [ih (i + 1) (fun c hc => h c (by simp [hc]))]
    rw [List.length_cons, show i + 1 + r.length = i + (r.length + 1) by omega]

theorem scan_name (L : List UInt8) (S : MSt) (rest : List UInt8) : ∀ (n : List UInt8) (i : Nat), (∀ c ∈ n, c ≠ 34 ∧ c ≠ 92) → mScan L 1 S i (n ++ 34 :: rest) = mScan L 0 S (i + n.length + 1) rest := by
  intro n
  induction n with
  | nil =>
    intro i _
    rw [List.nil_append, mScan, if_neg (by omega)]
    simp [nxt]
  | cons c r ih =>
    intro i h
    obtain ⟨h1, h2⟩ := h c (by simp)
    rw [List.cons_append, mScan, if_neg (by omega)]
    simp only [nxt, h1, h2, if_false]
    rw [if_neg (by omega), ih (i + 1) (fun c hc => h c (by simp [hc]))]
    rw [List.length_cons, show i + 1 + r.length + 1 = i + (r.length + 1) + 1 by omega]

/-- One element, from its start: its path's range lies open. -/
theorem scan_item (L : List UInt8) (acc : List (Nat × Nat)) (rest : List UInt8) (it : Option (List UInt8) × List UInt8) (st : Nat) (h : GoodItem it) :
    mScan L 0 ⟨1, st, st, false, acc⟩ st (item it ++ rest) = mScan L 0 ⟨1, st, st + itemOff it, false, acc⟩ (st + (item it).length) rest := by
  obtain ⟨nm, p⟩ := it
  cases nm with
  | none => exact scan_plain L _ rest p st h.1
  | some n =>
    have hn := h.2 n rfl
    show mScan L 0 _ st ((34 :: (n ++ 34 :: 58 :: p)) ++ rest) = _
    rw [List.cons_append, mScan, if_neg (by simp [isClose])]
    simp only [nxt, if_true, mStep_esc L _ st 34 (.inr rfl)]
    rw [if_neg (by decide), List.append_assoc]
    show mScan L 1 _ (st + 1) (n ++ 34 :: (58 :: (p ++ rest))) = _
    rw [scan_name L _ _ n (st + 1) hn, mScan, if_neg (by simp [isClose])]
    have e : mStep L ⟨1, st, st, false, acc⟩ (st + 1 + n.length + 1) 58 = ⟨1, st, st + (n.length + 3), false, acc⟩ := by
      simp [mStep]
      omega
    simp only [nxt, if_true, e]
    rw [if_neg (by decide), if_neg (by decide), scan_plain L _ rest p _ h.1]
    simp only [item, itemOff, List.length_cons, List.length_append]
    rw [show st + 1 + n.length + 1 + 1 + p.length = st + (n.length + (p.length + 1 + 1) + 1) by omega]

theorem scan_items (L : List UInt8) (q : UInt8) (hq : isClose q = true) (t : List UInt8) : ∀ (r : List (Option (List UInt8) × List UInt8)) (it : Option (List UInt8) × List UInt8) (acc : List (Nat × Nat)) (st : Nat),
    GoodItem it → (∀ x ∈ r, GoodItem x) →
    mScan L 0 ⟨1, st, st, false, acc⟩ st (item it ++ (joinFrom false r ++ q :: t)) = some (acc ++ rangesFrom st (it :: r), st + (item it ++ joinFrom false r).length + 1) := by
  intro r
  induction r with
  | nil =>
    intro it acc st h _
    rw [scan_item L acc _ it st h]
    show mScan L 0 _ _ (q :: t) = _
    rw [mScan, if_pos ⟨rfl, hq, rfl⟩]
    simp [rangesFrom, joinFrom]
  | cons it2 r ih =>
    intro it acc st h hr
    rw [scan_item L acc _ it st h]
    have e : joinFrom false (it2 :: r) ++ q :: t = 44 :: (item it2 ++ (joinFrom false r ++ q :: t)) := by simp [joinFrom]
    rw [e, mScan, if_neg (by simp [isClose])]
    have e2 : mStep L ⟨1, st, st + itemOff it, false, acc⟩ (st + (item it).length) 44 = ⟨1, st + (item it).length + 1, st + (item it).length + 1, false, acc ++ [(st + itemOff it, st + (item it).length)]⟩ := by simp [mStep]
    simp only [nxt, if_true, e2]
    rw [if_neg (by decide), if_neg (by decide), ih it2 _ _ (hr it2 (by simp)) (fun x hx => hr x (by simp [hx]))]
    simp [rangesFrom, joinFrom]
    omega

/-- THE THIRD LAW's HEART. -/
theorem mPath_joined (o q : UInt8) (ho : isOpen o = true) (hq : isClose q = true) (its : List (Option (List UInt8) × List UInt8)) (hne : its ≠ []) (hg : ∀ x ∈ its, GoodItem x) (t : List UInt8) :
    mPath ((o :: (joinFrom true its ++ [q])) ++ t) = some (rangesFrom 1 its, (o :: (joinFrom true its ++ [q])).length) := by
  obtain ⟨it, r, rfl⟩ := List.exists_cons_of_ne_nil hne
  obtain ⟨h1, h2, h3, h4, h5, h6⟩ := open_ne o ho
  unfold mPath
  have e : (o :: (joinFrom true (it :: r) ++ [q])) ++ t = o :: (item it ++ (joinFrom false r ++ q :: t)) := by simp [joinFrom]
  generalize hL : (o :: (joinFrom true (it :: r) ++ [q])) ++ t = L
  rw [← hL]
  conv => lhs; arg 5; rw [e]
  rw [mScan, if_neg (by simp [h6])]
  have e2 : mStep L mInit 0 o = ⟨1, 1, 1, false, []⟩ := by simp [mStep, h3, h4, h5, ho, mInit]
  rw [hL]
  simp only [nxt, h1, h2, if_false, if_true, e2]
  rw [scan_items L q hq t r it [] 1 (hg it (by simp)) (fun x hx => hg x (by simp [hx]))]
  simp [joinFrom]
  omega

/-- What lies in the ranges: the paths. -/
theorem ranges_hold (L q : List UInt8) : ∀ (r : List (Option (List UInt8) × List UInt8)) (first : Bool) (st : Nat), L.drop st = joinFrom first r ++ q →
    (rangesFrom (st + if first = true then 0 else 1) r).map (fun p => (L.drop p.1).take (p.2 - p.1)) = r.map (·.2) := by
  intro r
  induction r with
  | nil => intro first st _; rfl
  | cons it r ih =>
    intro first st h
    obtain ⟨st', hst'⟩ : ∃ st', st' = st + (if first = true then 0 else 1) := ⟨_, rfl⟩
    rw [← hst']
    have h1 : L.drop st' = item it ++ (joinFrom false r ++ q) := by
      rw [hst', ← List.drop_drop, h]
      cases first <;> simp [joinFrom]
    have h2 : L.drop (st' + (item it).length) = joinFrom false r ++ q := by
      rw [← List.drop_drop, h1, List.drop_left]
    have ih' := ih false (st' + (item it).length) h2
    simp only [rangesFrom, List.map_cons]
    rw [show (if false = true then 0 else 1) = 1 from rfl] at ih'
    rw [ih']
    congr 1
    rw [← List.drop_drop, h1]
    obtain ⟨nm, p⟩ := it
    cases nm with
    | none =>
      simp [item, itemOff]
    | some n =>
      show List.take _ (List.drop (n.length + 3) ((34 :: (n ++ 34 :: 58 :: p)) ++ (joinFrom false r ++ q))) = p
      have e : (34 :: (n ++ 34 :: 58 :: p)) ++ (joinFrom false r ++ q) = (34 :: (n ++ [34, 58])) ++ (p ++ (joinFrom false r ++ q)) := by simp
      rw [e, List.drop_left' (by simp)]
      simp only [item, itemOff, List.length_cons, List.length_append]
      rw [show st' + (n.length + (p.length + 1 + 1) + 1) - (st' + (n.length + 3)) = p.length by omega, List.take_left]

theorem joinFrom_snoc : ∀ (r : List (Option (List UInt8) × List UInt8)) (first : Bool) (it : Option (List UInt8) × List UInt8),
    joinFrom first (r ++ [it]) = joinFrom first r ++ ((if first = true ∧ r = [] then [] else [44]) ++ item it) := by
  intro r
  induction r with
  | nil => intro first it; cases first <;> simp [joinFrom]
  | cons x r ih =>
    intro first it
    simp only [List.cons_append, joinFrom, ih]
    simp

end Go.Proofs.Qxb6600920aMods
