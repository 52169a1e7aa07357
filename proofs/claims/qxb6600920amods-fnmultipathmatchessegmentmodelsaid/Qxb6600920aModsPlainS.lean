/- PLAIN LAWS: the three-pass model. No Go in sight. -/
import Derived.Test.Qxb6600920aModsPlainM
namespace Go.Proofs.Qxb6600920aMods

/-- The mode ahead of byte k. -/
def modeAt (L : List UInt8) : Nat → Nat
  | 0 => 0
  | k + 1 => nxt (modeAt L k) (L.getD k 0)

/-- Does byte k count (neither quoted nor escaped)? -/
def synB (L : List UInt8) (k : Nat) : Bool := modeAt L k == 0 && !(L.getD k 0 == 92) && !(L.getD k 0 == 34)

/-- The depth ahead of byte k. -/
def dAt (L : List UInt8) : Nat → Int
  | 0 => 0
  | k + 1 => if synB L k = true then (if isOpen (L.getD k 0) = true then dAt L k + 1 else if isClose (L.getD k 0) = true then dAt L k - 1 else dAt L k) else dAt L k

/-- Does byte k close the multipath? -/
def finB (L : List UInt8) (k : Nat) : Bool := synB L k && isClose (L.getD k 0) && dAt L k == 1

def comB (L : List UInt8) (k : Nat) : Bool := synB L k && L.getD k 0 == 44 && dAt L k == 1

/-- The depth-one commas ahead of byte k. -/
def commasTo (L : List UInt8) : Nat → List Nat
  | 0 => []
  | k + 1 => if comB L k = true then commasTo L k ++ [k] else commasTo L k

/-- One byte of a segment that began at a: where its path starts, and whether a modifier was called. -/
def segStep (L : List UInt8) (a : Nat) (k : Nat) (x : Nat × Bool) : Nat × Bool :=
  if synB L k = true then
    (if L.getD k 0 = 64 then (x.1, x.2 || atAfter L k)
     else if L.getD k 0 = 58 then (if dAt L k = 1 ∧ x.2 = false ∧ x.1 = a then (k + 1, x.2) else x)
     else x)
  else x

def segScan (L : List UInt8) (a : Nat) : Nat → Nat × Bool
  | 0 => (a, false)
  | k + 1 => if k < a then (a, false) else segStep L a k (segScan L a k)

def segsOf (L : List UInt8) : Nat → List Nat → List (Nat × Nat)
  | _, [] => []
  | a, b :: r => ((segScan L a b).1, b) :: segsOf L (b + 1) r

/-- Where the segment behind these ends begins. -/
def startOf : Nat → List Nat → Nat
  | a, [] => a
  | _, b :: r => startOf (b + 1) r

theorem segsOf_snoc (L : List UInt8) (b : Nat) : ∀ (bs : List Nat) (a : Nat), segsOf L a (bs ++ [b]) = segsOf L a bs ++ [((segScan L (startOf a bs) b).1, b)] := by
  intro bs
  induction bs with
  | nil => intro a; rfl
  | cons x r ih => intro a; simp [segsOf, startOf, ih]

theorem startOf_snoc (b : Nat) : ∀ (bs : List Nat) (a : Nat), startOf a (bs ++ [b]) = b + 1 := by
  intro bs
  induction bs with
  | nil => intro a; rfl
  | cons x r ih => intro a; simp [startOf, ih]

theorem segScan_le (L : List UInt8) (a : Nat) : ∀ k, k ≤ a → segScan L a k = (a, false) := by
  intro k
  cases k with
  | zero => intro _; rfl
  | succ k => intro h; rw [segScan, if_pos (by omega)]

theorem startOf_le (L : List UInt8) : ∀ k, startOf 1 (commasTo L k) ≤ k ∨ (startOf 1 (commasTo L k) = 1 ∧ k = 0) := by
  intro k
  induction k with
  | zero => right; exact ⟨rfl, rfl⟩
  | succ k ih =>
    left
    rw [commasTo]
    split
    · rw [startOf_snoc]; omega
    · omega

/-- The state that multipath keeps ahead of byte k. -/
def stAt (L : List UInt8) (k : Nat) : MSt :=
  ⟨dAt L k, startOf 1 (commasTo L k), (segScan L (startOf 1 (commasTo L k)) k).1, (segScan L (startOf 1 (commasTo L k)) k).2, segsOf L 1 (commasTo L k)⟩

theorem getD_ne_of_not_syn {L : List UInt8} {k : Nat} (h : synB L k = false) (hm : modeAt L k = 0) : L.getD k 0 = 92 ∨ L.getD k 0 = 34 := by
  by_cases h1 : L.getD k 0 = 92
  · exact .inl h1
  · by_cases h2 : L.getD k 0 = 34
    · exact .inr h2
    · have q1 : (L.getD k 0 == 92) = false := beq_eq_false_iff_ne.2 h1
      have q2 : (L.getD k 0 == 34) = false := beq_eq_false_iff_ne.2 h2
      rw [synB, hm, q1, q2] at h
      simp at h

theorem syn_parts {L : List UInt8} {k : Nat} (h : synB L k = true) : modeAt L k = 0 ∧ L.getD k 0 ≠ 92 ∧ L.getD k 0 ≠ 34 := by
  unfold synB at h
  rw [Bool.and_eq_true, Bool.and_eq_true] at h
  obtain ⟨⟨h1, h2⟩, h3⟩ := h
  refine ⟨by simpa using h1, ?_, ?_⟩
  · intro e; rw [e] at h2; simp at h2
  · intro e; rw [e] at h3; simp at h3

/-- The state's step: mStep at a byte that counts, nothing else. -/
theorem stAt_step (L : List UInt8) (k : Nat) : stAt L (k + 1) = if synB L k = true then mStep L (stAt L k) k (L.getD k 0) else stAt L k := by
  obtain ⟨a, ha⟩ : ∃ a, a = startOf 1 (commasTo L k) := ⟨_, rfl⟩
  have hk : a ≤ k ∨ (a = 1 ∧ k = 0) := by rw [ha]; exact startOf_le L k
  cases hs : synB L k with
  | false =>
    have hc : comB L k = false := by simp only [comB, hs, Bool.false_and]
    have e1 : commasTo L (k + 1) = commasTo L k := by simp [commasTo, hc]
    have e2 : dAt L (k + 1) = dAt L k := by simp [dAt, hs]
    have e3 : segScan L a (k + 1) = segScan L a k := by
      rw [segScan]
      split
      · rw [segScan_le L a k (by omega)]
      · simp [segStep, hs]
    unfold stAt
    rw [e1, e2, ← ha, e3]
    rfl
  | true =>
    have hp := syn_parts hs
    obtain ⟨c, hc⟩ : ∃ c, c = L.getD k 0 := ⟨_, rfl⟩
    -- ahead of the first byte of the first segment nothing can turn
    have hseg : segScan L a (k + 1) = segStep L a k (segScan L a k) := by
      rw [segScan]
      split
      · rename_i hlt
        have hk0 : a = 1 ∧ k = 0 := by omega
        rw [segScan_le L a k (by omega)]
        obtain ⟨h1, h2⟩ := hk0
        subst h2
        rw [segStep, if_pos hs]
        by_cases x1 : L.getD 0 0 = 64
        · rw [if_pos x1]
          simp [atAfter]
        · rw [if_neg x1]
          by_cases x2 : L.getD 0 0 = 58
          · rw [if_pos x2, if_neg (by simp [dAt])]
          · rw [if_neg x2]
      · rfl
    by_cases c64 : c = 64
    · have e0 : comB L k = false := by simp only [comB, ← hc, c64]; simp
      have e1 : commasTo L (k + 1) = commasTo L k := by simp [commasTo, e0]
      have e2 : dAt L (k + 1) = dAt L k := by simp only [dAt, hs, ← hc, c64, isOpen, isClose]; simp
      have e3 : segScan L a (k + 1) = ((segScan L a k).1, (segScan L a k).2 || atAfter L k) := by rw [hseg, segStep, if_pos hs, if_pos (by rw [← hc]; exact c64)]
      unfold stAt
      rw [e1, e2, ← ha, e3, ← hc, c64]
      simp [mStep]
    · by_cases c58 : c = 58
      · have e0 : comB L k = false := by simp only [comB, ← hc, c58]; simp
        have e1 : commasTo L (k + 1) = commasTo L k := by simp [commasTo, e0]
        have e2 : dAt L (k + 1) = dAt L k := by simp only [dAt, hs, ← hc, c58, isOpen, isClose]; simp
        have e3 : segScan L a (k + 1) = if dAt L k = 1 ∧ (segScan L a k).2 = false ∧ (segScan L a k).1 = a then (k + 1, (segScan L a k).2) else segScan L a k := by
          rw [hseg, segStep, if_pos hs, if_neg (by rw [← hc]; exact c64), if_pos (by rw [← hc]; exact c58)]
        unfold stAt
        rw [e1, e2, ← ha, e3, ← hc, c58]
        by_cases hq : dAt L k = 1 ∧ (segScan L a k).2 = false ∧ (segScan L a k).1 = a
        · rw [if_pos hq]
          simp [mStep, hq]
        · rw [if_neg hq]
          simp [mStep, hq]
      · have eseg : segScan L a (k + 1) = segScan L a k := by
          rw [hseg, segStep, if_pos hs, if_neg (by rw [← hc]; exact c64), if_neg (by rw [← hc]; exact c58)]
        by_cases c44 : c = 44
        · have e2 : dAt L (k + 1) = dAt L k := by simp only [dAt, hs, ← hc, c44, isOpen, isClose]; simp
          by_cases hd : dAt L k = 1
          · have e0 : comB L k = true := by simp only [comB, ← hc, c44, hs, hd]; rfl
            have e1 : commasTo L (k + 1) = commasTo L k ++ [k] := by simp [commasTo, e0]
            unfold stAt
            rw [e1, e2, startOf_snoc, segsOf_snoc, segScan_le L (k + 1) (k + 1) (by omega), ← ha, ← hc, c44]
            simp [mStep, hd]
          · have e0 : comB L k = false := by
              have q : (dAt L k == 1) = false := beq_eq_false_iff_ne.2 hd
              simp only [comB, q, Bool.and_false]
            have e1 : commasTo L (k + 1) = commasTo L k := by simp [commasTo, e0]
            unfold stAt
            rw [e1, e2, ← ha, eseg, ← hc, c44]
            simp [mStep, hd]
        · have e0 : comB L k = false := by
            have q : (L.getD k 0 == 44) = false := beq_eq_false_iff_ne.2 (by rw [← hc]; exact c44)
            simp only [comB, q, Bool.and_false, Bool.false_and]
          have e1 : commasTo L (k + 1) = commasTo L k := by simp [commasTo, e0]
          unfold stAt
          rw [e1, ← ha, eseg, ← hc]
          simp only [dAt, hs, if_true, ← hc, mStep, c64, c58, c44, if_false]
          split
          · rfl
          · split <;> rfl

theorem drop_getD (L : List UInt8) (k : Nat) (h : k < L.length) : L.drop k = L.getD k 0 :: L.drop (k + 1) := by
  rw [List.drop_eq_getElem_cons h]
  simp [List.getD, h]

/-- The scan, followed to byte k. -/
theorem mPath_to (L : List UInt8) : ∀ k, k ≤ L.length → (∀ j, j < k → finB L j = false) → mPath L = mScan L (modeAt L k) (stAt L k) k (L.drop k) := by
  intro k
  induction k with
  | zero => intro _ _; rfl
  | succ k ih =>
    intro hk hf
    rw [ih (by omega) (fun j hj => hf j (by omega)), drop_getD L k (by omega), mScan]
    have hfk := hf k (by omega)
    have hno : ¬ (modeAt L k = 0 ∧ isClose (L.getD k 0) = true ∧ (stAt L k).d = 1) := by
      rintro ⟨h1, h2, h3⟩
      have hne := close_ne _ h2
      have q1 : (L.getD k 0 == 92) = false := beq_eq_false_iff_ne.2 hne.1
      have q2 : (L.getD k 0 == 34) = false := beq_eq_false_iff_ne.2 hne.2.1
      have h3' : dAt L k = 1 := h3
      rw [finB, synB, h1, h2, h3', q1, q2] at hfk
      simp at hfk
    rw [if_neg hno, stAt_step L k]
    have hst : (if modeAt L k = 0 then mStep L (stAt L k) k (L.getD k 0) else stAt L k) = if synB L k = true then mStep L (stAt L k) k (L.getD k 0) else stAt L k := by
      cases hs : synB L k with
      | true => rw [if_pos (syn_parts hs).1, if_pos rfl]
      | false =>
        by_cases hm : modeAt L k = 0
        · rw [if_pos hm]
          exact mStep_esc L _ k _ (getD_ne_of_not_syn hs hm)
        · rw [if_neg hm]
          rfl
    rw [hst]
    rfl

/-- Nothing closes it. -/
theorem mPath_no (L : List UInt8) (h : ∀ j, j < L.length → finB L j = false) : mPath L = none := by
  rw [mPath_to L L.length (Nat.le_refl _) h, List.drop_length, mScan]

/-- The first that closes it. -/
theorem mPath_yes (L : List UInt8) (e : Nat) (he : e < L.length) (hf : finB L e = true) (h : ∀ j, j < e → finB L j = false) :
    mPath L = some (segsOf L 1 (commasTo L e ++ [e]), e + 1) := by
  rw [mPath_to L e (by omega) h, drop_getD L e he, mScan]
  unfold finB at hf
  rw [Bool.and_eq_true, Bool.and_eq_true] at hf
  obtain ⟨⟨h1, h2⟩, h3⟩ := hf
  have h3' : dAt L e = 1 := by simpa using h3
  rw [if_pos ⟨(syn_parts h1).1, h2, h3'⟩, segsOf_snoc]
  rfl

end Go.Proofs.Qxb6600920aMods
