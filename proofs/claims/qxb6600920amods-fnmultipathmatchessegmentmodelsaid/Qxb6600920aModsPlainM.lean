/- PLAIN LAWS: multipath as a scan over the list of bytes. No Go in sight. -/
import Derived.Test.Qxb6600920aModsPlain
namespace Go.Proofs.Qxb6600920aMods

/-- The mode behind a byte. 0: outside; 1: inside a string; 2: inside one, behind a backslash; 3: outside, behind a backslash. -/
def nxt : Nat → UInt8 → Nat
  | 0, c => if c = 92 then 3 else if c = 34 then 1 else 0
  | 1, c => if c = 92 then 2 else if c = 34 then 0 else 1
  | 2, _ => 1
  | _, _ => 0

/-- Does a dot or a bar stand right ahead of place i? -/
def atAfter (L : List UInt8) (i : Nat) : Bool := decide (0 < i) && (L.getD (i - 1) 0 == 46 || L.getD (i - 1) 0 == 124)

/-- What multipath keeps: the depth, where the element starts, where its path starts, whether a modifier was called, the ranges so far. -/
structure MSt where
  d : Int
  st : Nat
  ps : Nat
  cl : Bool
  acc : List (Nat × Nat)

def mStep (L : List UInt8) (S : MSt) (i : Nat) (c : UInt8) : MSt :=
  if c = 64 then { S with cl := S.cl || atAfter L i }
  else if c = 58 then (if S.d = 1 ∧ S.cl = false ∧ S.ps = S.st then { S with ps := i + 1 } else S)
  else if c = 44 then (if S.d = 1 then { S with acc := S.acc ++ [(S.ps, i)], st := i + 1, ps := i + 1, cl := false } else S)
  else if isOpen c = true then { S with d := S.d + 1 }
  else if isClose c = true then { S with d := S.d - 1 }
  else S

def mScan (L : List UInt8) : Nat → MSt → Nat → List UInt8 → Option (List (Nat × Nat) × Nat)
  | _, _, _, [] => none
  | m, S, i, c :: r =>
    if m = 0 ∧ isClose c = true ∧ S.d = 1 then some (S.acc ++ [(S.ps, i)], i + 1)
    else mScan L (nxt m c) (if m = 0 then mStep L S i c else S) (i + 1) r

def mInit : MSt := ⟨0, 1, 1, false, []⟩

/-- multipath. -/
def mPath (L : List UInt8) : Option (List (Nat × Nat) × Nat) := mScan L 0 mInit 0 L

def mLeft (L : List UInt8) (S : MSt) (k : Nat) : Option (List (Nat × Nat) × Nat) := mScan L 0 S k (L.drop k)

theorem mScan_str (L : List UInt8) (S : MSt) : ∀ (l : List UInt8) (i : Nat),
    (mScan L 1 S i l = match sScan false l with | none => none | some n => mScan L 0 S (i + n) (l.drop n)) ∧
    (mScan L 2 S i l = match sScan true l with | none => none | some n => mScan L 0 S (i + n) (l.drop n)) := by
  intro l
  induction l with
  | nil => intro i; simp [mScan, sScan]
  | cons c r ih =>
    intro i
    obtain ⟨ih1, ih2⟩ := ih (i + 1)
    constructor
    · by_cases h1 : c = 92
      · simp only [mScan, sScan, nxt, h1, if_true]
        rw [if_neg (by omega), if_neg (by omega), ih2]
        cases sScan true r with
        | none => rfl
        | some n => simp only [Option.map_some, List.drop_succ_cons]; rw [Nat.add_assoc, Nat.add_comm 1 n]
      · by_cases h2 : c = 34
        · subst h2
          simp [mScan, sScan, nxt]
        · simp only [mScan, sScan, nxt, h1, h2, if_false]
          rw [if_neg (by omega), if_neg (by omega), ih1]
          cases sScan false r with
          | none => rfl
          | some n => simp only [Option.map_some, List.drop_succ_cons]; rw [Nat.add_assoc, Nat.add_comm 1 n]
    · simp only [mScan, sScan, nxt]
      rw [if_neg (by omega), if_neg (by omega), ih1]
      cases sScan false r with
      | none => rfl
      | some n => simp only [Option.map_some, List.drop_succ_cons]; rw [Nat.add_assoc, Nat.add_comm 1 n]

theorem close_ne (c : UInt8) (h : isClose c = true) : c ≠ 92 ∧ c ≠ 34 ∧ c ≠ 64 ∧ c ≠ 58 ∧ c ≠ 44 ∧ isOpen c = false := by
  simp [isClose] at h
  rcases h with (rfl | rfl) | rfl <;> decide

theorem open_ne (c : UInt8) (h : isOpen c = true) : c ≠ 92 ∧ c ≠ 34 ∧ c ≠ 64 ∧ c ≠ 58 ∧ c ≠ 44 ∧ isClose c = false := by
  simp [isOpen] at h
  rcases h with (rfl | rfl) | rfl <;> decide

/-- A byte outside strings that is no escape, no quote and no last closer: one step. -/
theorem mLeft_step (L : List UInt8) (S : MSt) (k : Nat) (c : UInt8) (hd : L.drop k = c :: L.drop (k + 1)) (h92 : c ≠ 92) (h34 : c ≠ 34) (hfin : ¬ (isClose c = true ∧ S.d = 1)) :
    mLeft L S k = mLeft L (mStep L S k c) (k + 1) := by
  unfold mLeft
  rw [hd, mScan, if_neg (by simpa using hfin)]
  simp only [nxt, h92, h34, if_false, if_true]

theorem mLeft_fin (L : List UInt8) (S : MSt) (k : Nat) (c : UInt8) (hd : L.drop k = c :: L.drop (k + 1)) (hc : isClose c = true) (h1 : S.d = 1) :
    mLeft L S k = some (S.acc ++ [(S.ps, k)], k + 1) := by
  unfold mLeft
  rw [hd, mScan, if_pos ⟨rfl, hc, h1⟩]

theorem mLeft_end (L : List UInt8) (S : MSt) (k : Nat) (h : L.length ≤ k) : mLeft L S k = none := by
  unfold mLeft
  rw [List.drop_eq_nil_of_le h, mScan]

theorem mStep_esc (L : List UInt8) (S : MSt) (k : Nat) (c : UInt8) (h : c = 92 ∨ c = 34) : mStep L S k c = S := by
  rcases h with rfl | rfl <;> simp [mStep, isOpen, isClose]

theorem mLeft_92 (L : List UInt8) (S : MSt) (k : Nat) (hd : L.drop k = 92 :: L.drop (k + 1)) : mLeft L S k = mLeft L S (k + 2) := by
  unfold mLeft
  rw [hd, mScan, if_neg (by simp [isClose])]
  simp only [nxt, if_true, mStep_esc L S k 92 (.inl rfl)]
  cases h : L.drop (k + 1) with
  | nil =>
    have : L.drop (k + 2) = [] := by
      rw [show k + 2 = k + 1 + 1 by omega, ← List.drop_drop, h]
      rfl
    rw [this]
    simp [mScan]
  | cons c r =>
    have : L.drop (k + 2) = r := by
      rw [show k + 2 = k + 1 + 1 by omega, ← List.drop_drop, h]
      rfl
    rw [this, mScan, if_neg (by omega), if_neg (by omega)]
    simp only [nxt]

theorem mLeft_34 (L : List UInt8) (S : MSt) (k : Nat) (hd : L.drop k = 34 :: L.drop (k + 1)) :
    mLeft L S k = match sScan false (L.drop (k + 1)) with | none => none | some n => mLeft L S (k + n + 1) := by
  unfold mLeft
  rw [hd, mScan, if_neg (by simp [isClose])]
  simp only [nxt, if_true, mStep_esc L S k 34 (.inr rfl)]
  rw [if_neg (by decide), (mScan_str L S _ _).1]
  cases sScan false (L.drop (k + 1)) with
  | none => rfl
  | some n =>
    simp only [List.drop_drop]
    rw [show k + 1 + n = k + n + 1 by omega]

end Go.Proofs.Qxb6600920aMods
