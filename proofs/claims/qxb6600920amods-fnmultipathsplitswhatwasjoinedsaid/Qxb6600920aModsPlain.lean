/- PLAIN LAWS: no Go in sight. stringEnd and groupEnd as scans over the list of bytes. -/
namespace Go.Proofs.Qxb6600920aMods

def isOpen (c : UInt8) : Bool := c == 123 || c == 91 || c == 40
def isClose (c : UInt8) : Bool := c == 125 || c == 93 || c == 41

/-- Inside a string: how many bytes up to and with the quote that closes it; the flag: the byte stands behind a backslash. -/
def sScan : Bool → List UInt8 → Option Nat
  | _, [] => none
  | true, _ :: r => (sScan false r).map (· + 1)
  | false, c :: r => if c = 92 then (sScan true r).map (· + 1) else if c = 34 then some 1 else (sScan false r).map (· + 1)

/-- stringEnd. -/
def strE (l : List UInt8) : Int := match sScan false (l.drop 1) with
  | none => -1
  | some n => n + 1

/-- The group's scan: mode 0: outside strings; 1: inside one; 2: inside one, behind a backslash. -/
def gScan : Nat → Int → List UInt8 → Option Nat
  | _, _, [] => none
  | 0, d, c :: r =>
    if c = 34 then (gScan 1 d r).map (· + 1)
    else if isOpen c = true then (if d + 1 = 0 then some 1 else (gScan 0 (d + 1) r).map (· + 1))
    else if isClose c = true then (if d - 1 = 0 then some 1 else (gScan 0 (d - 1) r).map (· + 1))
    else (gScan 0 d r).map (· + 1)
  | 1, d, c :: r =>
    if c = 92 then (gScan 2 d r).map (· + 1)
    else if c = 34 then (if d = 0 then some 1 else (gScan 0 d r).map (· + 1))
    else (gScan 1 d r).map (· + 1)
  | _, d, _ :: r => (gScan 1 d r).map (· + 1)

/-- groupEnd. -/
def grpE (l : List UInt8) : Int := match gScan 0 0 l with
  | none => -1
  | some n => n

theorem map_add (o : Option Nat) (a b : Nat) : (o.map (· + a)).map (· + b) = o.map (· + (a + b)) := by
  cases o <;> simp [Nat.add_assoc]

theorem gScan_str (d : Int) : ∀ (l : List UInt8),
    (gScan 1 d l = match sScan false l with | none => none | some n => if d = 0 then some n else (gScan 0 d (l.drop n)).map (· + n)) ∧
    (gScan 2 d l = match sScan true l with | none => none | some n => if d = 0 then some n else (gScan 0 d (l.drop n)).map (· + n)) := by
  intro l
  induction l with
  | nil => simp [gScan, sScan]
  | cons c r ih =>
    obtain ⟨ih1, ih2⟩ := ih
    constructor
    · by_cases h1 : c = 92
      · simp only [gScan, sScan, h1, if_true]
        rw [ih2]
        cases sScan true r with
        | none => rfl
        | some n =>
          by_cases hd : d = 0
          · simp [hd]
          · simp only [hd, if_false, Option.map_some, map_add, List.drop_succ_cons]
      · by_cases h2 : c = 34
        · simp [gScan, sScan, h2]
        · simp only [gScan, sScan, h1, h2, if_false]
          rw [ih1]
          cases sScan false r with
          | none => rfl
          | some n =>
            by_cases hd : d = 0
            · simp [hd]
            · simp only [hd, if_false, Option.map_some, map_add, List.drop_succ_cons]
    · simp only [gScan, sScan]
      rw [ih1]
      cases sScan false r with
      | none => rfl
      | some n =>
        by_cases hd : d = 0
        · simp [hd]
        · simp only [hd, if_false, Option.map_some, map_add, List.drop_succ_cons]

/-- What is found lies within the text, and is at least one byte long. -/
theorem gScan_le : ∀ (l : List UInt8) (m : Nat) (d : Int) (k : Nat), gScan m d l = some k → 1 ≤ k ∧ k ≤ l.length := by
  intro l
  induction l with
  | nil => intro m d k h; simp [gScan] at h
  | cons c r ih =>
    intro m d k h
    have step : ∀ (m' : Nat) (d' : Int), (gScan m' d' r).map (· + 1) = some k → 1 ≤ k ∧ k ≤ (c :: r).length := by
      intro m' d' h'
      cases hg : gScan m' d' r with
      | none => rw [hg] at h'; simp at h'
      | some j =>
        rw [hg] at h'
        simp at h'
        have := ih m' d' j hg
        simp
        omega
    have one : some 1 = some k → 1 ≤ k ∧ k ≤ (c :: r).length := by
      intro h'
      simp at h'
      simp
      omega
    match m with
    | 0 =>
      simp only [gScan] at h
      split at h
      · exact step _ _ h
      · split at h
        · split at h
          · exact one h
          · exact step _ _ h
        · split at h
          · split at h
            · exact one h
            · exact step _ _ h
          · exact step _ _ h
    | 1 =>
      simp only [gScan] at h
      split at h
      · exact step _ _ h
      · split at h
        · split at h
          · exact one h
          · exact step _ _ h
        · exact step _ _ h
    | (m' + 2) =>
      simp only [gScan] at h
      exact step _ _ h

/-- THE FIRST LAW's HEART: what is found is decided by what lies ahead of it alone. -/
theorem gScan_prefix (t : List UInt8) : ∀ (l : List UInt8) (m : Nat) (d : Int) (k : Nat), gScan m d l = some k → gScan m d (l.take k ++ t) = some k := by
  intro l
  induction l with
  | nil => intro m d k h; simp [gScan] at h
  | cons c r ih =>
    intro m d k h
    have hk := gScan_le _ _ _ _ h
    obtain ⟨j, rfl⟩ : ∃ j, k = j + 1 := ⟨k - 1, by omega⟩
    have step : ∀ (m' : Nat) (d' : Int), (gScan m' d' r).map (· + 1) = some (j + 1) → (gScan m' d' (r.take j ++ t)).map (· + 1) = some (j + 1) := by
      intro m' d' h'
      cases hg : gScan m' d' r with
      | none => rw [hg] at h'; simp at h'
      | some i =>
        rw [hg] at h'
        simp at h'
        subst h'
        rw [ih m' d' i hg]
        rfl
    rw [List.take_succ_cons, List.cons_append]
    match m with
    | 0 =>
      simp only [gScan] at h ⊢
      by_cases c1 : c = 34
      · rw [if_pos c1] at h ⊢
        exact step _ _ h
      · rw [if_neg c1] at h ⊢
        by_cases c2 : isOpen c = true
        · rw [if_pos c2] at h ⊢
          by_cases c3 : d + 1 = 0
          · rw [if_pos c3] at h ⊢
            exact h
          · rw [if_neg c3] at h ⊢
            exact step _ _ h
        · rw [if_neg c2] at h ⊢
          by_cases c3 : isClose c = true
          · rw [if_pos c3] at h ⊢
            by_cases c4 : d - 1 = 0
            · rw [if_pos c4] at h ⊢
              exact h
            · rw [if_neg c4] at h ⊢
              exact step _ _ h
          · rw [if_neg c3] at h ⊢
            exact step _ _ h
    | 1 =>
      simp only [gScan] at h ⊢
      by_cases c1 : c = 92
      · rw [if_pos c1] at h ⊢
        exact step _ _ h
      · rw [if_neg c1] at h ⊢
        by_cases c2 : c = 34
        · rw [if_pos c2] at h ⊢
          by_cases c3 : d = 0
          · rw [if_pos c3] at h ⊢
            exact h
          · rw [if_neg c3] at h ⊢
            exact step _ _ h
        · rw [if_neg c2] at h ⊢
          exact step _ _ h
    | (m' + 2) =>
      simp only [gScan] at h ⊢
      exact step _ _ h

/-- THE SECOND LAW's HEART: one level deeper, and a closer behind. -/
theorem gScan_deeper (q : UInt8) (hq : isClose q = true) (t : List UInt8) : ∀ (l : List UInt8) (m : Nat) (d : Int) (k : Nat), gScan m d l = some k → (m = 0 → 1 ≤ d) → 0 ≤ d →
    gScan m (d + 1) (l.take k ++ q :: t) = some (k + 1) := by
  have hq34 : q ≠ 34 := by intro e; subst e; simp [isClose] at hq
  have hqo : isOpen q = false := by
    simp [isClose] at hq
    rcases hq with (rfl | rfl) | rfl <;> decide
  have last : gScan 0 1 (q :: t) = some 1 := by simp [gScan, hq34, hqo, hq]
  intro l
  induction l with
  | nil => intro m d k h; simp [gScan] at h
  | cons c r ih =>
    intro m d k h hm hd
    have hk := gScan_le _ _ _ _ h
    obtain ⟨j, rfl⟩ : ∃ j, k = j + 1 := ⟨k - 1, by omega⟩
    have step : ∀ (m' : Nat) (d' : Int), (gScan m' d' r).map (· + 1) = some (j + 1) → (m' = 0 → 1 ≤ d') → 0 ≤ d' → (gScan m' (d' + 1) (r.take j ++ q :: t)).map (· + 1) = some (j + 1 + 1) := by
      intro m' d' h' hm' hd'
      cases hg : gScan m' d' r with
      | none => rw [hg] at h'; simp at h'
      | some i =>
        rw [hg] at h'
        simp at h'
        subst h'
        rw [ih m' d' i hg hm' hd']
        rfl
    rw [List.take_succ_cons, List.cons_append]
    match m with
    | 0 =>
      have hd1 : 1 ≤ d := hm rfl
      simp only [gScan] at h ⊢
      by_cases c1 : c = 34
      · rw [if_pos c1] at h ⊢
        exact step _ _ h (by omega) hd
      · rw [if_neg c1] at h ⊢
        by_cases c2 : isOpen c = true
        · rw [if_pos c2] at h ⊢
          rw [if_neg (by omega)] at h ⊢
          exact step _ _ h (by omega) (by omega)
        · rw [if_neg c2] at h ⊢
          by_cases c3 : isClose c = true
          · rw [if_pos c3] at h ⊢
            rw [if_neg (show ¬ d + 1 - 1 = 0 by omega)]
            by_cases c4 : d - 1 = 0
            · rw [if_pos c4] at h
              simp at h
              subst h
              rw [List.take_zero, List.nil_append, show d + 1 - 1 = 1 by omega, last]
              rfl
            · rw [if_neg c4] at h
              rw [show d + 1 - 1 = d - 1 + 1 by omega]
              exact step _ _ h (by omega) (by omega)
          · rw [if_neg c3] at h ⊢
            exact step _ _ h (by omega) hd
    | 1 =>
      simp only [gScan] at h ⊢
      by_cases c1 : c = 92
      · rw [if_pos c1] at h ⊢
        exact step _ _ h (by omega) hd
      · rw [if_neg c1] at h ⊢
        by_cases c2 : c = 34
        · rw [if_pos c2] at h ⊢
          rw [if_neg (show ¬ d + 1 = 0 by omega)]
          by_cases c3 : d = 0
          · rw [if_pos c3] at h
            simp at h
            subst h
            subst c3
            rw [List.take_zero, List.nil_append, show (0 : Int) + 1 = 1 by omega, last]
            rfl
          · rw [if_neg c3] at h
            exact step _ _ h (by omega) hd
        · rw [if_neg c2] at h ⊢
          exact step _ _ h (by omega) hd
    | (m' + 2) =>
      simp only [gScan] at h ⊢
      exact step _ _ h (by omega) hd

end Go.Proofs.Qxb6600920aMods
