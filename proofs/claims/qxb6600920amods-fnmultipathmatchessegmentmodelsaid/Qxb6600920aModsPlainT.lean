/- PLAIN LAWS: the model's first pass; quotes. No Go in sight. -/
import Derived.Test.Qxb6600920aModsPlainS
namespace Go.Proofs.Qxb6600920aMods

theorem not_syn_mode {L : List UInt8} {k : Nat} (h : modeAt L k ≠ 0) : synB L k = false := by
  have q : (modeAt L k == 0) = false := beq_eq_false_iff_ne.2 h
  simp only [synB, q, Bool.false_and]

theorem not_syn_byte {L : List UInt8} {k : Nat} (h : L.getD k 0 = 92 ∨ L.getD k 0 = 34) : synB L k = false := by
  rcases h with h | h
  · simp only [synB, h]; simp
  · simp only [synB, h]; simp

theorem mode_in (L : List UInt8) : ∀ (l : List UInt8) (i : Nat) (b : Bool), L.drop i = l → modeAt L i = (if b = true then 2 else 1) →
    (∀ n, sScan b l = some n → modeAt L (i + n) = 0 ∧ ∀ j, i ≤ j → j < i + n → synB L j = false) ∧
    (sScan b l = none → ∀ j, i ≤ j → j < L.length → synB L j = false) := by
  intro l
  induction l with
  | nil =>
    intro i b h _
    refine ⟨fun n hn => by simp [sScan] at hn, fun _ j hj hl => ?_⟩
    have := List.drop_eq_nil_iff.1 h
    omega
  | cons c r ih =>
    intro i b h hm
    have hlt : i < L.length := by
      have : (L.drop i).length = (c :: r).length := by rw [h]
      simp at this
      omega
    have hg : L.getD i 0 = c ∧ L.drop (i + 1) = r := by
      have h2 := drop_getD L i hlt
      rw [h] at h2
      simp only [List.cons.injEq] at h2
      exact ⟨h2.1.symm, h2.2.symm⟩
    have hsyn : synB L i = false := not_syn_mode (by rw [hm]; cases b <;> decide)
    have step : ∀ b', modeAt L (i + 1) = (if b' = true then 2 else 1) → sScan b (c :: r) = (sScan b' r).map (· + 1) →
        (∀ n, sScan b (c :: r) = some n → modeAt L (i + n) = 0 ∧ ∀ j, i ≤ j → j < i + n → synB L j = false) ∧
        (sScan b (c :: r) = none → ∀ j, i ≤ j → j < L.length → synB L j = false) := by
      intro b' hm' hs'
      obtain ⟨ih1, ih2⟩ := ih (i + 1) b' hg.2 hm'
      refine ⟨fun n hn => ?_, fun hn j hj hl => ?_⟩
      · rw [hs'] at hn
        cases hq : sScan b' r with
        | none => rw [hq] at hn; simp at hn
        | some q =>
          rw [hq] at hn
          simp at hn
          subst hn
          obtain ⟨a1, a2⟩ := ih1 q hq
          refine ⟨by rw [show i + (q + 1) = i + 1 + q by omega]; exact a1, fun j hj hl => ?_⟩
          by_cases e : j = i
          · subst e; exact hsyn
          · exact a2 j (by omega) (by omega)
      · rw [hs'] at hn
        by_cases e : j = i
        · subst e; exact hsyn
        · refine ih2 ?_ j (by omega) hl
          cases hq : sScan b' r with
          | none => rfl
          | some q => rw [hq] at hn; simp at hn
    cases b with
    | true =>
      refine step false ?_ (by simp only [sScan])
      rw [modeAt, hm]
      rfl
    | false =>
      by_cases c1 : c = 92
      · refine step true ?_ (by simp only [sScan, c1, if_true])
        rw [modeAt, hm, hg.1, c1]
        rfl
      · by_cases c2 : c = 34
        · subst c2
          have e : sScan false (34 :: r) = some 1 := by simp [sScan]
          rw [e]
          refine ⟨fun n hn => ?_, fun hn => by simp at hn⟩
          simp at hn
          subst hn
          refine ⟨?_, fun j hj hl => ?_⟩
          · rw [modeAt, hm, hg.1]
            rfl
          · have : j = i := by omega
            subst this
            exact hsyn
        · refine step false ?_ (by simp only [sScan, c1, c2, if_false])
          rw [modeAt, hm, hg.1]
          simp [nxt, c1, c2]

theorem mode_quote {L : List UInt8} {k n : Nat} (hm : modeAt L k = 0) (hc : L.getD k 0 = 34) (hn : sScan false (L.drop (k + 1)) = some n) :
    modeAt L (k + n + 1) = 0 ∧ ∀ j, k ≤ j → j < k + n + 1 → synB L j = false := by
  have h1 : modeAt L (k + 1) = 1 := by rw [modeAt, hm, hc]; rfl
  obtain ⟨a1, a2⟩ := (mode_in L _ (k + 1) false rfl (by simpa using h1)).1 n hn
  refine ⟨by rw [show k + n + 1 = k + 1 + n by omega]; exact a1, fun j hj hl => ?_⟩
  by_cases e : j = k
  · subst e; exact not_syn_byte (.inr hc)
  · exact a2 j (by omega) (by omega)

theorem mode_open {L : List UInt8} {k : Nat} (hm : modeAt L k = 0) (hc : L.getD k 0 = 34) (hn : sScan false (L.drop (k + 1)) = none) :
    ∀ j, k ≤ j → j < L.length → synB L j = false := by
  have h1 : modeAt L (k + 1) = 1 := by rw [modeAt, hm, hc]; rfl
  have a2 := (mode_in L _ (k + 1) false rfl (by simpa using h1)).2 hn
  intro j hj hl
  by_cases e : j = k
  · subst e; exact not_syn_byte (.inr hc)
  · exact a2 j (by omega) hl

theorem mode_esc {L : List UInt8} {k : Nat} (hm : modeAt L k = 0) (hc : L.getD k 0 = 92) : modeAt L (k + 2) = 0 ∧ ∀ j, k ≤ j → j < k + 2 → synB L j = false := by
  have h1 : modeAt L (k + 1) = 3 := by rw [modeAt, hm, hc]; rfl
  refine ⟨by rw [modeAt, h1]; rfl, fun j hj hl => ?_⟩
  by_cases e : j = k
  · subst e; exact not_syn_byte (.inl hc)
  · have : j = k + 1 := by omega
    subst this
    exact not_syn_mode (by rw [h1]; decide)

theorem mode_plain {L : List UInt8} {k : Nat} (hm : modeAt L k = 0) (h1 : L.getD k 0 ≠ 92) (h2 : L.getD k 0 ≠ 34) : modeAt L (k + 1) = 0 ∧ synB L k = true := by
  refine ⟨by rw [modeAt, hm, nxt, if_neg h1, if_neg h2], ?_⟩
  have q1 : (L.getD k 0 == 92) = false := beq_eq_false_iff_ne.2 h1
  have q2 : (L.getD k 0 == 34) = false := beq_eq_false_iff_ne.2 h2
  simp only [synB, hm, q1, q2]
  rfl

/-- What the first pass has marked when it stands at k. -/
def Marked (L : List UInt8) (n k : Nat) (f : Nat → Bool) : Prop := ∀ j, j < n → f j = if j < k then synB L j else false

theorem dAt_bound (L : List UInt8) : ∀ k : Nat, -(k : Int) ≤ dAt L k ∧ dAt L k ≤ k := by
  intro k
  induction k with
  | zero => simp [dAt]
  | succ k ih =>
    rw [dAt]
    split
    · split
      · omega
      · split <;> omega
    · omega

theorem commas_bound (L : List UInt8) : ∀ k, (commasTo L k).length ≤ k ∧ ∀ c ∈ commasTo L k, 1 ≤ c ∧ c < k := by
  intro k
  induction k with
  | zero => simp [commasTo]
  | succ k ih =>
    rw [commasTo]
    split
    · rename_i hc
      refine ⟨by simp; omega, fun c hm => ?_⟩
      rcases List.mem_append.1 hm with h1 | h1
      · have := ih.2 c h1; omega
      · simp at h1
        subst h1
        have : dAt L c = 1 := by
          unfold comB at hc
          rw [Bool.and_eq_true] at hc
          simpa using hc.2
        have := (dAt_bound L c).2
        omega
    · exact ⟨by omega, fun c hm => by have := ih.2 c hm; omega⟩

/-- Ends in order, each behind its segment's start. -/
def Ordered : Nat → List Nat → Prop
  | _, [] => True
  | a, b :: r => a ≤ b ∧ Ordered (b + 1) r

theorem ordered_snoc (b : Nat) : ∀ (bs : List Nat) (a : Nat), Ordered a bs → startOf a bs ≤ b → Ordered a (bs ++ [b]) := by
  intro bs
  induction bs with
  | nil => intro a _ h; exact ⟨h, trivial⟩
  | cons x r ih => intro a h1 h2; exact ⟨h1.1, ih (x + 1) h1.2 h2⟩

theorem commas_ordered (L : List UInt8) : ∀ k, Ordered 1 (commasTo L k) := by
  intro k
  induction k with
  | zero => trivial
  | succ k ih =>
    rw [commasTo]
    split
    · rename_i hc
      refine ordered_snoc k _ 1 ih ?_
      have hd : dAt L k = 1 := by
        unfold comB at hc
        rw [Bool.and_eq_true] at hc
        simpa using hc.2
      have := (dAt_bound L k).2
      have := startOf_le L k
      omega
    · exact ih

/-! ### A segment's cut -/
theorem seg_cl (L : List UInt8) (a : Nat) : ∀ d k, segScan L a k = (a, true) → segScan L a (k + d) = (a, true) := by
  intro d
  induction d with
  | zero => intro k h; exact h
  | succ d ih =>
    intro k h
    have h1 := ih k h
    rw [← Nat.add_assoc, segScan]
    have hka : ¬ k + d < a := by
      intro hlt
      rw [segScan_le L a (k + d) (by omega)] at h1
      simp at h1
    rw [if_neg hka, h1, segStep]
    split
    · split
      · simp
      · split
        · rw [if_neg (by simp)]
        · rfl
    · rfl

theorem seg_ps (L : List UInt8) (a p : Nat) (hp : p ≠ a) : ∀ d k, (segScan L a k).1 = p → (segScan L a (k + d)).1 = p := by
  intro d
  induction d with
  | zero => intro k h; exact h
  | succ d ih =>
    intro k h
    have h1 := ih k h
    rw [← Nat.add_assoc, segScan]
    have hka : ¬ k + d < a := by
      intro hlt
      rw [segScan_le L a (k + d) (by omega)] at h1
      exact hp h1.symm
    rw [if_neg hka, segStep]
    split
    · split
      · exact h1
      · split
        · rw [if_neg (by intro hh; exact hp (h1.symm.trans hh.2.2))]
          exact h1
        · exact h1
    · exact h1

/-- A byte at which nothing turns. -/
theorem seg_idle {L : List UInt8} {a k : Nat} (hak : a ≤ k) (h : segScan L a k = (a, false)) (hs : synB L k = false ∨ ((L.getD k 0 = 64 → atAfter L k = false) ∧ (L.getD k 0 = 58 → dAt L k ≠ 1))) : segScan L a (k + 1) = (a, false) := by
  rw [segScan, if_neg (by omega), h, segStep]
  rcases hs with hs | ⟨h1, h2⟩
  · rw [if_neg (by simp [hs])]
  · split
    · split
      · rename_i h64
        simp [h1 h64]
      · split
        · rename_i h58
          rw [if_neg (by intro hh; exact h2 h58 hh.1)]
        · rfl
    · rfl

theorem seg_at {L : List UInt8} {a k b : Nat} (hak : a ≤ k) (hkb : k < b) (h : segScan L a k = (a, false)) (hs : synB L k = true) (hc : L.getD k 0 = 64) (ha : atAfter L k = true) : (segScan L a b).1 = a := by
  have h1 : segScan L a (k + 1) = (a, true) := by
    rw [segScan, if_neg (by omega), h, segStep, if_pos hs, if_pos hc, ha]
    rfl
  have := seg_cl L a (b - (k + 1)) (k + 1) h1
  rw [show k + 1 + (b - (k + 1)) = b by omega] at this
  rw [this]

theorem seg_colon {L : List UInt8} {a k b : Nat} (hak : a ≤ k) (hkb : k < b) (h : segScan L a k = (a, false)) (hs : synB L k = true) (hc : L.getD k 0 = 58) (hd : dAt L k = 1) : (segScan L a b).1 = k + 1 := by
  have h1 : (segScan L a (k + 1)).1 = k + 1 := by
    rw [segScan, if_neg (by omega), h, segStep, if_pos hs, if_neg (by rw [hc]; decide), if_pos hc, if_pos ⟨hd, rfl, rfl⟩]
  have := seg_ps L a (k + 1) (by omega) (b - (k + 1)) (k + 1) h1
  rw [show k + 1 + (b - (k + 1)) = b by omega] at this
  exact this

end Go.Proofs.Qxb6600920aMods
