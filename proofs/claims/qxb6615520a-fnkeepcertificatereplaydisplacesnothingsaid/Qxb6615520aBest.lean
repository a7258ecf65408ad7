/-
  The plain law: which certificate is kept. No Go in sight.
-/
namespace Go.Proofs.Qxb6615520a

/-- Of the first i handed certificates the one that is kept at sequence number s. -/
def best (sq vw : Nat → Int) : Nat → Int → Option Nat
  | 0, _ => none
  | i + 1, s => if sq i = s then (match best sq vw i s with
      | none => some i
      | some j => if vw j < vw i then some i else some j) else best sq vw i s

theorem best_other {sq vw : Nat → Int} {i : Nat} {s : Int} (h : sq i ≠ s) : best sq vw (i + 1) s = best sq vw i s := by
  simp [best, h]

theorem best_new {sq vw : Nat → Int} {i : Nat} {s : Int} (h : sq i = s) (hb : best sq vw i s = none) : best sq vw (i + 1) s = some i := by
  simp [best, h, hb]

theorem best_over {sq vw : Nat → Int} {i j : Nat} {s : Int} (h : sq i = s) (hb : best sq vw i s = some j) (hv : vw j < vw i) : best sq vw (i + 1) s = some i := by
  simp [best, h, hb, hv]

theorem best_stay {sq vw : Nat → Int} {i j : Nat} {s : Int} (h : sq i = s) (hb : best sq vw i s = some j) (hv : ¬ vw j < vw i) : best sq vw (i + 1) s = some j := by
  simp [best, h, hb, hv]

theorem best_lt {sq vw : Nat → Int} : ∀ {i : Nat} {s : Int} {j : Nat}, best sq vw i s = some j → j < i ∧ sq j = s
  | 0, _, _, h => by simp [best] at h
  | i + 1, s, j, h => by
    by_cases e : sq i = s
    · cases hb : best sq vw i s with
      | none => rw [best_new e hb] at h; cases h; exact ⟨by omega, e⟩
      | some j' =>
        have ih := best_lt hb
        by_cases v : vw j' < vw i
        · rw [best_over e hb v] at h; cases h; exact ⟨by omega, e⟩
        · rw [best_stay e hb v] at h; cases h; exact ⟨by omega, ih.2⟩
    · rw [best_other e] at h
      have ih := best_lt h
      exact ⟨by omega, ih.2⟩

theorem best_none {sq vw : Nat → Int} : ∀ {i : Nat} {s : Int}, best sq vw i s = none ↔ ∀ j, j < i → sq j ≠ s
  | 0, _ => by simp [best]
  | i + 1, s => by
    by_cases e : sq i = s
    · constructor
      · intro h
        cases hb : best sq vw i s with
        | none => rw [best_new e hb] at h; cases h
        | some j' =>
          by_cases v : vw j' < vw i
          · rw [best_over e hb v] at h; cases h
          · rw [best_stay e hb v] at h; cases h
      · intro h; exact absurd e (h i (by omega))
    · rw [best_other e, best_none]
      constructor
      · intro h j hj
        rcases Nat.lt_or_ge j i with q | q
        · exact h j q
        · have : j = i := by omega
          subst this; exact e
      · intro h j hj; exact h j (by omega)

/-- Its view is the greatest. -/
theorem best_max {sq vw : Nat → Int} : ∀ {i : Nat} {s : Int} {j : Nat}, best sq vw i s = some j → ∀ m, m < i → sq m = s → vw m ≤ vw j
  | 0, _, _, h => by simp [best] at h
  | i + 1, s, j, h => by
    intro m hm es
    by_cases e : sq i = s
    · cases hb : best sq vw i s with
      | none =>
        rw [best_new e hb] at h; cases h
        rcases Nat.lt_or_ge m i with q | q
        · exact absurd es (best_none.1 hb m q)
        · have : m = i := by omega
          subst this; exact Int.le_refl _
      | some j' =>
        have ih := best_max hb
        by_cases v : vw j' < vw i
        · rw [best_over e hb v] at h; cases h
          rcases Nat.lt_or_ge m i with q | q
          · have := ih m q es; omega
          · have : m = i := by omega
            subst this; exact Int.le_refl _
        · rw [best_stay e hb v] at h; cases h
          rcases Nat.lt_or_ge m i with q | q
          · exact ih m q es
          · have : m = i := by omega
            subst this; omega
    · rw [best_other e] at h
      rcases Nat.lt_or_ge m i with q | q
      · exact best_max h m q es
      · have : m = i := by omega
        subst this; exact absurd es e

/-- -1 for none: what the inner loop holds. -/
def idx : Option Nat → Int
  | none => -1
  | some j => j

/-- The greatest view of the first i at s, from nought on. -/
def most (sq vw : Nat → Int) : Nat → Int → Int
  | 0, _ => 0
  | i + 1, s => if sq i = s ∧ most sq vw i s < vw i then vw i else most sq vw i s

theorem most_best {sq vw : Nat → Int} (hv : ∀ i, 0 ≤ vw i) : ∀ {i : Nat} {s : Int}, (best sq vw i s = none → most sq vw i s = 0) ∧ ∀ j, best sq vw i s = some j → most sq vw i s = vw j
  | 0, _ => by simp [best, most]
  | i + 1, s => by
    obtain ⟨ih1, ih2⟩ := most_best hv (i := i) (s := s)
    by_cases e : sq i = s
    · cases hb : best sq vw i s with
      | none =>
        have m0 := ih1 hb
        have := hv i
        rw [best_new e hb]
        refine ⟨by simp, fun j q => ?_⟩
        cases q
        simp only [most, e, m0, true_and]
        split <;> omega
      | some j' =>
        have m0 := ih2 j' hb
        by_cases v : vw j' < vw i
        · rw [best_over e hb v]
          refine ⟨by simp, fun j q => ?_⟩
          cases q
          simp [most, e, m0, v]
        · rw [best_stay e hb v]
          refine ⟨by simp, fun j q => ?_⟩
          cases q
          simp [most, e, m0, v]
    · rw [best_other e]
      simp only [most, e, false_and, if_false]
      exact ⟨ih1, ih2⟩

end Go.Proofs.Qxb6615520a
