-- What a fresh cycler finds, beside what Cycles gives (plain).
import Derived.Test.Qxb6615025aSpec
namespace Go.Proofs.Qxb6615025a
open Go.RowKit Go.MapKept

theorem lead_at {ks : List ByteArray} {cy : List Nat} {a i : Nat} (h : i < (cy.take a).length) : (names ks (cy.take a))[i]? = some (.string (ks.getD (cy.getD i 0) ByteArray.empty)) := by
  unfold names
  rw [List.length_take] at h
  have hi : i < cy.length := by omega
  have e : cy.getD i 0 = cy[i] := by simp [List.getD_eq_getElem?_getD, List.getElem?_eq_getElem hi]
  rw [List.getElem?_map, List.getElem?_take_of_lt (by omega), List.getElem?_eq_getElem hi, e]
  rfl

section
variable {g : Nat → List Nat} {n : Nat} {D : Nat → Int}

/-- The first node of a component is the first of each of its nodes. -/
theorem leastN_same (h : Dst g n D) {u v : Nat} (hu : u < n) (hv : v < n) (hl : leastN D n u = u) (hs : sameB D n u v = true) : leastN D n v = u := by
  obtain ⟨l1, l2, l3⟩ := least_spec h hv
  obtain ⟨m1, m2, m3⟩ := least_spec h hu
  rw [hl] at m1 m2 m3
  have hlu : sameB D n (leastN D n v) u = true := same_trans h hv l1 hu (same_sy h l1 hv l2) (same_sy h hu hv hs)
  rcases Nat.lt_trichotomy (leastN D n v) u with q | q | q
  · rw [m3 _ q] at hlu; cases hlu
  · exact q
  · have := same_sy h l1 hu hlu
    rw [l3 _ q] at this; cases this

/-- What a fresh cycler finds at the first node of a component is what Cycles gives its nodes. -/
theorem fnd_yes (h : Dst g n D) {u : Nat} (hu : u < n) (hl : leastN D n u = u) {lead H : Nat} {ks : List ByteArray} {w : World} {fm : Value → Option Value}
    (hF : Fnd H w n lead u ks g (fun v => sameB D n u v) (gF (revAt g n) (sameB D n) n u) (gF g (sameB D n) n u) fm) {v : Nat} (hv : v < n) (hs : 0 < scAt g D n n u) (hsv : sameB D n u v = true) :
    ∃ a cc, fm (kyV ks v) = some (.agg #[.int .i64 ((cyV g D n v).length : Int), .slice a ((cyV g D n v).take lead).length cc]) ∧ Sl w 9 1 a ((cyV g D n v).take lead).length cc (names ks ((cyV g D n v).take lead)) ∧ ∀ b, blk a = some b → H ≤ b := by
  rw [cyV_hub h hu hv hl hsv]
  exact hF.yes ((sc_stp h hu).1 hs) v hv hsv

theorem fnd_none (h : Dst g n D) {u : Nat} (hu : u < n) {lead H : Nat} {ks : List ByteArray} {w : World} {fm : Value → Option Value}
    (hF : Fnd H w n lead u ks g (fun v => sameB D n u v) (gF (revAt g n) (sameB D n) n u) (gF g (sameB D n) n u) fm) {k : Value} (hk : IsKey .string k) (hs : ∀ v, v < n → 0 < scAt g D n n u ∧ sameB D n u v = true → k ≠ kyV ks v) : fm k = none := by
  by_cases q : 0 < scAt g D n n u
  · exact hF.none k hk (fun v hv r => hs v hv ⟨q, r⟩)
  · refine hF.no ?_ k hk
    show stp g (revAt g n) (sameB D n) n u < 0
    rcases Int.lt_or_le (stp g (revAt g n) (sameB D n) n u) 0 with r | r
    · exact r
    · exact absurd ((sc_stp h hu).2 r) q

theorem fnd_no (h : Dst g n D) {u : Nat} (hu : u < n) {lead H : Nat} {ks : List ByteArray} {w : World} {fm : Value → Option Value}
    (hF : Fnd H w n lead u ks g (fun v => sameB D n u v) (gF (revAt g n) (sameB D n) n u) (gF g (sameB D n) n u) fm) (kn : ks.Nodup) (kl : ks.length = n) {v : Nat} (hv : v < n) (hs : ¬ (0 < scAt g D n n u ∧ sameB D n u v = true)) : fm (kyV ks v) = none :=
  fnd_none h hu hF trivial (fun x hx hsx e => by
    have := ky_inj kn (by rw [kl]; exact hv) (by rw [kl]; exact hx) e
    subst this
    exact hs hsx)

/-- How many nodes below k lie in u's component, if it holds a cycle. -/
def inH (g : Nat → List Nat) (D : Nat → Int) (n u k : Nat) : Nat := ((List.range k).filter fun v => decide (0 < scAt g D n n u ∧ sameB D n u v = true)).length

theorem inH_succ {u : Nat} (k : Nat) : inH g D n u (k + 1) = inH g D n u k + if 0 < scAt g D n n u ∧ sameB D n u k = true then 1 else 0 := by
  unfold inH
  rw [List.range_succ, List.filter_append]
  by_cases h : 0 < scAt g D n n u ∧ sameB D n u k = true
  · simp [h]
  · rw [if_neg h, List.length_append]
    simp [h]

theorem inH_le {u : Nat} (k : Nat) : inH g D n u k ≤ k := by
  unfold inH
  exact Nat.le_trans (List.length_filter_le _ _) (by simp)

theorem fnd_count (h : Dst g n D) {u : Nat} (hu : u < n) (hl : leastN D n u = u) {lead H cn bmr : Nat} {ks : List ByteArray} {w : World} {fm : Value → Option Value}
    (hF : Fnd H w n lead u ks g (fun v => sameB D n u v) (gF (revAt g n) (sameB D n) n u) (gF g (sameB D n) n u) fm) (kn : ks.Nodup) (kl : ks.length = n) (hM : MapAt .string w bmr cn fm) : cn = inH g D n u n := by
  have := hM.count (kl := ((List.range n).filter fun v => decide (0 < scAt g D n n u ∧ sameB D n u v = true)).map fun v => kyV ks v) (by
      have := ky_nodup kn (fun v => decide (0 < scAt g D n n u ∧ sameB D n u v = true))
      rw [kl] at this
      exact this) (fun k hk => by
      simp only [List.mem_map, List.mem_filter, List.mem_range, decide_eq_true_eq] at hk
      obtain ⟨x, ⟨hx, hf1, hf2⟩, rfl⟩ := hk
      obtain ⟨a, cc, h1, _⟩ := fnd_yes h hu hl hF hx hf1 hf2
      exact ⟨trivial, by rw [h1]; simp⟩) (fun k hk hnk => fnd_none h hu hF hk (fun v hv hsv e => hnk (by
      simp only [List.mem_map, List.mem_filter, List.mem_range, decide_eq_true_eq]
      exact ⟨v, ⟨hv, hsv⟩, e.symm⟩)))
  rw [this, List.length_map]
  rfl
end
end Go.Proofs.Qxb6615025a
