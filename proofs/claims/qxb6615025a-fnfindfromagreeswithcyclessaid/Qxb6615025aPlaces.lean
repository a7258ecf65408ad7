/- Sizes and places of a tree in preorder, by index. -/
import Derived.Test.Qxb6615025aPre
import Derived.Test.Qxb6615025aTree
namespace Go.Proofs.Qxb6615025a

/-- A tree whose nodes stand in a queue. -/
structure Ord (fr : Nat → Int) (rc : List Nat) (par : Nat → Nat) : Prop where
  nd : rc.Nodup
  h0 : 0 < rc.length
  f0 : fr (rc.getD 0 0) = -1
  pl : ∀ j, 0 < j → j < rc.length → par j < j ∧ fr (rc.getD j 0) = (rc.getD (par j) 0 : Int)
  mono : ∀ j j', 0 < j → j ≤ j' → j' < rc.length → par j ≤ par j'

/-- The sizes, by index, when the last m nodes have been taken. -/
def tsz (par : Nat → Nat) (N : Nat) : Nat → Nat → Nat
  | 0, _ => 1
  | m + 1, j => tsz par N m j + if par (N - 1 - m) = j then tsz par N m (N - 1 - m) else 0

theorem getD_inj {l : List Nat} (h : l.Nodup) {i j : Nat} (hi : i < l.length) (hj : j < l.length) (e : l.getD i 0 = l.getD j 0) : i = j := by
  simp [hi, hj] at e
  exact (List.getElem?_inj hi h).1 (by rw [List.getElem?_eq_getElem hi, List.getElem?_eq_getElem hj, e])

theorem ones_mem : ∀ (rc : List Nat) (sz : Nat → Int) (v : Nat), v ∈ rc ∨ sz v = 1 → ones rc sz v = 1
  | [], sz, v, h => by simpa [ones] using h
  | u :: rc, sz, v, h => by
    show ones rc (upd sz u 1) v = 1
    apply ones_mem
    by_cases e : v = u
    · subst e
      right
      simp
    · rw [upd_other _ _ e]
      simpa [e] using h

theorem sizeAt_tsz {fr : Nat → Int} {rc : List Nat} {par : Nat → Nat} (h : Ord fr rc par) (size : Nat → Int) : ∀ m, m ≤ rc.length - 1 → ∀ j, j < rc.length → sizeAt fr rc size m (rc.getD j 0) = tsz par rc.length m j
  | 0, _, j, hj => ones_mem _ _ _ (.inl (by simp [hj]))
  | m + 1, hm, j, hj => by
    have ih := sizeAt_tsz h size m (by omega)
    obtain ⟨h1, h2⟩ := h.pl (rc.length - 1 - m) (by omega) (by omega)
    have e : (fr (rc.getD (rc.length - 1 - m) 0)).toNat = rc.getD (par (rc.length - 1 - m)) 0 := by rw [h2]; simp
    unfold sizeAt tsz
    rw [e, ih _ (by omega), ih _ (by omega)]
    by_cases q : par (rc.length - 1 - m) = j
    · subst q
      rw [upd_same]
      simp
    · rw [upd_other _ _ (fun r => q (getD_inj h.nd hj (by omega) r).symm), ih j hj]
      simp [q]

theorem tsz_pos (par : Nat → Nat) (N : Nat) : ∀ m j, 1 ≤ tsz par N m j
  | 0, j => Nat.le_refl 1
  | m + 1, j => by
    unfold tsz
    have := tsz_pos par N m j
    omega

theorem tsz_mono (par : Nat → Nat) (N : Nat) (j : Nat) : ∀ m k, tsz par N m j ≤ tsz par N (m + k) j
  | m, 0 => Nat.le_refl _
  | m, k + 1 => by
    have := tsz_mono par N j m k
    rw [← Nat.add_assoc]
    show _ ≤ tsz par N (m + k) j + _
    omega

theorem tsz_stable {par : Nat → Nat} {N : Nat} (hp : ∀ j, 0 < j → j < N → par j < j) (j m : Nat) (hj : N - 1 - m ≤ j) : ∀ k, m + k ≤ N - 1 → tsz par N (m + k) j = tsz par N m j
  | 0, _ => rfl
  | k + 1, hk => by
    have ih := tsz_stable hp j m hj k (by omega)
    rw [← Nat.add_assoc]
    have := hp (N - 1 - (m + k)) (by omega) (by omega)
    show tsz par N (m + k) j + (if par (N - 1 - (m + k)) = j then _ else 0) = _
    rw [ih, if_neg (by omega)]
    rfl

/-- The final size of the node at index j. -/
def fsz (par : Nat → Nat) (N j : Nat) : Nat := tsz par N (N - 1) j

theorem fsz_own {par : Nat → Nat} {N : Nat} (hp : ∀ j, 0 < j → j < N → par j < j) {j : Nat} (hj : j < N) : fsz par N j = tsz par N (N - 1 - j) j := by
  have := tsz_stable hp j (N - 1 - j) (by omega) j (by omega)
  unfold fsz
  rw [← this]
  congr 1
  omega

/-- One node more is taken. -/
theorem tsz_step {par : Nat → Nat} {N : Nat} (hp : ∀ j, 0 < j → j < N → par j < j) {c : Nat} (h0 : 0 < c) (hc : c < N) (j : Nat) : tsz par N (N - c) j = tsz par N (N - 1 - c) j + if par c = j then fsz par N c else 0 := by
  rw [fsz_own hp hc]
  have e : N - c = (N - 1 - c) + 1 := by omega
  rw [e]
  show tsz par N (N - 1 - c) j + _ = _
  have e2 : N - 1 - (N - 1 - c) = c := by omega
  rw [e2]

def sm (f : Nat → Nat) : Nat → Nat
  | 0 => 0
  | k + 1 => sm f k + f k

theorem sm_add (f : Nat → Nat) (p x : Nat) : ∀ k, sm (fun j => f j + if p = j then x else 0) k = sm f k + if p < k then x else 0
  | 0 => by simp [sm]
  | k + 1 => by
    simp only [sm]
    rw [sm_add f p x k]
    by_cases h : p < k
    · rw [if_pos h, if_neg (by omega), if_pos (by omega)]; omega
    · by_cases h2 : p = k
      · rw [if_neg h, if_pos h2, if_pos (by omega)]; omega
      · rw [if_neg h, if_neg h2, if_neg (by omega)]; omega

theorem sm_one : ∀ k, sm (fun _ => 1) k = k
  | 0 => rfl
  | k + 1 => by simp [sm, sm_one k]

theorem tsz_sum {par : Nat → Nat} {N : Nat} (hp : ∀ j, 0 < j → j < N → par j < j) : ∀ m, m ≤ N - 1 → sm (tsz par N m) (N - m) = N
  | 0, _ => by
    have : tsz par N 0 = fun _ => 1 := by funext j; rfl
    rw [this, sm_one]
    rfl
  | m + 1, hm => by
    have ih := tsz_sum hp m (by omega)
    have e : N - m = (N - (m + 1)) + 1 := by omega
    rw [e] at ih
    simp only [sm] at ih
    have e2 : tsz par N (m + 1) = fun j => tsz par N m j + if par (N - 1 - m) = j then tsz par N m (N - 1 - m) else 0 := by funext j; rfl
    rw [e2, sm_add]
    have := hp (N - 1 - m) (by omega) (by omega)
    rw [if_pos (by omega)]
    have e3 : N - (m + 1) = N - 1 - m := by omega
    rw [e3] at ih ⊢
    exact ih

theorem fsz_zero {par : Nat → Nat} {N : Nat} (hp : ∀ j, 0 < j → j < N → par j < j) (h0 : 0 < N) : fsz par N 0 = N := by
  have := tsz_sum hp (N - 1) (Nat.le_refl _)
  have e : N - (N - 1) = 1 := by omega
  rw [e] at this
  simpa [sm, fsz] using this

theorem sizeF_fsz {fr : Nat → Int} {rc : List Nat} {par : Nat → Nat} (h : Ord fr rc par) (size : Nat → Int) {j : Nat} (hj : j < rc.length) : sizeF fr rc size (rc.getD j 0) = fsz par rc.length j :=
  sizeAt_tsz h size _ (Nat.le_refl _) j hj

/-! ### places -/
def pix (fr : Nat → Int) (rc : List Nat) (sz ps : Nat → Int) (j : Nat) : Int := posAt fr rc sz ps j (rc.getD j 0)

theorem posAt_stable {fr : Nat → Int} {rc : List Nat} (hnd : rc.Nodup) (sz ps : Nat → Int) (j : Nat) : ∀ k, j + k < rc.length → posAt fr rc sz ps (j + k) (rc.getD j 0) = pix fr rc sz ps j
  | 0, _ => rfl
  | k + 1, hk => by
    rw [← Nat.add_assoc]
    unfold posAt
    rw [upd_other _ _ (fun q => by have := getD_inj hnd (by omega) (by omega) q; omega)]
    exact posAt_stable hnd sz ps j k (by omega)

/-- What the places are, by index. -/
structure Pl (par : Nat → Nat) (N : Nat) (p : Nat → Int) : Prop where
  hp : ∀ j, 0 < j → j < N → par j < j
  mono : ∀ j j', 0 < j → j ≤ j' → j' < N → par j ≤ par j'
  h0 : 0 < N
  p0 : p 0 = 0
  nx : ∀ c, 0 < c → c < N → p c = if 0 < c - 1 ∧ par (c - 1) = par c then p (c - 1) + fsz par N (c - 1) else p (par c) + 1

theorem Ord.places {fr : Nat → Int} {rc : List Nat} {par : Nat → Nat} (h : Ord fr rc par) (size ps : Nat → Int) : Pl par rc.length (pix fr rc (sizeF fr rc size) ps) where
  hp := fun j h1 h2 => (h.pl j h1 h2).1
  mono := h.mono
  h0 := h.h0
  p0 := by simp [pix, posAt]
  nx := fun c h1 h2 => by
    obtain ⟨m, rfl⟩ : ∃ m, c = m + 1 := ⟨c - 1, by omega⟩
    obtain ⟨q1, q2⟩ := h.pl (m + 1) h1 h2
    show posAt fr rc _ ps (m + 1) _ = _
    unfold posAt
    rw [upd_same, Nat.add_sub_cancel]
    have e1 : posAt fr rc (sizeF fr rc size) ps m (fr (rc.getD (m + 1) 0)).toNat = pix fr rc (sizeF fr rc size) ps (par (m + 1)) := by
      rw [q2]
      have := posAt_stable h.nd (fr := fr) (sizeF fr rc size) ps (par (m + 1)) (m - par (m + 1)) (by omega)
      have e : par (m + 1) + (m - par (m + 1)) = m := by omega
      rw [e] at this
      simpa using this
    rw [e1, sizeF_fsz h size (by omega)]
    by_cases hm : 0 < m
    · obtain ⟨r1, r2⟩ := h.pl m hm (by omega)
      rw [q2, r2]
      by_cases e : par m = par (m + 1)
      · rw [if_pos (c := 0 < m ∧ par m = par (m + 1)) ⟨hm, e⟩, e, if_pos rfl]; rfl
      · rw [if_neg (c := 0 < m ∧ par m = par (m + 1)) (fun q => e q.2), if_neg (fun q => e (getD_inj h.nd (by omega) (by omega) (by omega)))]
    · have : m = 0 := by omega
      subst this
      rw [if_neg (c := 0 < 0 ∧ _) (fun q => by omega), if_neg]
      rw [h.f0, q2]
      omega

/-- The places of a node's children fill its own but the first. -/
theorem Pl.fill {par : Nat → Nat} {N : Nat} {p : Nat → Int} (h : Pl par N p) : ∀ c, 0 < c → c < N → p c + tsz par N (N - c) (par c) = p (par c) + fsz par N (par c) + 1 := by
  intro c
  induction c with
  | zero => intro q; omega
  | succ c ih =>
    intro _ hc
    have hnx := h.nx (c + 1) (by omega) hc
    rw [Nat.add_sub_cancel] at hnx
    by_cases e : 0 < c ∧ par c = par (c + 1)
    · rw [if_pos e] at hnx
      have := ih e.1 (by omega)
      have hs := tsz_step h.hp e.1 (by omega) (par c)
      rw [if_pos rfl] at hs
      rw [e.2] at this hs
      have e3 : N - (c + 1) = N - 1 - c := by omega
      rw [e3]
      omega
    · rw [if_neg e] at hnx
      rw [hnx]
      suffices hs : fsz par N (par (c + 1)) = tsz par N (N - (c + 1)) (par (c + 1)) by omega
      have key : ∀ k, N - (c + 1) + k ≤ N - 1 → tsz par N (N - (c + 1) + k) (par (c + 1)) = tsz par N (N - (c + 1)) (par (c + 1)) := by
        intro k
        induction k with
        | zero => intro _; rfl
        | succ k ih2 =>
          intro hk
          rw [← Nat.add_assoc]
          show tsz par N (N - (c + 1) + k) _ + _ = _
          rw [ih2 (by omega), if_neg]
          · rfl
          · intro q
            have hx : N - 1 - (N - (c + 1) + k) = c - k := by omega
            rw [hx] at q
            have h1 := h.mono (c - k) c (by omega) (by omega) (by omega)
            have h2 := h.mono c (c + 1) (by omega) (by omega) (by omega)
            exact e ⟨by omega, by omega⟩
      have := key c (by omega)
      have e3 : N - (c + 1) + c = N - 1 := by omega
      rw [e3] at this
      exact this

theorem fsz_pos (par : Nat → Nat) (N j : Nat) : 1 ≤ fsz par N j := tsz_pos _ _ _ _

/-- A child's places lie in its parent's, behind the first. -/
theorem Pl.nest {par : Nat → Nat} {N : Nat} {p : Nat → Int} (h : Pl par N p) {c : Nat} (h0 : 0 < c) (hc : c < N) : p (par c) + 1 ≤ p c ∧ p c + fsz par N c ≤ p (par c) + fsz par N (par c) := by
  have hf := h.fill c h0 hc
  have hs := tsz_step h.hp h0 hc (par c)
  rw [if_pos rfl] at hs
  have h1 := tsz_pos par N (N - 1 - c) (par c)
  refine ⟨?_, by omega⟩
  have h2 := tsz_mono par N (par c) (N - c) (c - 1)
  have e : N - c + (c - 1) = N - 1 := by omega
  rw [e] at h2
  change tsz par N (N - c) (par c) ≤ fsz par N (par c) at h2
  omega

/-- Siblings' places lie apart. -/
theorem Pl.apart {par : Nat → Nat} {N : Nat} {p : Nat → Int} (h : Pl par N p) {c d : Nat} (h0 : 0 < c) (hcd : c < d) (hd : d < N) (e : par c = par d) : p c + fsz par N c ≤ p d := by
  have f1 := h.fill c h0 (by omega)
  have f2 := h.fill d (by omega) hd
  have hs := tsz_step h.hp h0 (by omega : c < N) (par c)
  rw [if_pos rfl] at hs
  have h2 := tsz_mono par N (par c) (N - d) (d - 1 - c)
  have e2 : N - d + (d - 1 - c) = N - 1 - c := by omega
  rw [e2] at h2
  rw [e] at f1 hs h2
  omega

theorem Pl.bound {par : Nat → Nat} {N : Nat} {p : Nat → Int} (h : Pl par N p) : ∀ j, j < N → 0 ≤ p j ∧ p j + fsz par N j ≤ N := by
  intro j
  induction j using Nat.strongRecOn with
  | _ j ih =>
    intro hj
    by_cases h0 : j = 0
    · subst h0
      rw [h.p0, fsz_zero h.hp h.h0]
      omega
    · obtain ⟨h1, h2⟩ := h.nest (c := j) (by omega) hj
      obtain ⟨h3, h4⟩ := ih (par j) (h.hp j (by omega) hj) (by have := h.hp j (by omega) hj; omega)
      omega

/-- a is an ancestor of j, or j itself. -/
inductive Anc (par : Nat → Nat) (a : Nat) : Nat → Prop
  | self : Anc par a a
  | up {j : Nat} : 0 < j → Anc par a (par j) → Anc par a j

theorem Anc.trans {par : Nat → Nat} {a b c : Nat} (h : Anc par a b) (h2 : Anc par b c) : Anc par a c := by
  induction h2 with
  | self => exact h
  | up h0 _ ih => exact .up h0 ih

theorem Anc.le {par : Nat → Nat} {N a j : Nat} (hp : ∀ j, 0 < j → j < N → par j < j) (h : Anc par a j) (hj : j < N) : a ≤ j := by
  induction h with
  | self => exact Nat.le_refl _
  | up h0 _ ih =>
    have := hp _ h0 hj
    have := ih (by omega)
    omega

theorem Anc.zero {par : Nat → Nat} {N : Nat} (hp : ∀ j, 0 < j → j < N → par j < j) : ∀ j, j < N → Anc par 0 j := by
  intro j
  induction j using Nat.strongRecOn with
  | _ j ih =>
    intro hj
    by_cases h0 : j = 0
    · subst h0; exact .self
    · have := hp j (by omega) hj
      exact .up (by omega) (ih _ this (by omega))

theorem Pl.anc {par : Nat → Nat} {N : Nat} {p : Nat → Int} (h : Pl par N p) {a j : Nat} (ha : Anc par a j) (hj : j < N) : p a ≤ p j ∧ p j + fsz par N j ≤ p a + fsz par N a ∧ (a ≠ j → p a < p j) := by
  induction ha with
  | self => exact ⟨Int.le_refl _, Int.le_refl _, fun q => absurd rfl q⟩
  | @up j h0 _ ih =>
    have := h.hp j h0 hj
    obtain ⟨h1, h2, _⟩ := ih (by omega)
    obtain ⟨h3, h4⟩ := h.nest h0 hj
    omega

/-- Below a node's proper ancestor: through one of the ancestor's children. -/
theorem Anc.child {par : Nat → Nat} {a j : Nat} (h : Anc par a j) (hne : a ≠ j) : ∃ c, 0 < c ∧ par c = a ∧ Anc par c j := by
  induction h with
  | self => exact absurd rfl hne
  | @up j h0 h1 ih =>
    by_cases e : a = par j
    · exact ⟨j, h0, e.symm, .self⟩
    · obtain ⟨c, q1, q2, q3⟩ := ih e
      exact ⟨c, q1, q2, .up h0 q3⟩

theorem Pl.either {par : Nat → Nat} {N : Nat} {p : Nat → Int} (h : Pl par N p) : ∀ j a, a < j → j < N → Anc par a j ∨ p a + fsz par N a ≤ p j ∨ p j + fsz par N j ≤ p a := by
  intro j
  induction j using Nat.strongRecOn with
  | _ j ih =>
    intro a haj hj
    have hpj := h.hp j (by omega) hj
    obtain ⟨n1, n2⟩ := h.nest (c := j) (by omega) hj
    rcases Nat.lt_trichotomy a (par j) with q | q | q
    · rcases ih (par j) hpj a q (by omega) with r | r | r
      · exact .inl (.up (by omega) r)
      · exact .inr (.inl (by omega))
      · exact .inr (.inr (by omega))
    · subst q
      exact .inl (.up (by omega) .self)
    · rcases ih a haj (par j) q (by omega) with r | r | r
      · obtain ⟨c, c1, c2, c3⟩ := r.child (by omega)
        have hca := c3.le h.hp (by omega)
        obtain ⟨m1, m2, _⟩ := h.anc c3 (by omega)
        have := h.apart c1 (by omega : c < j) hj c2
        exact .inr (.inl (by omega))
      · exact .inr (.inr (by omega))
      · exact .inr (.inl (by omega))

/-- A node's places hold j's just when it is an ancestor of j, or j. -/
theorem Pl.iff {par : Nat → Nat} {N : Nat} {p : Nat → Int} (h : Pl par N p) {a j : Nat} (ha : a < N) (hj : j < N) : (p a ≤ p j ∧ p j < p a + fsz par N a) ↔ Anc par a j := by
  constructor
  · rintro ⟨h1, h2⟩
    have s1 := fsz_pos par N j
    rcases Nat.lt_trichotomy a j with q | q | q
    · rcases h.either j a q hj with r | r | r
      · exact r
      · omega
      · omega
    · subst q; exact .self
    · rcases h.either a j q ha with r | r | r
      · have := (h.anc r ha).2.2 (by omega)
        omega
      · omega
      · have := fsz_pos par N a
        omega
  · intro q
    obtain ⟨h1, h2, _⟩ := h.anc q hj
    have := fsz_pos par N j
    omega

theorem Pl.inj {par : Nat → Nat} {N : Nat} {p : Nat → Int} (h : Pl par N p) {a j : Nat} (ha : a < N) (hj : j < N) (e : p a = p j) : a = j := by
  have s1 := fsz_pos par N a
  have q := (h.iff ha hj).1 (by omega)
  by_cases hne : a = j
  · exact hne
  · have := (h.anc q hj).2.2 hne
    omega

end Go.Proofs.Qxb6615025a
