/- Ways down a tree, its preorder, and the path that the walk down keeps. -/
import Derived.Test.Qxb6615025aPlaces
import Derived.Test.Qxb6615025aPlan
namespace Go.Proofs.Qxb6615025a

/-- The way down a tree to v, d steps long. -/
def way (fr : Nat → Int) : Nat → Nat → List Nat
  | 0, v => [v]
  | d + 1, v => way fr d (fr v).toNat ++ [v]

def wy (fr dp : Nat → Int) (v : Nat) : List Nat := way fr (dp v).toNat v

theorem wy_root {fr dp : Nat → Int} {v : Nat} (h : dp v = 0) : wy fr dp v = [v] := by simp [wy, h, way]

theorem wy_step {fr dp : Nat → Int} {u v : Nat} (hf : fr v = u) (h0 : 0 ≤ dp u) (h : dp v = dp u + 1) : wy fr dp v = wy fr dp u ++ [v] := by
  unfold wy
  have : (dp v).toNat = (dp u).toNat + 1 := by omega
  rw [this]
  simp [way, hf]

theorem getD_app_left {l m : List Nat} {i : Nat} (h : i < l.length) : (l ++ m).getD i 0 = l.getD i 0 := by
  rw [List.getD_eq_getElem?_getD, List.getElem?_append_left h, List.getD_eq_getElem?_getD]

theorem getD_app_right {l m : List Nat} {i : Nat} (h : l.length ≤ i) : (l ++ m).getD i 0 = m.getD (i - l.length) 0 := by
  rw [List.getD_eq_getElem?_getD, List.getElem?_append_right h, List.getD_eq_getElem?_getD]

theorem nodup_of {l : List Nat} (h : ∀ a b, a < b → b < l.length → l.getD a 0 ≠ l.getD b 0) : l.Nodup := by
  unfold List.Nodup
  rw [List.pairwise_iff_getElem]
  intro i j hi hj hij q
  exact h i j hij hj (by simp [hi, hj, q])

/-- A tree in a queue, with its depths. -/
structure Deep (fr dp : Nat → Int) (rc : List Nat) (par : Nat → Nat) : Prop where
  ord : Ord fr rc par
  d0 : dp (rc.getD 0 0) = 0
  dn : ∀ j, 0 < j → j < rc.length → dp (rc.getD j 0) = dp (rc.getD (par j) 0) + 1

theorem getD_some {l : List Nat} {j v : Nat} (h : l[j]? = some v) : j < l.length ∧ l.getD j 0 = v := by
  obtain ⟨h1, h2⟩ := List.getElem?_eq_some_iff.1 h
  exact ⟨h1, by simp [h1, h2]⟩

theorem getD_get {l : List Nat} {j : Nat} (h : j < l.length) : l[j]? = some (l.getD j 0) := by simp [h]

theorem Tree.deep {n start : Nat} {within : Nat → Bool} {next : Nat → List Nat} {fr0 dp0 : Nat → Int} {s : GS} (h : Tree n start within next fr0 dp0 s) : ∃ par, Deep s.fr s.dp s.rc par ∧
    ∀ j, 0 < j → j < s.rc.length → s.rc.getD j 0 ∈ next (s.rc.getD (par j) 0) := by
  obtain ⟨h1, h2⟩ := getD_some h.hd
  have key : ∀ j, ∃ i, 0 < j → j < s.rc.length → i < j ∧ s.fr (s.rc.getD j 0) = (s.rc.getD i 0 : Int) ∧ s.dp (s.rc.getD j 0) = s.dp (s.rc.getD i 0) + 1 ∧ s.rc.getD j 0 ∈ next (s.rc.getD i 0) := fun j => by
    by_cases q : 0 < j ∧ j < s.rc.length
    · obtain ⟨i, u, hi, _, hu, hf, hn, hd⟩ := h.par j _ (getD_get q.2) q.1
      rw [← (getD_some hu).2] at hf hd hn
      exact ⟨i, fun _ _ => ⟨hi, hf, hd, hn⟩⟩
    · exact ⟨0, fun a b => absurd ⟨a, b⟩ q⟩
  obtain ⟨par, hpar⟩ := Classical.axiomOfChoice key
  refine ⟨par, ⟨⟨h.nd, h1, by rw [h2]; exact h.fs, fun j q1 q2 => ⟨(hpar j q1 q2).1, (hpar j q1 q2).2.1⟩, fun j j' q1 q2 q3 => ?_⟩, by rw [h2]; exact h.ds, fun j q1 q2 => (hpar j q1 q2).2.2.1⟩, fun j q1 q2 => (hpar j q1 q2).2.2.2⟩
  obtain ⟨a1, a2, _⟩ := hpar j q1 (by omega)
  obtain ⟨b1, b2, _⟩ := hpar j' (by omega) q3
  exact h.mono j j' _ _ (par j) (par j') _ _ (getD_get (by omega)) (getD_get q3) q1 q2 (getD_get (by omega)) (getD_get (by omega)) a2 b2

section deep
variable {fr dp : Nat → Int} {rc : List Nat} {par : Nat → Nat}

theorem Deep.nonneg (h : Deep fr dp rc par) : ∀ j, j < rc.length → 0 ≤ dp (rc.getD j 0) := by
  intro j
  induction j using Nat.strongRecOn with
  | _ j ih =>
    intro hj
    by_cases h0 : j = 0
    · subst h0; rw [h.d0]; exact Int.le_refl _
    · obtain ⟨q, _⟩ := h.ord.pl j (by omega) hj
      have := ih _ q (by omega)
      have := h.dn j (by omega) hj
      omega

theorem Deep.wy0 (h : Deep fr dp rc par) : wy fr dp (rc.getD 0 0) = [rc.getD 0 0] := wy_root h.d0

theorem Deep.wyS (h : Deep fr dp rc par) {j : Nat} (h0 : 0 < j) (hj : j < rc.length) : wy fr dp (rc.getD j 0) = wy fr dp (rc.getD (par j) 0) ++ [rc.getD j 0] := by
  obtain ⟨q1, q2⟩ := h.ord.pl j h0 hj
  exact wy_step q2 (h.nonneg _ (by omega)) (h.dn j h0 hj)

theorem Deep.len (h : Deep fr dp rc par) : ∀ j, j < rc.length → (wy fr dp (rc.getD j 0)).length = (dp (rc.getD j 0)).toNat + 1 := by
  intro j
  induction j using Nat.strongRecOn with
  | _ j ih =>
    intro hj
    by_cases h0 : j = 0
    · subst h0; rw [h.wy0, h.d0]; rfl
    · obtain ⟨q, _⟩ := h.ord.pl j (by omega) hj
      have := ih _ q (by omega)
      have := h.dn j (by omega) hj
      have := h.nonneg (par j) (by omega)
      rw [h.wyS (by omega) hj, List.length_append, List.length_singleton]
      omega

theorem Deep.take (h : Deep fr dp rc par) {a j : Nat} (ha : Anc par a j) (hj : j < rc.length) : (wy fr dp (rc.getD j 0)).take ((dp (rc.getD a 0)).toNat + 1) = wy fr dp (rc.getD a 0) ∧ dp (rc.getD a 0) ≤ dp (rc.getD j 0) := by
  induction ha with
  | self => exact ⟨by rw [← h.len a hj, List.take_length], Int.le_refl _⟩
  | @up j h0 _ ih =>
    obtain ⟨q, _⟩ := h.ord.pl j h0 hj
    obtain ⟨i1, i2⟩ := ih (by omega)
    have := h.dn j h0 hj
    have hl := h.len (par j) (by omega)
    have := h.nonneg (par j) (by omega)
    refine ⟨?_, by omega⟩
    rw [h.wyS h0 hj, List.take_append_of_le_length (by omega)]
    exact i1

theorem Deep.mem (h : Deep fr dp rc par) (u : Nat) : ∀ j, j < rc.length → (u ∈ wy fr dp (rc.getD j 0) ↔ ∃ a, a < rc.length ∧ Anc par a j ∧ u = rc.getD a 0) := by
  intro j
  induction j using Nat.strongRecOn with
  | _ j ih =>
    intro hj
    by_cases h0 : j = 0
    · subst h0
      rw [h.wy0]
      simp only [List.mem_singleton]
      constructor
      · intro q; exact ⟨0, hj, .self, q⟩
      · rintro ⟨a, ha, hA, rfl⟩
        have := hA.le (fun j q1 q2 => (h.ord.pl j q1 q2).1) hj
        have : a = 0 := by omega
        rw [this]
    · obtain ⟨q, _⟩ := h.ord.pl j (by omega) hj
      rw [h.wyS (by omega) hj, List.mem_append, ih _ q (by omega), List.mem_singleton]
      constructor
      · rintro (⟨a, ha, hA, e⟩ | e)
        · exact ⟨a, ha, .up (by omega) hA, e⟩
        · exact ⟨j, hj, .self, e⟩
      · rintro ⟨a, ha, hA, e⟩
        cases hA with
        | self => exact .inr e
        | up h0 hA => exact .inl ⟨a, ha, hA, e⟩

/-- Depths along a way: the i-th node has depth i. -/
theorem Deep.nth (h : Deep fr dp rc par) : ∀ j, j < rc.length → ∀ i, i < (wy fr dp (rc.getD j 0)).length → dp ((wy fr dp (rc.getD j 0)).getD i 0) = i := by
  intro j
  induction j using Nat.strongRecOn with
  | _ j ih =>
    intro hj i hi
    by_cases h0 : j = 0
    · subst h0
      rw [h.wy0] at hi ⊢
      simp at hi
      subst hi
      exact h.d0
    · obtain ⟨q, _⟩ := h.ord.pl j (by omega) hj
      have hl := h.len (par j) (by omega)
      rw [h.wyS (by omega) hj] at hi ⊢
      simp only [List.length_append, List.length_singleton] at hi
      by_cases e : i < (wy fr dp (rc.getD (par j) 0)).length
      · rw [getD_app_left e]
        exact ih _ q (by omega) i e
      · have e2 : i = (wy fr dp (rc.getD (par j) 0)).length := by omega
        rw [getD_app_right (by omega), e2]
        simp only [Nat.sub_self, List.getD_cons_zero]
        have := h.dn j (by omega) hj
        have := h.nonneg (par j) (by omega)
        omega

theorem Deep.wnd (h : Deep fr dp rc par) {j : Nat} (hj : j < rc.length) : (wy fr dp (rc.getD j 0)).Nodup := by
  refine nodup_of fun a b hab hb q => ?_
  have h1 := h.nth j hj a (by omega)
  have h2 := h.nth j hj b hb
  rw [q] at h1
  omega

/-- What the preorder lays. -/
structure Laid (fr dp : Nat → Int) (rc : List Nat) (sz ps : Nat → Int) : Prop where
  bnd : ∀ v ∈ rc, 0 ≤ ps v ∧ 0 < sz v ∧ ps v + sz v ≤ rc.length
  inn : ∀ u ∈ rc, ∀ v ∈ rc, (ps u ≤ ps v ∧ ps v < ps u + sz u) ↔ u ∈ wy fr dp v

theorem mem_getD {l : List Nat} {v : Nat} (h : v ∈ l) : ∃ j, j < l.length ∧ l.getD j 0 = v := by
  obtain ⟨j, hj⟩ := List.mem_iff_getElem?.1 h
  exact ⟨j, getD_some hj⟩

theorem posF_pix (hnd : rc.Nodup) (sz ps : Nat → Int) {j : Nat} (hj : j < rc.length) : posF fr rc sz ps (rc.getD j 0) = pix fr rc sz ps j := by
  have := posAt_stable (fr := fr) hnd sz ps j (rc.length - 1 - j) (by omega)
  have e : j + (rc.length - 1 - j) = rc.length - 1 := by omega
  rw [e] at this
  exact this

theorem Deep.laid (h : Deep fr dp rc par) (size pos : Nat → Int) : Laid fr dp rc (sizeF fr rc size) (posF fr rc (sizeF fr rc size) pos) := by
  have hp := h.ord.places size pos
  refine ⟨fun v hv => ?_, fun u hu v hv => ?_⟩
  · obtain ⟨j, hj, rfl⟩ := mem_getD hv
    rw [posF_pix h.ord.nd _ _ hj, sizeF_fsz h.ord size hj]
    have := hp.bound j hj
    have := fsz_pos par rc.length j
    omega
  · obtain ⟨a, ha, rfl⟩ := mem_getD hu
    obtain ⟨j, hj, rfl⟩ := mem_getD hv
    rw [posF_pix h.ord.nd _ _ hj, posF_pix h.ord.nd _ _ ha, sizeF_fsz h.ord size ha, hp.iff ha hj, h.mem _ j hj]
    constructor
    · intro q; exact ⟨a, ha, q, rfl⟩
    · rintro ⟨a', ha', q, e⟩
      have := getD_inj h.ord.nd ha ha' e
      subst this
      exact q

theorem Deep.preOk (h : Deep fr dp rc par) (size pos : Nat → Int) (hl : rc.length ≤ 1024) : PreOk fr rc size pos := by
  have hp := h.ord.places size pos
  have hb := fun j hj => hp.bound j hj
  refine ⟨fun k h0 hk => ⟨par k, (h.ord.pl k h0 hk).1, (h.ord.pl k h0 hk).2⟩, fun m hm v hv => ?_, fun m hm j hj => ?_, fun v hv => ?_, h.ord.h0⟩
  · obtain ⟨j, hj, rfl⟩ := mem_getD hv
    rw [sizeAt_tsz h.ord size m hm j hj]
    have h1 := tsz_mono par rc.length j m (rc.length - 1 - m)
    have e : m + (rc.length - 1 - m) = rc.length - 1 := by omega
    rw [e] at h1
    have h2 := hb j hj
    unfold fsz at h2
    omega
  · have hjl : j < rc.length := by have := h.ord.h0; omega
    have := posAt_stable (fr := fr) h.ord.nd (sizeF fr rc size) pos j (m - j) (by have := h.ord.h0; omega)
    have e : j + (m - j) = m := by omega
    rw [e] at this
    rw [this]
    have h2 := hb j hjl
    omega
  · obtain ⟨j, hj, rfl⟩ := mem_getD hv
    rw [posF_pix h.ord.nd _ _ hj]
    have := hb j hj
    have := fsz_pos par rc.length j
    omega

/-! ### the order -/
theorem pigeon {N : Nat} {l : List Nat} (hd : l.Nodup) (hl : ∀ x ∈ l, x < N) (hlen : l.length = N) {k : Nat} (hk : k < N) : k ∈ l := by
  refine Classical.byContradiction fun q => ?_
  have := nodup_len N (k :: l) (List.nodup_cons.2 ⟨q, hd⟩) (fun x hx => by
    simp only [List.mem_cons] at hx
    rcases hx with r | r
    · omega
    · exact hl x r)
  simp at this
  omega

theorem orderF_mem (ps : Nat → Int) : ∀ (rc : List Nat) (o : Nat → Int) (v : Nat), (∀ u ∈ rc, ∀ x ∈ rc, (ps u).toNat = (ps x).toNat → u = x) → v ∈ rc ∨ ((∀ u ∈ rc, (ps u).toNat ≠ (ps v).toNat) ∧ o (ps v).toNat = v) →
    rc.foldl (fun o v => upd o (ps v).toNat (v : Int)) o (ps v).toNat = v
  | [], o, v, _, h => by simpa using h
  | u :: rc, o, v, hi, h => by
    rw [List.foldl_cons]
    apply orderF_mem ps rc _ v (fun a ha b hb => hi a (by simp [ha]) b (by simp [hb]))
    by_cases hv : v ∈ rc
    · exact .inl hv
    · right
      rcases h with h | ⟨h1, h2⟩
      · simp only [List.mem_cons] at h
        rcases h with rfl | h
        · refine ⟨fun x hx q => ?_, by simp⟩
          have := hi x (by simp [hx]) v (by simp) q
          exact hv (this ▸ hx)
        · exact absurd h hv
      · exact ⟨fun x hx => h1 x (by simp [hx]), by rw [upd_other _ _ (fun q => h1 u (by simp) q.symm)]; exact h2⟩

def odL (rc : List Nat) (ps : Nat → Int) : List Nat := (List.range rc.length).map fun k => (orderF rc ps k).toNat

theorem odL_len (rc : List Nat) (ps : Nat → Int) : (odL rc ps).length = rc.length := by simp [odL]

theorem Deep.od (h : Deep fr dp rc par) (size pos : Nat → Int) {k : Nat} (hk : k < rc.length) : ∃ j, j < rc.length ∧ pix fr rc (sizeF fr rc size) pos j = k ∧
    (odL rc (posF fr rc (sizeF fr rc size) pos)).getD k 0 = rc.getD j 0 ∧ orderF rc (posF fr rc (sizeF fr rc size) pos) k = (rc.getD j 0 : Int) := by
  have hp := h.ord.places size pos
  have hb := hp.bound
  have hps : ∀ j, j < rc.length → posF fr rc (sizeF fr rc size) pos (rc.getD j 0) = pix fr rc (sizeF fr rc size) pos j := fun j hj => posF_pix h.ord.nd _ _ hj
  have hinj : ∀ i j, i < rc.length → j < rc.length → (pix fr rc (sizeF fr rc size) pos i).toNat = (pix fr rc (sizeF fr rc size) pos j).toNat → i = j := fun i j hi hj e => by
    have := hb i hi
    have := hb j hj
    exact hp.inj hi hj (by omega)
  have hmem := pigeon (N := rc.length) (l := (List.range rc.length).map fun j => (pix fr rc (sizeF fr rc size) pos j).toNat)
    (by
      refine nodup_of fun a b hab hb2 q => ?_
      simp at hb2
      rw [List.getD_eq_getElem?_getD, List.getD_eq_getElem?_getD, List.getElem?_map, List.getElem?_map, List.getElem?_range (by omega), List.getElem?_range hb2] at q
      simp at q
      have := hinj a b (by omega) hb2 q
      omega)
    (fun x hx => by
      simp only [List.mem_map, List.mem_range] at hx
      obtain ⟨j, hj, rfl⟩ := hx
      have := hb j hj
      have := fsz_pos par rc.length j
      omega) (by simp) hk
  simp only [List.mem_map, List.mem_range] at hmem
  obtain ⟨j, hj, hjk⟩ := hmem
  have hord : orderF rc (posF fr rc (sizeF fr rc size) pos) k = (rc.getD j 0 : Int) := by
    have := orderF_mem (posF fr rc (sizeF fr rc size) pos) rc (fun _ => 0) (rc.getD j 0) (fun u hu x hx e => by
      obtain ⟨a, ha, rfl⟩ := mem_getD hu
      obtain ⟨b, hb, rfl⟩ := mem_getD hx
      rw [hps a ha, hps b hb] at e
      rw [hinj a b ha hb e]) (.inl (by simp [hj]))
    rw [hps j hj, hjk] at this
    exact this
  refine ⟨j, hj, ?_, ?_, hord⟩
  · have := hb j hj
    omega
  · unfold odL
    rw [List.getD_eq_getElem?_getD, List.getElem?_map, List.getElem?_range hk]
    simp [hord]

/-- The path: the way down to the node that was walked last. -/
theorem Deep.paths (h : Deep fr dp rc par) (size pos : Nat → Int) (p00 : List Nat) : ∀ k, k < rc.length →
    paths dp p00 (odL rc (posF fr rc (sizeF fr rc size) pos)) (k + 1) = wy fr dp ((odL rc (posF fr rc (sizeF fr rc size) pos)).getD k 0) := by
  have hp := h.ord.places size pos
  intro k
  induction k with
  | zero =>
    intro hk
    rw [paths_succ (by rw [odL_len]; exact hk)]
    obtain ⟨j, hj, hpj, ho, _⟩ := h.od size pos hk
    have hj0 : j = 0 := hp.inj hj h.ord.h0 (by rw [hpj, hp.p0]; rfl)
    subst hj0
    rw [ho, h.wy0, h.d0]
    rfl
  | succ k ih =>
    intro hk
    rw [paths_succ (by rw [odL_len]; exact hk), ih (by omega)]
    obtain ⟨j, hj, hpj, ho, _⟩ := h.od size pos hk
    obtain ⟨i, hi, hpi, hoi, _⟩ := h.od size pos (k := k) (by omega)
    have h0 : 0 < j := by
      rcases Nat.eq_zero_or_pos j with q | q
      · subst q; rw [hp.p0] at hpj; omega
      · exact q
    obtain ⟨q1, _⟩ := h.ord.pl j h0 hj
    obtain ⟨n1, n2⟩ := hp.nest h0 hj
    have := fsz_pos par rc.length j
    have hA : Anc par (par j) i := (hp.iff (by omega) hi).1 (by omega)
    rw [ho, hoi, h.wyS h0 hj, ← (h.take hA hi).1]
    have := h.dn j h0 hj
    have := h.nonneg (par j) (by omega)
    rw [show (dp (rc.getD j 0)).toNat = (dp (rc.getD (par j) 0)).toNat + 1 by omega]

/-- The path below a node's own depth: the way down to its parent. -/
theorem Deep.above (h : Deep fr dp rc par) (size pos : Nat → Int) (p00 : List Nat) {k : Nat} (hk : k < rc.length) :
    wy fr dp ((odL rc (posF fr rc (sizeF fr rc size) pos)).getD k 0) = (Qxb6615025a.paths dp p00 (odL rc (posF fr rc (sizeF fr rc size) pos)) k).take (dp ((odL rc (posF fr rc (sizeF fr rc size) pos)).getD k 0)).toNat ++ [(odL rc (posF fr rc (sizeF fr rc size) pos)).getD k 0] := by
  rw [← h.paths size pos p00 k hk, paths_succ (by rw [odL_len]; exact hk)]

theorem Deep.odmem (h : Deep fr dp rc par) (size pos : Nat → Int) (v : Nat) : v ∈ odL rc (posF fr rc (sizeF fr rc size) pos) ↔ v ∈ rc := by
  have hp := h.ord.places size pos
  constructor
  · intro q
    obtain ⟨k, hk, rfl⟩ := mem_getD q
    rw [odL_len] at hk
    obtain ⟨j, hj, _, ho, _⟩ := h.od size pos hk
    rw [ho]
    simp [hj]
  · intro q
    obtain ⟨j, hj, rfl⟩ := mem_getD q
    have hb := hp.bound j hj
    have := fsz_pos par rc.length j
    obtain ⟨i, hi, hpi, ho, _⟩ := h.od size pos (k := (pix fr rc (sizeF fr rc size) pos j).toNat) (by omega)
    have : i = j := hp.inj hi hj (by omega)
    subst this
    rw [← ho]
    have hl : (pix fr rc (sizeF fr rc size) pos i).toNat < (odL rc (posF fr rc (sizeF fr rc size) pos)).length := by rw [odL_len]; omega
    simp [List.getD_eq_getElem?_getD, List.getElem?_eq_getElem hl]

theorem Deep.odnd (h : Deep fr dp rc par) (size pos : Nat → Int) : (odL rc (posF fr rc (sizeF fr rc size) pos)).Nodup := by
  refine nodup_of fun a b hab hb q => ?_
  rw [odL_len] at hb
  obtain ⟨i, hi, hpi, ho, _⟩ := h.od size pos (k := a) (by omega)
  obtain ⟨j, hj, hpj, hoj, _⟩ := h.od size pos hb
  have e : rc.getD i 0 = rc.getD j 0 := by rw [← ho, ← hoj, q]
  have := getD_inj h.ord.nd hi hj e
  subst this
  omega
end deep
end Go.Proofs.Qxb6615025a
