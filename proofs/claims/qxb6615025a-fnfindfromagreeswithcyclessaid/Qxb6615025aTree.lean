/- The walk breadth first: what it reaches, and how far. -/
import Derived.Test.Qxb6615025aBfs
namespace Go.Proofs.Qxb6615025a

/-- What holds of a walk breadth first whose first k nodes have been taken, the next up to p. -/
structure BI (n start : Nat) (within : Nat → Bool) (next : Nat → List Nat) (fr0 dp0 : Nat → Int) (P : Nat → Nat → Prop) (m : Nat) (s : GS) : Prop where
  nd : s.rc.Nodup
  lt : ∀ v ∈ s.rc, v < n
  hd : s.rc[0]? = some start
  wi : ∀ (j v : Nat), s.rc[j]? = some v → 0 < j → within v = true ∧ v ≠ start
  fs : s.fr start = -1
  ds : s.dp start = 0
  fr : ∀ v, v < n → within v = true → (s.fr v ≠ -2 ↔ v ∈ s.rc)
  par : ∀ (j v : Nat), s.rc[j]? = some v → 0 < j → ∃ (i u : Nat), i < j ∧ i < m ∧ s.rc[i]? = some u ∧ s.fr v = u ∧ v ∈ next u ∧ s.dp v = s.dp u + 1
  mono : ∀ (j j' v v' i i' u u' : Nat), s.rc[j]? = some v → s.rc[j']? = some v' → 0 < j → j ≤ j' → s.rc[i]? = some u → s.rc[i']? = some u' → s.fr v = u → s.fr v' = u' → i ≤ i'
  cl : ∀ (i u v : Nat), s.rc[i]? = some u → v ∈ next u → P i v → within v = true → v ∈ s.rc ∧ s.dp v ≤ s.dp u + 1
  out : ∀ v, v ∉ s.rc → s.fr v = fr0 v ∧ s.dp v = dp0 v

theorem getElem?_inj' {l : List Nat} (h : l.Nodup) {i j v : Nat} (hi : l[i]? = some v) (hj : l[j]? = some v) : i = j := by
  have : i < l.length := (List.getElem?_eq_some_iff.1 hi).1
  exact (List.getElem?_inj this h).1 (hi.trans hj.symm)

/-- Depths do not fall along the queue. -/
theorem BI.dmono {n start : Nat} {within : Nat → Bool} {next : Nat → List Nat} {fr0 dp0 : Nat → Int} {P : Nat → Nat → Prop} {m : Nat} {s : GS} (h : BI n start within next fr0 dp0 P m s) :
    ∀ (j' j v v' : Nat), s.rc[j]? = some v → s.rc[j']? = some v' → j ≤ j' → 0 ≤ s.dp v ∧ s.dp v ≤ s.dp v' := by
  intro j'
  induction j' using Nat.strongRecOn with
  | _ j' ih =>
    intro j v v' hv hv' hj
    by_cases h0 : j' = 0
    · subst h0
      have : j = 0 := by omega
      subst this
      rw [h.hd] at hv hv'
      cases hv
      cases hv'
      have := h.ds
      omega
    · obtain ⟨i', u', hi', _, hu', hf', _, hd'⟩ := h.par j' v' hv' (by omega)
      by_cases h1 : j = 0
      · subst h1
        rw [h.hd] at hv
        cases hv
        have := ih i' hi' 0 start u' h.hd hu' (by omega)
        have := h.ds
        omega
      · obtain ⟨i, u, hi, _, hu, hf, _, hd⟩ := h.par j v hv (by omega)
        have hii := h.mono j j' v v' i i' u u' hv hv' (by omega) hj hu hu' hf hf'
        have := ih i' hi' i u u' hu hu' hii
        omega

theorem BI.start {n start : Nat} {within : Nat → Bool} {next : Nat → List Nat} {fr0 dp0 : Nat → Int} (hs : start < n) (h2 : ∀ v, v < n → within v = true → fr0 v = -2) :
    BI n start within next fr0 dp0 (fun i _ => i < 0) 0 (grow0 fr0 dp0 start) where
  nd := by simp [grow0]
  lt := by simp [grow0, hs]
  hd := by simp [grow0]
  wi := fun j v hv h0 => by
    have := (List.getElem?_eq_some_iff.1 hv).1
    simp [grow0] at this
    omega
  fs := by simp [grow0]
  ds := by simp [grow0]
  fr := fun v hv hw => by
    simp only [grow0, List.mem_singleton]
    by_cases e : v = start
    · subst e
      simp
    · rw [upd_other _ _ e, h2 v hv hw]
      simp [e]
  par := fun j v hv h0 => by
    have := (List.getElem?_eq_some_iff.1 hv).1
    simp [grow0] at this
    omega
  mono := fun j j' v v' i i' u u' hv hv' h0 hj => by
    have := (List.getElem?_eq_some_iff.1 hv).1
    simp [grow0] at this
    omega
  cl := fun i u v _ _ hp => absurd hp (by omega)
  out := fun v hv => by
    simp [grow0] at hv
    simp [grow0, upd_other _ _ hv]

theorem BI.visit {n start : Nat} {within : Nat → Bool} {next : Nat → List Nat} {fr0 dp0 : Nat → Int} {P : Nat → Nat → Prop} {s : GS} {k u v : Nat} (h : BI n start within next fr0 dp0 P (k + 1) s)
    (hu : s.rc[k]? = some u) (hv : v < n) (hm : v ∈ next u) (hP : ∀ i x, P i x → i ≤ k) : BI n start within next fr0 dp0 (fun i x => P i x ∨ (i = k ∧ x = v)) (k + 1) (visit within u s v) := by
  have hkl : k < s.rc.length := (List.getElem?_eq_some_iff.1 hu).1
  have hum : u ∈ s.rc := List.mem_of_getElem? hu
  unfold Qxb6615025a.visit
  split
  · rename_i hc
    obtain ⟨hc1, hc2⟩ := hc
    have hnot : v ∉ s.rc := fun q => (h.fr v hv hc2).2 q hc1
    have hne : ∀ x ∈ s.rc, x ≠ v := fun x hx e => hnot (e ▸ hx)
    have hold : ∀ j x, j < s.rc.length → (s.rc ++ [v])[j]? = some x → s.rc[j]? = some x := fun j x hj hx => by rwa [List.getElem?_append_left hj] at hx
    have hnew : ∀ j x, (s.rc ++ [v])[j]? = some x → s.rc[j]? = some x ∨ (j = s.rc.length ∧ x = v) := fun j x hx => by
      by_cases hj : j < s.rc.length
      · exact .inl (hold j x hj hx)
      · have hl := (List.getElem?_eq_some_iff.1 hx).1
        simp at hl
        have : j = s.rc.length := by omega
        subst this
        simp at hx
        exact .inr ⟨rfl, hx.symm⟩
    have hup : ∀ j x, s.rc[j]? = some x → (s.rc ++ [v])[j]? = some x := fun j x hx => by
      rw [List.getElem?_append_left (List.getElem?_eq_some_iff.1 hx).1]; exact hx
    have fo : ∀ x ∈ s.rc, upd s.fr v u x = s.fr x := fun x hx => upd_other _ _ (hne x hx)
    have dpo : ∀ x ∈ s.rc, upd s.dp v (s.dp u + 1) x = s.dp x := fun x hx => upd_other _ _ (hne x hx)
    have hsm : start ∈ s.rc := List.mem_of_getElem? h.hd
    exact {
      nd := by
        rw [List.nodup_append]
        exact ⟨h.nd, by simp, fun a ha b hb e => by simp at hb; exact hne a ha (e.trans hb)⟩
      lt := fun x hx => by
        simp only [List.mem_append, List.mem_singleton] at hx
        rcases hx with q | q
        · exact h.lt x q
        · omega
      hd := hup 0 start h.hd
      wi := fun j x hx h0 => by
        rcases hnew j x hx with q | ⟨_, q⟩
        · exact h.wi j x q h0
        · subst q
          exact ⟨hc2, fun e => hnot (e ▸ hsm)⟩
      fs := (fo start hsm).trans h.fs
      ds := (dpo start hsm).trans h.ds
      fr := fun x hx hw => by
        simp only [List.mem_append, List.mem_singleton]
        by_cases e : x = v
        · subst e
          simp
        · rw [upd_other _ _ e, h.fr x hx hw]
          simp [e]
      par := fun j x hx h0 => by
        rcases hnew j x hx with q | ⟨e, q⟩
        · obtain ⟨i, y, hi, hik, hy, hf, hn, hd⟩ := h.par j x q h0
          exact ⟨i, y, hi, hik, hup i y hy, (fo x (List.mem_of_getElem? q)).trans hf, hn, by
            show upd s.dp v (s.dp u + 1) x = upd s.dp v (s.dp u + 1) y + 1
            rw [dpo x (List.mem_of_getElem? q), dpo y (List.mem_of_getElem? hy)]; exact hd⟩
        · subst q
          refine ⟨k, u, by omega, by omega, hup k u hu, by simp, hm, ?_⟩
          show upd s.dp x (s.dp u + 1) x = upd s.dp x (s.dp u + 1) u + 1
          rw [dpo u hum]
          simp
      mono := fun j j' x x' i i' y y' hx hx' h0 hj hy hy' hf hf' => by
        simp only at hx hx' hy hy' hf hf'
        rcases hnew j' x' hx' with q' | ⟨e', q'⟩
        · have hj'l := (List.getElem?_eq_some_iff.1 q').1
          have q := hold j x (by omega) hx
          rw [fo x (List.mem_of_getElem? q)] at hf
          rw [fo x' (List.mem_of_getElem? q')] at hf'
          have w : ∀ (i y x j : Nat), 0 < j → s.rc[j]? = some x → (s.rc ++ [v])[i]? = some y → s.fr x = (y : Int) → s.rc[i]? = some y := fun i y x j h0 hx hy hf => by
            rcases hnew i y hy with r | ⟨_, r⟩
            · exact r
            · exfalso
              obtain ⟨i0, y0, _, _, hy0, hf0, _⟩ := h.par j x hx h0
              have : y0 = y := by omega
              subst this
              subst r
              exact hnot (List.mem_of_getElem? hy0)
          exact h.mono j j' x x' i i' y y' q q' h0 hj (w i y x j h0 q hy hf) (w i' y' x' j' (by omega) q' hy' hf') hf hf'
        · subst q'
          have : y' = u := by
            have : upd s.fr x' u x' = (y' : Int) := hf'
            simp at this
            omega
          subst this
          have : i' = k := by
            rcases hnew i' y' hy' with r | ⟨_, r⟩
            · exact getElem?_inj' h.nd r hu
            · exact absurd hum (r ▸ hnot)
          subst this
          rcases hnew j x hx with q | ⟨e, q⟩
          · rw [fo x (List.mem_of_getElem? q)] at hf
            obtain ⟨i0, y0, _, hi0, hy0, hf0, _⟩ := h.par j x q h0
            have : y0 = y := by omega
            subst this
            rcases hnew i y0 hy with r | ⟨_, r⟩
            · have := getElem?_inj' h.nd r hy0
              omega
            · exact absurd (List.mem_of_getElem? hy0) (r ▸ hnot)
          · subst q
            have : y = y' := by
              have : upd s.fr x y' x = (y : Int) := hf
              simp at this
              omega
            subst this
            rcases hnew i y hy with r | ⟨_, r⟩
            · exact Nat.le_of_eq (getElem?_inj' h.nd r hu)
            · exact absurd hum (r ▸ hnot)
      cl := fun i y x hy hx hp hw => by
        simp only at hy ⊢
        have hy2 : s.rc[i]? = some y := by
          apply hold i y _ hy
          rcases hp with hp | ⟨hp, _⟩
          · have := hP i x hp
            omega
          · omega
        rw [dpo y (List.mem_of_getElem? hy2)]
        rcases hp with hp | ⟨hp, rfl⟩
        · obtain ⟨r1, r2⟩ := h.cl i y x hy2 hx hp hw
          exact ⟨by simp [r1], by rw [dpo x r1]; exact r2⟩
        · subst hp
          rw [hu] at hy2
          cases hy2
          exact ⟨by simp, by simp⟩
      out := fun x hx => by
        simp only [List.mem_append, List.mem_singleton, not_or] at hx
        show upd s.fr v u x = _ ∧ upd s.dp v _ x = _
        rw [upd_other _ _ hx.2, upd_other _ _ hx.2]
        exact h.out x hx.1 }
  · rename_i hc
    exact {
      nd := h.nd, lt := h.lt, hd := h.hd, wi := h.wi, fs := h.fs, ds := h.ds, fr := h.fr, par := h.par, mono := h.mono, out := h.out
      cl := fun i y x hy hx hp hw => by
        rcases hp with hp | ⟨hp, rfl⟩
        · exact h.cl i y x hy hx hp hw
        · subst hp
          rw [hu] at hy
          cases hy
          have hin : x ∈ s.rc := (h.fr x hv hw).1 (fun q => hc ⟨q, hw⟩)
          refine ⟨hin, ?_⟩
          obtain ⟨j, hj⟩ := List.mem_iff_getElem?.1 hin
          by_cases h0 : j = 0
          · subst h0
            rw [h.hd] at hj
            cases hj
            have := h.dmono i 0 start u h.hd hu (by omega)
            have := h.ds
            omega
          · obtain ⟨i0, y0, _, hi0, hy0, hf0, _, hd0⟩ := h.par j x hj (by omega)
            have := h.dmono i i0 y0 u hy0 hu (by omega)
            omega }


theorem BI.weak {n start : Nat} {within : Nat → Bool} {next : Nat → List Nat} {fr0 dp0 : Nat → Int} {P P' : Nat → Nat → Prop} {m m' : Nat} {s : GS} (h : BI n start within next fr0 dp0 P m s) (hm : m ≤ m')
    (hP : ∀ (i u v : Nat), s.rc[i]? = some u → v ∈ next u → P' i v → P i v) : BI n start within next fr0 dp0 P' m' s :=
  { nd := h.nd, lt := h.lt, hd := h.hd, wi := h.wi, fs := h.fs, ds := h.ds, fr := h.fr, mono := h.mono, out := h.out
    par := fun j v hv h0 => by
      obtain ⟨i, u, h1, h2, h3⟩ := h.par j v hv h0
      exact ⟨i, u, h1, by omega, h3⟩
    cl := fun i u v hu hv hp hw => h.cl i u v hu hv (hP i u v hu hv hp) hw }

theorem visit_get {within : Nat → Bool} {u v k x : Nat} {s : GS} (h : s.rc[k]? = some x) : (visit within u s v).rc[k]? = some x := by
  obtain ⟨t, ht⟩ := visit_rc (within := within) (u := u) (v := v) (s := s)
  rw [ht, List.getElem?_append_left (List.getElem?_eq_some_iff.1 h).1]
  exact h

theorem BI.fold {n start : Nat} {within : Nat → Bool} {next : Nat → List Nat} {fr0 dp0 : Nat → Int} {k u : Nat} (hn : ∀ v ∈ next u, v < n) :
    ∀ (l : List Nat) (P : Nat → Nat → Prop) (s : GS), BI n start within next fr0 dp0 P (k + 1) s → s.rc[k]? = some u → (∀ v ∈ l, v ∈ next u) → (∀ i x, P i x → i ≤ k) →
      BI n start within next fr0 dp0 (fun i x => P i x ∨ (i = k ∧ x ∈ l)) (k + 1) (l.foldl (Qxb6615025a.visit within u) s) ∧ (l.foldl (Qxb6615025a.visit within u) s).rc[k]? = some u
  | [], P, s, h, hu, _, _ => ⟨h.weak (Nat.le_refl _) (fun i a b _ _ q => by simpa using q), hu⟩
  | v :: l, P, s, h, hu, hl, hP => by
    have h1 := h.visit hu (hn v (hl v (by simp))) (hl v (by simp)) hP
    obtain ⟨h2, h3⟩ := BI.fold hn l _ _ h1 (visit_get hu) (fun x hx => hl x (by simp [hx])) (fun i x q => by rcases q with q | q; exact hP i x q; omega)
    refine ⟨h2.weak (Nat.le_refl _) (fun i a b _ _ q => ?_), h3⟩
    rcases q with q | ⟨q1, q2⟩
    · exact .inl (.inl q)
    · simp only [List.mem_cons] at q2
      rcases q2 with q2 | q2
      · exact .inl (.inr ⟨q1, q2⟩)
      · exact .inr ⟨q1, q2⟩

theorem BI.loop {n start : Nat} {within : Nat → Bool} {next : Nat → List Nat} {fr0 dp0 : Nat → Int} (hn : ∀ u, u < n → ∀ v ∈ next u, v < n) :
    ∀ (f k : Nat) (s : GS), BI n start within next fr0 dp0 (fun i _ => i < k) k s → n < f + k → BI n start within next fr0 dp0 (fun _ _ => True) n (growL within next f k s)
  | 0, k, s, h, hf => by
    have hl := nodup_len n _ h.nd h.lt
    refine { h.weak (P' := fun _ _ => True) (m' := n + k) (by omega) (fun i u v hu _ _ => ?_) with par := fun j v hv h0 => ?_ }
    · have := (List.getElem?_eq_some_iff.1 hu).1
      omega
    · obtain ⟨i, u, h1, h2, h3⟩ := h.par j v hv h0
      have := (List.getElem?_eq_some_iff.1 (show s.rc[j]? = some v from hv)).1
      exact ⟨i, u, h1, by omega, h3⟩
  | f + 1, k, s, h, hf => by
    by_cases hk : k < s.rc.length
    · rw [growL_step hk]
      have hu : s.rc[k]? = some s.rc[k] := List.getElem?_eq_getElem hk
      have hlt : s.rc[k] < n := h.lt _ (List.getElem_mem hk)
      obtain ⟨h2, _⟩ := BI.fold (k := k) (hn s.rc[k] hlt) (next s.rc[k]) _ s (h.weak (m' := k + 1) (by omega) (fun _ _ _ _ _ q => q)) hu (fun _ q => q) (fun i x q => by omega)
      have hk2 := BI.fold (k := k) (hn s.rc[k] hlt) (next s.rc[k]) _ s (h.weak (m' := k + 1) (by omega) (fun _ _ _ _ _ q => q)) hu (fun _ q => q) (fun i x q => by omega)
      refine BI.loop hn f (k + 1) _ (h2.weak (Nat.le_refl _) (fun i a b ha hb q => ?_)) (by omega)
      by_cases e : i = k
      · subst e
        rw [hk2.2] at ha
        cases ha
        exact .inr ⟨rfl, hb⟩
      · exact .inl (by omega)
    · rw [growL_stop (by omega)]
      have hl := nodup_len n _ h.nd h.lt
      refine { h.weak (P' := fun _ _ => True) (m' := n + k) (by omega) (fun i u v hu _ _ => ?_) with par := fun j v hv h0 => ?_ }
      · have := (List.getElem?_eq_some_iff.1 hu).1
        omega
      · obtain ⟨i, u, h1, h2, h3⟩ := h.par j v hv h0
        have := (List.getElem?_eq_some_iff.1 hv).1
        exact ⟨i, u, h1, by omega, h3⟩

/-- What a walk breadth first has found. -/
def Tree (n start : Nat) (within : Nat → Bool) (next : Nat → List Nat) (fr0 dp0 : Nat → Int) (s : GS) : Prop := BI n start within next fr0 dp0 (fun _ _ => True) n s

theorem grow_tree {n start : Nat} {within : Nat → Bool} {next : Nat → List Nat} {fr0 dp0 : Nat → Int} (hn : ∀ u, u < n → ∀ v ∈ next u, v < n) (hs : start < n) (h2 : ∀ v, v < n → within v = true → fr0 v = -2) :
    Tree n start within next fr0 dp0 (growL within next (n + 1) 0 (grow0 fr0 dp0 start)) :=
  BI.loop hn (n + 1) 0 _ (BI.start hs h2) (by omega)

/-- A way of k steps. -/
inductive Wk (R : Nat → Nat → Prop) (a : Nat) : Nat → Nat → Prop
  | zero : Wk R a 0 a
  | snoc {k b c : Nat} : Wk R a k b → R b c → Wk R a (k + 1) c

theorem Wk.trans {R : Nat → Nat → Prop} {a b c i j : Nat} (h : Wk R a i b) (h2 : Wk R b j c) : Wk R a (i + j) c := by
  induction h2 with
  | zero => exact h
  | snoc _ hr ih => exact .snoc ih hr

theorem Wk.one {R : Nat → Nat → Prop} {a b : Nat} (h : R a b) : Wk R a 1 b := .snoc .zero h

theorem Wk.cons {R : Nat → Nat → Prop} {a b c k : Nat} (h : R a b) (h2 : Wk R b k c) : Wk R a (k + 1) c := by
  have := (Wk.one h).trans h2
  rwa [Nat.add_comm] at this

theorem Wk.mono {R R' : Nat → Nat → Prop} {a b k : Nat} (h : Wk R a k b) (hr : ∀ x y, R x y → R' x y) : Wk R' a k b := by
  induction h with
  | zero => exact .zero
  | snoc _ q ih => exact .snoc ih (hr _ _ q)

theorem Wk.rev {R R' : Nat → Nat → Prop} {a b k : Nat} (h : Wk R a k b) (hr : ∀ x y, R x y → R' y x) : Wk R' b k a := by
  induction h with
  | zero => exact .zero
  | snoc _ q ih => exact .cons (hr _ _ q) ih

theorem Wk.uncons {R : Nat → Nat → Prop} {a b k : Nat} (h : Wk R a (k + 1) b) : ∃ c, R a c ∧ Wk R c k b := by
  generalize hm : k + 1 = m at h
  induction h generalizing k with
  | zero => omega
  | @snoc j x y h1 hr ih =>
    have : k = j := by omega
    subst this
    cases k with
    | zero =>
      cases h1
      exact ⟨y, hr, .zero⟩
    | succ i =>
      obtain ⟨c, hc, hw⟩ := ih rfl
      exact ⟨c, hc, .snoc hw hr⟩

theorem Tree.reach {n start : Nat} {within : Nat → Bool} {next : Nat → List Nat} {fr0 dp0 : Nat → Int} {s : GS} (h : Tree n start within next fr0 dp0 s) {k b : Nat} (hw : Wk (fun x y => y ∈ next x ∧ within y = true) start k b) :
    b ∈ s.rc ∧ s.dp b ≤ k := by
  induction hw with
  | zero => exact ⟨List.mem_of_getElem? h.hd, by rw [h.ds]; simp⟩
  | @snoc k x y _ hr ih =>
    obtain ⟨i, hi⟩ := List.mem_iff_getElem?.1 ih.1
    obtain ⟨r1, r2⟩ := h.cl i x y hi hr.1 True.intro hr.2
    exact ⟨r1, by omega⟩

theorem Tree.walk {n start : Nat} {within : Nat → Bool} {next : Nat → List Nat} {fr0 dp0 : Nat → Int} {s : GS} (h : Tree n start within next fr0 dp0 s) :
    ∀ (j v : Nat), s.rc[j]? = some v → ∃ d : Nat, s.dp v = d ∧ Wk (fun x y => y ∈ next x ∧ within y = true) start d v := by
  intro j
  induction j using Nat.strongRecOn with
  | _ j ih =>
    intro v hv
    by_cases h0 : j = 0
    · subst h0
      rw [h.hd] at hv
      cases hv
      exact ⟨0, by rw [h.ds]; rfl, .zero⟩
    · obtain ⟨i, u, hi, _, hu, _, hn, hd⟩ := h.par j v hv (by omega)
      obtain ⟨d, hd2, hw⟩ := ih i hi u hu
      exact ⟨d + 1, by omega, .snoc hw ⟨hn, (h.wi j v hv (by omega)).1⟩⟩

end Go.Proofs.Qxb6615025a
