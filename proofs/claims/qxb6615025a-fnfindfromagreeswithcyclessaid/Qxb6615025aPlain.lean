/- Distances, components and shortest cycles of the model; the edges turned round. -/
import Derived.Test.Qxb6615025aBld1
import Derived.Test.Qxb6615025aZff
namespace Go.Proofs.Qxb6615025a
open Go.RowKit Go.MapKept

abbrev Ed (g : Nat → List Nat) (a b : Nat) : Prop := b ∈ g a

/-- The distances are what a walk breadth first finds. -/
structure Dst (g : Nat → List Nat) (n : Nat) (D : Nat → Int) : Prop where
  gl : ∀ u, u < n → ∀ v ∈ g u, v < n
  nn : n ≤ 1024
  eq : ∀ p q, p < n → q < n → D (p * n + q) = (bfs g n p).dp q

section dst
variable {g : Nat → List Nat} {n : Nat} {D : Nat → Int}

theorem Dst.tree (h : Dst g n D) {p : Nat} (hp : p < n) : Tree n p (fun _ => true) g (fun _ => -2) (fun _ => -1) (bfs g n p) := grow_tree h.gl hp (fun _ _ _ => rfl)

theorem Dst.le (h : Dst g n D) {p q k : Nat} (hp : p < n) (hq : q < n) (hw : Wk (Ed g) p k q) : 0 ≤ D (p * n + q) ∧ D (p * n + q) ≤ k := by
  rw [h.eq p q hp hq]
  have hT := h.tree hp
  obtain ⟨r1, r2⟩ := hT.reach (hw.mono (R' := fun x y => y ∈ g x ∧ (fun _ => true) y = true) (fun x y q => ⟨q, rfl⟩))
  obtain ⟨j, hj⟩ := List.mem_iff_getElem?.1 r1
  exact ⟨(hT.dmono j j q q hj hj (Nat.le_refl _)).1, r2⟩

theorem Dst.walk (h : Dst g n D) {p q : Nat} (hp : p < n) (hq : q < n) (hd : 0 ≤ D (p * n + q)) : Wk (Ed g) p (D (p * n + q)).toNat q := by
  rw [h.eq p q hp hq] at hd ⊢
  have hT := h.tree hp
  by_cases hm : q ∈ (bfs g n p).rc
  · obtain ⟨j, hj⟩ := List.mem_iff_getElem?.1 hm
    obtain ⟨d, hd2, hw⟩ := hT.walk j q hj
    rw [hd2]
    exact hw.mono (fun x y q => q.1)
  · have := (hT.out q hm).2
    omega

theorem Dst.one (h : Dst g n D) {p q : Nat} (hp : p < n) (hq : q < n) (he : q ∈ g p) (hne : p ≠ q) : D (p * n + q) = 1 := by
  obtain ⟨h1, h2⟩ := h.le hp hq (.one he)
  rcases (show D (p * n + q) = 0 ∨ D (p * n + q) = 1 by omega) with e | e
  · have := h.walk hp hq h1
    rw [e] at this
    cases this
    exact absurd rfl hne
  · exact e

theorem same_iff (h : Dst g n D) {p q : Nat} (hp : p < n) (hq : q < n) : sameB D n p q = true ↔ (∃ k, Wk (Ed g) p k q) ∧ (∃ k, Wk (Ed g) q k p) := by
  unfold sameB
  simp only [Bool.and_eq_true, decide_eq_true_eq]
  constructor
  · rintro ⟨h1, h2⟩
    exact ⟨⟨_, h.walk hp hq h1⟩, ⟨_, h.walk hq hp h2⟩⟩
  · rintro ⟨⟨k, h1⟩, ⟨j, h2⟩⟩
    exact ⟨(h.le hp hq h1).1, (h.le hq hp h2).1⟩

theorem same_trans (h : Dst g n D) {a b c : Nat} (ha : a < n) (hb : b < n) (hc : c < n) (h1 : sameB D n a b = true) (h2 : sameB D n a c = true) : sameB D n b c = true := by
  obtain ⟨⟨_, p1⟩, ⟨_, p2⟩⟩ := (same_iff h ha hb).1 h1
  obtain ⟨⟨_, p3⟩, ⟨_, p4⟩⟩ := (same_iff h ha hc).1 h2
  exact (same_iff h hb hc).2 ⟨⟨_, p2.trans p3⟩, ⟨_, p4.trans p1⟩⟩

/-! ### edges turned round -/
theorem revFold_mem (k : Nat) : ∀ (l : List Nat) (f : Nat → List Nat) (v u : Nat), u ∈ l.foldl (fun f v => upd f v (f v ++ [k])) f v ↔ u ∈ f v ∨ (u = k ∧ v ∈ l)
  | [], f, v, u => by simp
  | a :: l, f, v, u => by
    rw [List.foldl_cons, revFold_mem k l]
    by_cases e : v = a
    · subst e
      simp
      intro q _
      exact .inr q
    · rw [upd_other _ _ e]
      simp [e]

theorem revAt_mem (g : Nat → List Nat) : ∀ (k v u : Nat), u ∈ revAt g k v ↔ u < k ∧ v ∈ g u
  | 0, v, u => by simp [revAt]
  | k + 1, v, u => by
    show u ∈ (g k).foldl (fun f v => upd f v (f v ++ [k])) (revAt g k) v ↔ _
    rw [revFold_mem, revAt_mem g k]
    constructor
    · rintro (⟨q1, q2⟩ | ⟨rfl, q2⟩)
      · exact ⟨by omega, q2⟩
      · exact ⟨by omega, q2⟩
    · rintro ⟨q1, q2⟩
      by_cases e : u = k
      · subst e; exact .inr ⟨rfl, q2⟩
      · exact .inl ⟨by omega, q2⟩

theorem revFold_len (k : Nat) : ∀ (l : List Nat) (f : Nat → List Nat) (v : Nat), (l.foldl (fun f v => upd f v (f v ++ [k])) f v).length ≤ (f v).length + l.length
  | [], f, v => by simp
  | a :: l, f, v => by
    rw [List.foldl_cons]
    have := revFold_len k l (upd f a (f a ++ [k])) v
    by_cases e : v = a
    · subst e
      simp at this ⊢
      omega
    · rw [upd_other _ _ e] at this
      simp
      omega

theorem revAt_len (g : Nat → List Nat) : ∀ (k v : Nat), (revAt g k v).length ≤ sm (fun u => (g u).length) k
  | 0, v => by simp [revAt, sm]
  | k + 1, v => by
    have h1 := revFold_len k (g k) (revAt g k) v
    have h2 := revAt_len g k v
    show ((g k).foldl (fun f v => upd f v (f v ++ [k])) (revAt g k) v).length ≤ sm _ k + (g k).length
    omega

/-! ### the component of the hub -/
theorem Dst.scene (h : Dst g n D) {hub : Nat} (hh : hub < n) : Scene n g (revAt g n) (fun v => sameB D n hub v) hub (fun _ => -2) (fun _ => 0) (fun _ => -2) (fun _ => 0)
    (growL (fun v => sameB D n hub v) (revAt g n) (n + 1) 0 (grow0 (fun _ => -2) (fun _ => 0) hub)) (growL (fun v => sameB D n hub v) g (n + 1) 0 (grow0 (fun _ => -2) (fun _ => 0) hub)) where
  hn := h.nn
  gl := h.gl
  rv := fun u v hv hu => by
    obtain ⟨q1, q2⟩ := (revAt_mem g n v u).1 hu
    exact ⟨q1, q2⟩
  vr := fun u v hu hv => (revAt_mem g n v u).2 ⟨hu, hv⟩
  wh := (same_iff h hh hh).2 ⟨⟨0, .zero⟩, ⟨0, .zero⟩⟩
  hb := hh
  T := grow_tree (fun u hu v hv => ((revAt_mem g n u v).1 hv).1) hh (fun _ _ _ => rfl)
  T' := grow_tree h.gl hh (fun _ _ _ => rfl)
  c1 := fun v hv hi => ((same_iff h hh hv).1 hi).1
  c2 := fun v hv hi => ((same_iff h hh hv).1 hi).2
  c3 := fun v hv h1 h2 => (same_iff h hh hv).2 ⟨h1, h2⟩

/-! ### shortest cycles -/
structure ScI (g : Nat → List Nat) (n : Nat) (D : Nat → Int) (P : Nat → Nat → Prop) (f : Nat → Int) : Prop where
  z : ∀ y, f y = 0 ∨ ∃ u, u < n ∧ y ∈ g u ∧ 0 ≤ D (y * n + u) ∧ f y = D (y * n + u) + 1
  le : ∀ u y, P u y → y ∈ g u → 0 ≤ D (y * n + u) → f y ≠ 0 ∧ f y ≤ D (y * n + u) + 1

theorem ScI.step {P : Nat → Nat → Prop} {f : Nat → Int} {u y : Nat} (h : ScI g n D P f) (hu : u < n) (hy : y ∈ g u) : ScI g n D (fun a b => P a b ∨ (a = u ∧ b = y)) (scStep D n u f y) := by
  unfold scStep
  split
  · rename_i hc
    refine ⟨fun x => ?_, fun a x hp hx hd => ?_⟩
    · by_cases e : x = y
      · subst e
        exact .inr ⟨u, hu, hy, hc.1, by simp⟩
      · rw [upd_other _ _ e]
        exact h.z x
    · by_cases e : x = y
      · subst e
        rw [upd_same]
        refine ⟨by omega, ?_⟩
        rcases hp with hp | ⟨rfl, _⟩
        · have := h.le a x hp hx hd
          omega
        · omega
      · rw [upd_other _ _ e]
        rcases hp with hp | ⟨_, hp⟩
        · exact h.le a x hp hx hd
        · exact absurd hp e
  · rename_i hc
    refine ⟨h.z, fun a x hp hx hd => ?_⟩
    rcases hp with hp | ⟨rfl, rfl⟩
    · exact h.le a x hp hx hd
    · refine ⟨fun q => hc ⟨hd, .inl q⟩, ?_⟩
      have : ¬ (D (x * n + a) + 1 < f x) := fun q => hc ⟨hd, .inr q⟩
      omega

theorem ScI.fold {u : Nat} (hu : u < n) : ∀ (l : List Nat) (P : Nat → Nat → Prop) (f : Nat → Int), ScI g n D P f → (∀ y ∈ l, y ∈ g u) → ScI g n D (fun a b => P a b ∨ (a = u ∧ b ∈ l)) (l.foldl (scStep D n u) f)
  | [], P, f, h, _ => ⟨h.z, fun a x hp hx hd => h.le a x (by simpa using hp) hx hd⟩
  | y :: l, P, f, h, hl => by
    have h1 := ScI.fold hu l _ _ (h.step hu (hl y (by simp))) (fun x hx => hl x (by simp [hx]))
    refine ⟨h1.z, fun a x hp hx hd => h1.le a x ?_ hx hd⟩
    rcases hp with q | ⟨q1, q2⟩
    · exact .inl (.inl q)
    · simp only [List.mem_cons] at q2
      rcases q2 with q2 | q2
      · exact .inl (.inr ⟨q1, q2⟩)
      · exact .inr ⟨q1, q2⟩

theorem scAt_I (g : Nat → List Nat) (D : Nat → Int) : ∀ k, k ≤ n → ScI g n D (fun u _ => u < k) (scAt g D n k)
  | 0, _ => ⟨fun _ => .inl rfl, fun u y hp => by omega⟩
  | k + 1, hk => by
    have h1 := ScI.fold (g := g) (n := n) (D := D) (u := k) (by omega) (g k) _ _ (scAt_I g D k (by omega)) (fun _ q => q)
    refine ⟨h1.z, fun a x hp hx hd => h1.le a x ?_ hx hd⟩
    by_cases e : a = k
    · subst e; exact .inr ⟨rfl, hx⟩
    · exact .inl (by omega)

/-- A cycle through y: what sc says. -/
theorem Dst.sc_le (h : Dst g n D) {y k : Nat} (hy : y < n) (hw : Wk (Ed g) y (k + 1) y) : 0 < scAt g D n n y ∧ scAt g D n n y ≤ k + 1 := by
  cases hw with
  | @snoc _ u _ h1 he =>
    have hu : u < n := h1.inside h.gl hy
    obtain ⟨d1, d2⟩ := h.le hy hu h1
    have hI := scAt_I (n := n) g D n (Nat.le_refl _)
    obtain ⟨e1, e2⟩ := hI.le u y hu he d1
    rcases hI.z y with q | ⟨u', _, _, q1, q2⟩
    · exact absurd q e1
    · omega

theorem Dst.sc_walk (h : Dst g n D) {y : Nat} (hy : y < n) (hs : scAt g D n n y ≠ 0) : ∃ k : Nat, scAt g D n n y = k + 1 ∧ Wk (Ed g) y (k + 1) y := by
  rcases (scAt_I (n := n) g D n (Nat.le_refl _)).z y with q | ⟨u, hu, he, q1, q2⟩
  · exact absurd q hs
  · exact ⟨(D (y * n + u)).toNat, by omega, .snoc (h.walk hy hu q1) he⟩

theorem Dst.sc_nonneg (_h : Dst g n D) (y : Nat) : 0 ≤ scAt g D n n y := by
  rcases (scAt_I (n := n) g D n (Nat.le_refl _)).z y with q | ⟨u, hu, he, q1, q2⟩
  · omega
  · omega

/-! ### what cycleOK asks -/
theorem cycOK_CyD (h : Dst g n D) {hub v : Nat} {c : List Nat} (hh : hub < n) (hv : v < n) (hi : sameB D n hub v = true) (hc : CycOK n g (fun v => sameB D n hub v) v c) : CyD n D v c where
  lt := fun x hx => (hc.inn x hx).1
  sm := fun x hx => same_trans h hh hv (hc.inn x hx).1 hi (hc.inn x hx).2
  nd := hc.nd
  hd := hc.hd
  pos := hc.pos
  st := fun i hi => by
    have h1 := hc.st i (by simp; omega)
    rw [getD_app_left (by omega), getD_app_left (by omega)] at h1
    have m1 : c.getD i 0 ∈ c := by simp [show i < c.length by omega]
    have m2 : c.getD (i + 1) 0 ∈ c := by simp [hi]
    refine h.one (hc.inn _ m1).1 (hc.inn _ m2).1 h1 (fun q => ?_)
    have := getD_inj hc.nd (by omega) hi q
    omega
  cl := fun hl => by
    have h1 := hc.st (c.length - 1) (by simp; omega)
    rw [getD_app_left (by omega), show c.length - 1 + 1 = c.length by omega, getD_app_right (Nat.le_refl _), Nat.sub_self] at h1
    have m1 : c.getD (c.length - 1) 0 ∈ c := by simp [show c.length - 1 < c.length by omega]
    refine h.one (hc.inn _ m1).1 hv h1 (fun q => ?_)
    have := getD_inj hc.nd (i := c.length - 1) (j := 0) (by omega) (by omega) (by rw [q, hc.hd])
    omega

theorem cnt_ge {v : Nat} : ∀ (k : Nat) (l : List Nat), l.Nodup → (∀ x ∈ l, x < k ∧ sameB D n v x = true) → l.length ≤ cnt D n v k
  | 0, l, _, h => by
    cases l with
    | nil => simp
    | cons a t => exact absurd (h a (by simp)).1 (by omega)
  | k + 1, l, hd, h => by
    rw [cnt_succ]
    by_cases e : k ∈ l
    · obtain ⟨a, b, rfl⟩ := List.append_of_mem e
      rw [List.nodup_append, List.nodup_cons] at hd
      have := cnt_ge (v := v) k (a ++ b) (List.nodup_append.2 ⟨hd.1, hd.2.1.2, fun x hx y hy => hd.2.2 x hx y (by simp [hy])⟩) (fun x hx => by
        have h1 := h x (by simp only [List.mem_append, List.mem_cons] at hx ⊢; rcases hx with q | q <;> simp [q])
        refine ⟨?_, h1.2⟩
        have : x ≠ k := fun q => by
          subst q
          rw [List.mem_append] at hx
          rcases hx with q | q
          · exact hd.2.2 x q x (by simp) rfl
          · exact hd.2.1.1 q
        omega)
      have hk := (h k (by simp)).2
      simp only [List.length_append, List.length_cons] at this ⊢
      rw [if_pos hk]
      omega
    · have := cnt_ge (v := v) k l hd (fun x hx => by
        have h1 := h x hx
        exact ⟨by have : x ≠ k := fun q => e (q ▸ hx); omega, h1.2⟩)
      omega
end dst
end Go.Proofs.Qxb6615025a
