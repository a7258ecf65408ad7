-- Two walks alike on a component; what preorder leaves alone.
import Derived.Test.Qxb6615025aPlain
namespace Go.Proofs.Qxb6615025a

/-- Two walks that look alike on the nodes within. -/
structure Ag (n : Nat) (within : Nat → Bool) (s t : GS) : Prop where
  rc : s.rc = t.rc
  fr : ∀ v, v < n → within v = true → s.fr v = t.fr v
  dp : ∀ v ∈ s.rc, s.dp v = t.dp v

theorem Ag.visit {n : Nat} {within : Nat → Bool} {s t : GS} (h : Ag n within s t) {u v : Nat} (hu : u ∈ s.rc) (hv : v < n) : Ag n within (visit within u s v) (visit within u t v) ∧ u ∈ (Qxb6615025a.visit within u s v).rc := by
  unfold Qxb6615025a.visit
  by_cases hw : within v = true
  · have e := h.fr v hv hw
    by_cases hf : s.fr v = -2
    · rw [if_pos ⟨hf, hw⟩, if_pos ⟨e ▸ hf, hw⟩]
      refine ⟨⟨by rw [h.rc], fun x hx hxw => ?_, fun x hx => ?_⟩, List.mem_append.2 (.inl hu)⟩
      · show upd s.fr v u x = upd t.fr v u x
        by_cases q : x = v
        · subst q; rw [upd_same, upd_same]
        · rw [upd_other _ _ q, upd_other _ _ q]; exact h.fr x hx hxw
      · show upd s.dp v (s.dp u + 1) x = upd t.dp v (t.dp u + 1) x
        by_cases q : x = v
        · subst q; rw [upd_same, upd_same, h.dp u hu]
        · rw [upd_other _ _ q, upd_other _ _ q]
          rcases List.mem_append.1 hx with q2 | q2
          · exact h.dp x q2
          · exact absurd (List.mem_singleton.1 q2) q
    · rw [if_neg (fun q => hf q.1), if_neg (fun q => hf (e.trans q.1))]
      exact ⟨h, hu⟩
  · rw [if_neg (fun q => hw q.2), if_neg (fun q => hw q.2)]
    exact ⟨h, hu⟩

theorem Ag.visits {n : Nat} {within : Nat → Bool} {u : Nat} : ∀ (l : List Nat) {s t : GS}, Ag n within s t → u ∈ s.rc → (∀ v ∈ l, v < n) → Ag n within (l.foldl (Qxb6615025a.visit within u) s) (l.foldl (Qxb6615025a.visit within u) t)
  | [], _, _, h, _, _ => h
  | v :: l, _, _, h, hu, hl => by
    obtain ⟨h1, h2⟩ := h.visit hu (hl v (by simp))
    exact Ag.visits l h1 h2 (fun x hx => hl x (by simp [hx]))

theorem Ag.grow {n : Nat} {within : Nat → Bool} {next : Nat → List Nat} (hn : ∀ u, ∀ v ∈ next u, v < n) : ∀ (f k : Nat) {s t : GS}, Ag n within s t → Ag n within (growL within next f k s) (growL within next f k t)
  | 0, _, _, _, h => h
  | f + 1, k, s, t, h => by
    unfold growL
    rw [← h.rc]
    cases hk : s.rc[k]? with
    | none => exact h
    | some u => exact Ag.grow hn f (k + 1) (h.visits (next u) (List.mem_of_getElem? hk) (hn u))

theorem Ag.start {n : Nat} {within : Nat → Bool} {fr dp : Nat → Int} {hub : Nat} (h : ∀ v, v < n → within v = true → fr v = -2) : Ag n within (grow0 fr dp hub) (grow0 (fun _ => -2) (fun _ => 0) hub) where
  rc := rfl
  fr := fun v hv hw => by
    show upd fr hub (-1) v = upd (fun _ => -2) hub (-1) v
    by_cases q : v = hub
    · subst q; rw [upd_same, upd_same]
    · rw [upd_other _ _ q, upd_other _ _ q]; exact h v hv hw
  dp := fun v hv => by
    have : v = hub := List.mem_singleton.1 hv
    subst this
    show upd dp v 0 v = upd (fun _ => 0) v 0 v
    rw [upd_same, upd_same]

theorem Ag.way {n start : Nat} {within : Nat → Bool} {next : Nat → List Nat} {fr0 dp0 : Nat → Int} {s t : GS} (h : Ag n within s t) (hT : Tree n start within next fr0 dp0 s) : ∀ (j v : Nat), s.rc[j]? = some v → wy s.fr s.dp v = wy t.fr t.dp v := by
  intro j
  induction j using Nat.strongRecOn with
  | _ j ih =>
    intro v hv
    have hm : v ∈ s.rc := List.mem_of_getElem? hv
    by_cases h0 : j = 0
    · subst h0
      rw [hT.hd] at hv
      cases hv
      have d1 : s.dp start = 0 := hT.ds
      rw [wy_root d1, wy_root (by rw [← h.dp start hm]; exact d1)]
    · obtain ⟨i, u, hi, _, hu, hf, _, hd⟩ := hT.par j v hv (by omega)
      obtain ⟨w1, _⟩ := hT.wi j v hv (by omega)
      have hum : u ∈ s.rc := List.mem_of_getElem? hu
      have d0 := (hT.dmono i i u u hu hu (Nat.le_refl _)).1
      rw [wy_step hf d0 hd, wy_step (fr := t.fr) (dp := t.dp) (u := u) (by rw [← h.fr v (hT.lt v hm) w1]; exact hf) (by rw [← h.dp u hum]; exact d0) (by rw [← h.dp u hum, ← h.dp v hm]; exact hd), ih i hi u hu]

theorem Ag.wayM {n start : Nat} {within : Nat → Bool} {next : Nat → List Nat} {fr0 dp0 : Nat → Int} {s t : GS} (h : Ag n within s t) (hT : Tree n start within next fr0 dp0 s) {v : Nat} (hv : v ∈ s.rc) : wy s.fr s.dp v = wy t.fr t.dp v := by
  obtain ⟨j, hj⟩ := List.mem_iff_getElem?.1 hv
  exact h.way hT j v hj

theorem stepL_agree {within : Nat → Bool} {d1 d2 : Nat → Int} {P : Nat → Prop} (hd : ∀ v, P v → d1 v = d2 v) : ∀ (l : List Nat) (s : Int), (∀ v ∈ l, within v = true → P v) → (0 ≤ s → P s.toNat) → stepL within d1 l s = stepL within d2 l s
  | [], _, _, _ => rfl
  | v :: l, s, hl, hs => by
    unfold stepL
    rw [List.foldl_cons, List.foldl_cons]
    have hl' : ∀ v ∈ l, within v = true → P v := fun x hx => hl x (by simp [hx])
    by_cases hw : within v = true
    · have hv := hl v (by simp) hw
      have e : (s < 0 ∨ d1 v < d1 s.toNat) ↔ (s < 0 ∨ d2 v < d2 s.toNat) := by
        by_cases q : s < 0
        · simp [q]
        · rw [hd v hv, hd _ (hs (by omega))]
      by_cases q : s < 0 ∨ d1 v < d1 s.toNat
      · rw [if_pos ⟨hw, q⟩, if_pos ⟨hw, e.1 q⟩]
        exact stepL_agree hd l v hl' (fun _ => by simpa using hv)
      · rw [if_neg (fun r => q r.2), if_neg (fun r => q (e.2 r.2))]
        exact stepL_agree hd l s hl' hs
    · rw [if_neg (fun r => hw r.1), if_neg (fun r => hw r.1)]
      exact stepL_agree hd l s hl' hs

section
variable {n : Nat} {g gp : Nat → List Nat} {within : Nat → Bool} {hub : Nat} {fri dpi fro dpo : Nat → Int} {G G' H H' : GS}

theorem Scene.step_agree (h : Scene n g gp within hub fri dpi fro dpo G G') (a : Ag n within G H) : stepL within G.dp (g hub) (-1) = stepL within H.dp (g hub) (-1) :=
  stepL_agree (P := fun v => v ∈ G.rc) (fun v hv => a.dp v hv) (g hub) (-1) (fun v hv hw => h.mem.2 ⟨h.gl hub h.hb v hv, hw⟩) (fun q => by omega)

theorem Scene.cyc_agree (h : Scene n g gp within hub fri dpi fro dpo G G') (a : Ag n within G H) (a' : Ag n within G' H') {sn v : Nat} (hsn : sn < n ∧ within sn = true) (hv : v < n) (hi : within v = true) : cycP G G' hub sn v = cycP H H' hub sn v := by
  unfold cycP
  have m := h.mem.2 ⟨hv, hi⟩
  have m' := h.mem'.2 ⟨hv, hi⟩
  by_cases q : v = hub
  · rw [if_pos q, if_pos q]
    unfold chainP
    rw [a.wayM h.T (h.mem.2 hsn), a.dp hub (h.mem.2 ⟨h.hb, h.wh⟩)]
  · rw [if_neg q, if_neg q]
    obtain ⟨A, B, t, h1, h2, h3, h4, h5, h6, h7, h8, h9, h10, h11⟩ := h.turn hv hi q
    have e1 : upP G' v = upP H' v := by unfold upP; rw [a'.wayM h.T' m']
    have e2 : turnP H (upP H' v) v = t := by rw [← e1, ← h2]; unfold turnP; rw [a.wayM h.T m]
    rw [h2, e2, e1]
    unfold chainP
    rw [a.wayM h.T m, a.dp t h9, a'.dp t h10]
end

/-- What preorder leaves alone. -/
theorem ones_out {rc : List Nat} : ∀ (sz : Nat → Int) {u : Nat}, u ∉ rc → ones rc sz u = sz u := by
  induction rc with
  | nil => intro sz u _; rfl
  | cons a l ih =>
    intro sz u hu
    unfold ones
    rw [List.foldl_cons]
    have := ih (upd sz a 1) (u := u) (fun q => hu (by simp [q]))
    unfold ones at this
    rw [this, upd_other _ _ (fun q => hu (by simp [q]))]

theorem sizeAt_out {fr : Nat → Int} {rc : List Nat} {par : Nat → Nat} (h : Ord fr rc par) (sz : Nat → Int) {u : Nat} (hu : u ∉ rc) : ∀ m, m ≤ rc.length - 1 → sizeAt fr rc sz m u = sz u
  | 0, _ => ones_out sz hu
  | m + 1, hm => by
    unfold sizeAt
    have hp := (h.pl (rc.length - 1 - m) (by omega) (by omega))
    rw [upd_other, sizeAt_out h sz hu m (by omega)]
    intro q
    rw [hp.2] at q
    apply hu
    rw [q]
    have : par (rc.length - 1 - m) < rc.length := by omega
    simp [List.getD_eq_getElem?_getD, List.getElem?_eq_getElem this]

theorem posAt_out {fr : Nat → Int} {rc : List Nat} (sz ps : Nat → Int) {u : Nat} (hu : u ∉ rc) (h0 : 0 < rc.length) : ∀ m, m ≤ rc.length - 1 → posAt fr rc sz ps m u = ps u
  | 0, _ => by
    unfold posAt
    rw [upd_other]
    intro q
    apply hu
    rw [q]
    simp [List.getD_eq_getElem?_getD, List.getElem?_eq_getElem h0]
  | m + 1, hm => by
    unfold posAt
    rw [upd_other, posAt_out sz ps hu h0 m (by omega)]
    intro q
    apply hu
    rw [q]
    have : m + 1 < rc.length := by omega
    simp [List.getD_eq_getElem?_getD, List.getElem?_eq_getElem this]
end Go.Proofs.Qxb6615025a
