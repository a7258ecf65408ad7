/- Tarjan's walk, in plain words. -/
import Derived.Test.Qxb6615025aPlaces
namespace Go.Proofs.Qxb6615025a


/-- v can be reached from u along the edges. -/
def Rch (g : Nat → List Nat) (u v : Nat) : Prop := ∃ k, Wk (fun a b => b ∈ g a) u k v

theorem Rch.refl {g : Nat → List Nat} (u : Nat) : Rch g u u := ⟨0, .zero⟩
theorem Rch.trans {g : Nat → List Nat} {a b c : Nat} (h : Rch g a b) (h2 : Rch g b c) : Rch g a c := by
  obtain ⟨i, hi⟩ := h
  obtain ⟨j, hj⟩ := h2
  exact ⟨_, hi.trans hj⟩
theorem Rch.edge {g : Nat → List Nat} {a b : Nat} (h : b ∈ g a) : Rch g a b := ⟨1, .snoc .zero h⟩

theorem Rch.closed {g : Nat → List Nat} {P : Nat → Prop} (hP : ∀ a, P a → ∀ b ∈ g a, P b) {a b : Nat} (h : Rch g a b) (ha : P a) : P b := by
  obtain ⟨k, hk⟩ := h
  induction hk with
  | zero => exact ha
  | snoc _ e ih => exact hP _ ih _ e

/-- A frame of the path: its node, the next edge to look at, and the finished nodes that stand above it on the stack, the top first. -/
structure Fm where
  node : Nat
  edge : Nat
  fin : List Nat

def Fm.all (f : Fm) : List Nat := f.fin ++ [f.node]

/-- The stack, its top first. -/
def stkT (seg : List Fm) : List Nat := seg.flatMap Fm.all

theorem stkT_cons (f : Fm) (r : List Fm) : stkT (f :: r) = f.all ++ stkT r := List.flatMap_cons

structure TS where
  ord : Nat → Int
  low : Nat → Int
  cmp : Nat → Int
  ons : Nat → Bool
  seg : List Fm
  rea : Nat
  fnd : Nat

/-- A frame is right, c the node of the frame above it. -/
structure FrOk (g : Nat → List Nat) (s : TS) (c : Option Nat) (f : Fm) : Prop where
  up : ∀ v, c = some v → v ∈ g f.node
  rch : ∀ x ∈ f.fin, Rch g f.node x
  lo : ∀ x ∈ f.fin, s.low f.node ≤ s.low x ∧ s.low x < s.ord x
  dn : ∀ x ∈ f.fin, ∀ v ∈ g x, 0 ≤ s.ord v ∧ (v ∈ stkT s.seg → s.low x ≤ s.ord v)
  ed : ∀ j, j < f.edge → ∀ v, (g f.node)[j]? = some v → c = some v ∨ (0 ≤ s.ord v ∧ (v ∈ stkT s.seg → s.low f.node ≤ s.ord v))

def Pth (P : Option Nat → Fm → Prop) : Option Nat → List Fm → Prop
  | _, [] => True
  | c, f :: r => P c f ∧ Pth P (some f.node) r

theorem Pth.mono {P P' : Option Nat → Fm → Prop} : ∀ {c : Option Nat} {l : List Fm}, (∀ c f, f ∈ l → P c f → P' c f) → Pth P c l → Pth P' c l
  | _, [], _, _ => trivial
  | _, f :: _, h, hp => ⟨h _ f List.mem_cons_self hp.1, Pth.mono (fun c f' hf => h c f' (List.mem_cons_of_mem _ hf)) hp.2⟩

def unv (ord : Nat → Int) (i : Nat) : Nat := if ord i < 0 then 1 else 0

structure TI (g : Nat → List Nat) (n : Nat) (s : TS) (c : Option Nat) : Prop where
  lt : ∀ x, 0 ≤ s.ord x → x < n
  bnd : ∀ x, -1 ≤ s.ord x ∧ s.ord x < s.rea
  vis : ∀ x ∈ stkT s.seg, 0 ≤ s.ord x
  on : ∀ x, s.ons x = true ↔ x ∈ stkT s.seg
  inc : (stkT s.seg).Pairwise fun a b => s.ord b < s.ord a
  low : ∀ x ∈ stkT s.seg, s.low x ≤ s.ord x ∧ ∃ y ∈ stkT s.seg, s.ord y = s.low x ∧ Rch g x y
  pth : Pth (FrOk g s) c s.seg
  asg : ∀ x, 0 ≤ s.ord x → x ∉ stkT s.seg → (∀ v ∈ g x, 0 ≤ s.ord v ∧ v ∉ stkT s.seg) ∧ 0 ≤ s.cmp x ∧ s.cmp x < s.fnd
  cls : ∀ a b, 0 ≤ s.ord a → a ∉ stkT s.seg → 0 ≤ s.ord b → b ∉ stkT s.seg → (s.cmp a = s.cmp b ↔ Rch g a b ∧ Rch g b a)
  rea : s.rea + sm (unv s.ord) n = n
  cnt : s.fnd + (stkT s.seg).length + sm (unv s.ord) n ≤ n

theorem sm_upd {f f' : Nat → Nat} {v x : Nat} (hv : f v = f' v + x) (ho : ∀ i, i ≠ v → f i = f' i) : ∀ k, sm f k = sm f' k + if v < k then x else 0
  | 0 => by simp [sm]
  | k + 1 => by
    show sm f k + f k = sm f' k + f' k + _
    rw [sm_upd hv ho k]
    by_cases h : k = v
    · subst h
      rw [hv, if_neg (by omega), if_pos (by omega)]; omega
    · rw [ho k h]
      by_cases h2 : v < k
      · rw [if_pos h2, if_pos (by omega)]; omega
      · rw [if_neg h2, if_neg (by omega)]; omega

theorem TI.start {g : Nat → List Nat} {n : Nat} (low : Nat → Int) (cmp : Nat → Int) : TI g n ⟨fun _ => -1, low, cmp, fun _ => false, [], 0, 0⟩ none where
  lt := fun x (h : 0 ≤ (-1 : Int)) => by omega
  bnd := fun x => ⟨Int.le_refl _, by show (-1 : Int) < ((0 : Nat) : Int); omega⟩
  vis := fun x h => by cases h
  on := fun x => ⟨fun h => (by cases h), fun h => (by cases h)⟩
  inc := List.Pairwise.nil
  low := fun x h => by cases h
  pth := trivial
  asg := fun x (h : 0 ≤ (-1 : Int)) => by omega
  cls := fun a b (h : 0 ≤ (-1 : Int)) => by omega
  rea := by
    have h : ∀ k, sm (unv fun _ => (-1 : Int)) k = k := fun k => by
      induction k with
      | zero => rfl
      | succ k ih => show sm _ k + 1 = k + 1; rw [ih]
    show 0 + sm (unv fun _ => (-1 : Int)) n = n
    rw [h]; omega
  cnt := by
    have h : ∀ k, sm (unv fun _ => (-1 : Int)) k = k := fun k => by
      induction k with
      | zero => rfl
      | succ k ih => show sm _ k + 1 = k + 1; rw [ih]
    show 0 + 0 + sm (unv fun _ => (-1 : Int)) n ≤ n
    rw [h]; omega

/-- The next edge of the top frame is looked at. -/
theorem TI.look {g : Nat → List Nat} {n : Nat} {s : TS} {f : Fm} {r : List Fm} (h : TI g n s none) (hs : s.seg = f :: r) {v : Nat} (hv : (g f.node)[f.edge]? = some v) :
    TI g n { s with seg := ⟨f.node, f.edge + 1, f.fin⟩ :: r } (some v) := by
  have e : stkT (⟨f.node, f.edge + 1, f.fin⟩ :: r) = stkT s.seg := by rw [hs]; rfl
  have hp := h.pth
  rw [hs] at hp
  obtain ⟨hf, hr⟩ := hp
  constructor
  · exact h.lt
  · exact h.bnd
  · show ∀ x ∈ stkT (_ :: r), _
    rw [e]; exact h.vis
  · show ∀ x, _ ↔ x ∈ stkT (_ :: r)
    rw [e]; exact h.on
  · show (stkT (_ :: r)).Pairwise _
    rw [e]; exact h.inc
  · show ∀ x ∈ stkT (_ :: r), _ ∧ ∃ y ∈ stkT (_ :: r), _
    rw [e]; exact h.low
  · refine ⟨⟨?_, hf.rch, hf.lo, ?_, ?_⟩, ?_⟩
    · intro v' hv'
      cases hv'
      exact List.mem_of_getElem? hv
    · show ∀ x ∈ f.fin, ∀ v ∈ g x, 0 ≤ s.ord v ∧ (v ∈ stkT (_ :: r) → _)
      rw [e]; exact hf.dn
    · show ∀ j, j < f.edge + 1 → ∀ v', (g f.node)[j]? = some v' → some v = some v' ∨ (0 ≤ s.ord v' ∧ (v' ∈ stkT (_ :: r) → _))
      rw [e]
      intro j hj v' hv'
      by_cases hje : j = f.edge
      · subst hje
        rw [hv] at hv'
        exact .inl hv'
      · rcases hf.ed j (by omega) v' hv' with q | q
        · cases q
        · exact .inr q
    · refine Pth.mono (fun c f' _ q => ⟨q.up, q.rch, q.lo, ?_, ?_⟩) hr
      · show ∀ x ∈ f'.fin, ∀ v ∈ g x, 0 ≤ s.ord v ∧ (v ∈ stkT (_ :: r) → _)
        rw [e]; exact q.dn
      · show ∀ j, j < f'.edge → ∀ v', (g f'.node)[j]? = some v' → c = some v' ∨ (0 ≤ s.ord v' ∧ (v' ∈ stkT (_ :: r) → _))
        rw [e]; exact q.ed
  · show ∀ x, 0 ≤ s.ord x → x ∉ stkT (_ :: r) → (∀ v ∈ g x, 0 ≤ s.ord v ∧ v ∉ stkT (_ :: r)) ∧ _
    rw [e]; exact h.asg
  · show ∀ a b, 0 ≤ s.ord a → a ∉ stkT (_ :: r) → 0 ≤ s.ord b → b ∉ stkT (_ :: r) → _
    rw [e]; exact h.cls
  · exact h.rea
  · show s.fnd + (stkT (_ :: r)).length + _ ≤ n
    rw [e]; exact h.cnt

theorem mem_stk {seg : List Fm} {f : Fm} (h : f ∈ seg) {x : Nat} (hx : x ∈ f.fin ∨ x = f.node) : x ∈ stkT seg := by
  refine List.mem_flatMap.2 ⟨f, h, ?_⟩
  rcases hx with hx | hx
  · exact List.mem_append.2 (.inl hx)
  · exact List.mem_append.2 (.inr (by simp [hx]))

/-- A node is reached for the first time. -/
theorem TI.reach {g : Nat → List Nat} {n : Nat} {s : TS} {v : Nat} (h : TI g n s (some v)) (hn : v < n) (hv : s.ord v = -1) :
    TI g n ⟨upd s.ord v s.rea, upd s.low v s.rea, s.cmp, upd s.ons v true, ⟨v, 0, []⟩ :: s.seg, s.rea + 1, s.fnd⟩ none := by
  have hns : v ∉ stkT s.seg := fun q => by have := h.vis v q; omega
  have e : stkT (⟨v, 0, []⟩ :: s.seg) = v :: stkT s.seg := rfl
  have ou : ∀ x, x ≠ v → upd s.ord v s.rea x = s.ord x := fun x q => if_neg q
  have ov : upd s.ord v s.rea v = s.rea := if_pos rfl
  have lu : ∀ x, x ≠ v → upd s.low v s.rea x = s.low x := fun x q => if_neg q
  have lv : upd s.low v s.rea v = s.rea := if_pos rfl
  have nev : ∀ x ∈ stkT s.seg, x ≠ v := fun x q q2 => hns (q2 ▸ q)
  have ge : ∀ x, 0 ≤ s.ord x → 0 ≤ upd s.ord v s.rea x := fun x q => by rw [ou x (fun q2 => by subst q2; omega)]; exact q
  have hsm : ∀ k, sm (unv s.ord) k = sm (unv (upd s.ord v s.rea)) k + if v < k then 1 else 0 := sm_upd (by
    show (if s.ord v < 0 then 1 else 0) = (if upd s.ord v s.rea v < 0 then 1 else 0) + 1
    rw [ov, if_pos (by omega), if_neg (by omega)]) (fun i hi => by
    show (if s.ord i < 0 then 1 else 0) = (if upd s.ord v s.rea i < 0 then 1 else 0)
    rw [ou i hi])
  have key : ∀ c f, f ∈ s.seg → FrOk g s c f → (∀ v', c = some v' → v' ∈ g f.node) → FrOk g ⟨upd s.ord v s.rea, upd s.low v s.rea, s.cmp, upd s.ons v true, ⟨v, 0, []⟩ :: s.seg, s.rea + 1, s.fnd⟩ c f := by
    intro c f hf q _
    have ht : ∀ x, x ∈ f.fin ∨ x = f.node → x ∈ stkT s.seg := fun x hx => mem_stk hf hx
    have tr : ∀ x, x ∈ f.fin ∨ x = f.node → ∀ v', (0 ≤ s.ord v' ∧ (v' ∈ stkT s.seg → s.low x ≤ s.ord v')) → 0 ≤ upd s.ord v s.rea v' ∧ (v' ∈ stkT (⟨v, 0, []⟩ :: s.seg) → upd s.low v s.rea x ≤ upd s.ord v s.rea v') := by
      intro x hx v' hq
      have hne : v' ≠ v := fun q2 => by subst q2; omega
      refine ⟨ge _ hq.1, fun hm => ?_⟩
      rw [e] at hm
      rcases List.mem_cons.1 hm with rfl | hm
      · exact absurd rfl hne
      · rw [ou v' hne, lu x (nev x (ht x hx))]
        exact hq.2 hm
    refine ⟨q.up, q.rch, ?_, ?_, ?_⟩
    · intro x hx
      show upd s.low v s.rea f.node ≤ upd s.low v s.rea x ∧ upd s.low v s.rea x < upd s.ord v s.rea x
      rw [lu _ (nev _ (ht _ (.inr rfl))), lu _ (nev _ (ht _ (.inl hx))), ou _ (nev _ (ht _ (.inl hx)))]
      exact q.lo x hx
    · exact fun x hx v' hv' => tr x (.inl hx) v' (q.dn x hx v' hv')
    · intro j hj v' hv'
      rcases q.ed j hj v' hv' with q2 | q2
      · exact .inl q2
      · exact .inr (tr f.node (.inr rfl) v' q2)
  have kp : ∀ {c : Option Nat} {l : List Fm}, (∀ f ∈ l, f ∈ s.seg) → Pth (FrOk g s) c l → Pth (FrOk g ⟨upd s.ord v s.rea, upd s.low v s.rea, s.cmp, upd s.ons v true, ⟨v, 0, []⟩ :: s.seg, s.rea + 1, s.fnd⟩) c l :=
    fun {c l} hl hp => Pth.mono (fun c f hf q => key c f (hl f hf) q q.up) hp
  constructor
  · intro x hx
    by_cases q : x = v
    · exact q ▸ hn
    · exact h.lt x (by rw [← ou x q]; exact hx)
  · intro x
    show -1 ≤ upd s.ord v s.rea x ∧ upd s.ord v s.rea x < ((s.rea + 1 : Nat) : Int)
    by_cases q : x = v
    · subst q; rw [ov]; omega
    · rw [ou x q]; have := h.bnd x; omega
  · intro x hx
    rcases List.mem_cons.1 hx with rfl | hx
    · show 0 ≤ upd s.ord x s.rea x
      rw [ov]; omega
    · exact ge x (h.vis x hx)
  · intro x
    show upd s.ons v true x = true ↔ x ∈ v :: stkT s.seg
    by_cases q : x = v
    · subst q
      simp [upd]
    · rw [show upd s.ons v true x = s.ons x from if_neg q, h.on x]
      simp [q]
  · refine List.pairwise_cons.2 ⟨fun x hx => ?_, h.inc.imp_of_mem fun {a b} ha hb q => ?_⟩
    · show upd s.ord v s.rea x < upd s.ord v s.rea v
      rw [ov, ou x (nev x hx)]
      exact (h.bnd x).2
    · show upd s.ord v s.rea b < upd s.ord v s.rea a
      rw [ou a (nev a ha), ou b (nev b hb)]; exact q
  · intro x hx
    show upd s.low v s.rea x ≤ upd s.ord v s.rea x ∧ ∃ y ∈ v :: stkT s.seg, upd s.ord v s.rea y = upd s.low v s.rea x ∧ Rch g x y
    rcases List.mem_cons.1 hx with rfl | hx
    · rw [ov, lv]
      exact ⟨Int.le_refl _, x, List.mem_cons_self, ov, Rch.refl _⟩
    · rw [ou x (nev x hx), lu x (nev x hx)]
      obtain ⟨h1, y, hy, h2, h3⟩ := h.low x hx
      exact ⟨h1, y, List.mem_cons_of_mem _ hy, by rw [ou y (nev y hy)]; exact h2, h3⟩
  · refine ⟨⟨fun _ q => (by cases q), fun _ q => (by cases q), fun _ q => (by cases q), fun _ q => (by cases q), fun j q => absurd q (Nat.not_lt_zero j)⟩, kp (fun f hf => hf) h.pth⟩
  · intro x hx hxs
    show (∀ v' ∈ g x, 0 ≤ upd s.ord v s.rea v' ∧ v' ∉ v :: stkT s.seg) ∧ _
    have hx2 : x ≠ v := fun q => hxs (q ▸ List.mem_cons_self)
    have hx1 : 0 ≤ s.ord x := by rw [← ou x hx2]; exact hx
    obtain ⟨h1, h2⟩ := h.asg x hx1 (fun q => hxs (List.mem_cons_of_mem _ q))
    refine ⟨fun v' hv' => ⟨ge _ (h1 v' hv').1, fun q => ?_⟩, h2⟩
    rcases List.mem_cons.1 q with rfl | q
    · have := (h1 _ hv').1; omega
    · exact (h1 v' hv').2 q
  · intro a b ha has hb hbs
    have ha2 : a ≠ v := fun q => has (q ▸ List.mem_cons_self)
    have hb2 : b ≠ v := fun q => hbs (q ▸ List.mem_cons_self)
    exact h.cls a b (by rw [← ou a ha2]; exact ha) (fun q => has (List.mem_cons_of_mem _ q)) (by rw [← ou b hb2]; exact hb) (fun q => hbs (List.mem_cons_of_mem _ q))
  · show s.rea + 1 + sm (unv (upd s.ord v s.rea)) n = n
    have := hsm n
    rw [if_pos hn] at this
    have := h.rea
    omega
  · show s.fnd + (v :: stkT s.seg).length + sm (unv (upd s.ord v s.rea)) n ≤ n
    have := hsm n
    rw [if_pos hn] at this
    have := h.cnt
    rw [List.length_cons]
    omega

/-- What a change of low at one frame's node keeps of the other frames. -/
theorem FrOk.low {g : Nat → List Nat} {s : TS} {c : Option Nat} {f : Fm} (q : FrOk g s c f) {u : Nat} {a : Int} (hu : u ∉ f.all) : FrOk g { s with low := upd s.low u a } c f := by
  have hn : f.node ≠ u := fun e => hu (List.mem_append.2 (.inr (by simp [e])))
  have hf : ∀ x ∈ f.fin, x ≠ u := fun x hx e => hu (List.mem_append.2 (.inl (e ▸ hx)))
  refine ⟨q.up, q.rch, fun x hx => ?_, fun x hx v hv => ?_, fun j hj v hv => ?_⟩
  · show upd s.low u a f.node ≤ upd s.low u a x ∧ upd s.low u a x < s.ord x
    rw [show upd s.low u a f.node = s.low f.node from if_neg hn, show upd s.low u a x = s.low x from if_neg (hf x hx)]
    exact q.lo x hx
  · show 0 ≤ s.ord v ∧ (v ∈ stkT s.seg → upd s.low u a x ≤ s.ord v)
    rw [show upd s.low u a x = s.low x from if_neg (hf x hx)]
    exact q.dn x hx v hv
  · show c = some v ∨ (0 ≤ s.ord v ∧ (v ∈ stkT s.seg → upd s.low u a f.node ≤ s.ord v))
    rw [show upd s.low u a f.node = s.low f.node from if_neg hn]
    exact q.ed j hj v hv

theorem nodup_stk {g : Nat → List Nat} {n : Nat} {s : TS} {c : Option Nat} (h : TI g n s c) : (stkT s.seg).Nodup :=
  h.inc.imp fun {a b} q e => by subst e; omega

/-- An edge back to the stack. -/
theorem TI.back {g : Nat → List Nat} {n : Nat} {s : TS} {v : Nat} {f : Fm} {r : List Fm} (h : TI g n s (some v)) (hs : s.seg = f :: r) (hv : s.ons v = true) :
    TI g n { s with low := upd s.low f.node (min (s.low f.node) (s.ord v)) } none := by
  have hvs := (h.on v).1 hv
  have hp := h.pth
  rw [hs] at hp
  obtain ⟨hf, hr⟩ := hp
  have hnd := nodup_stk h
  rw [hs, stkT_cons] at hnd
  obtain ⟨hn1, hn2, hn3⟩ := List.nodup_append.1 hnd
  have hua : f.node ∈ f.all := List.mem_append.2 (.inr (by simp))
  have hfin : ∀ x ∈ f.fin, x ≠ f.node := fun x hx e => (List.nodup_append.1 hn1).2.2 x hx f.node (by simp) e
  have huv : upd s.low f.node (min (s.low f.node) (s.ord v)) f.node = min (s.low f.node) (s.ord v) := if_pos rfl
  have hux : ∀ x, x ≠ f.node → upd s.low f.node (min (s.low f.node) (s.ord v)) x = s.low x := fun x q => if_neg q
  have hus : f.node ∈ stkT s.seg := mem_stk (by rw [hs]; exact List.mem_cons_self) (.inr rfl)
  refine ⟨h.lt, h.bnd, h.vis, h.on, h.inc, ?_, ?_, h.asg, h.cls, h.rea, h.cnt⟩
  · intro x hx
    show upd s.low f.node (min (s.low f.node) (s.ord v)) x ≤ s.ord x ∧ ∃ y ∈ stkT s.seg, s.ord y = upd s.low f.node (min (s.low f.node) (s.ord v)) x ∧ Rch g x y
    obtain ⟨h1, y, hy, h2, h3⟩ := h.low x hx
    by_cases q : x = f.node
    · subst q
      rw [huv]
      refine ⟨by omega, ?_⟩
      by_cases q2 : s.low f.node ≤ s.ord v
      · exact ⟨y, hy, by rw [h2]; omega, h3⟩
      · exact ⟨v, hvs, by omega, Rch.edge (hf.up v rfl)⟩
    · rw [hux x q]
      exact ⟨h1, y, hy, h2, h3⟩
  · refine Eq.subst (motive := fun l => Pth (FrOk g { s with low := upd s.low f.node (min (s.low f.node) (s.ord v)) }) none l) hs.symm ?_
    refine ⟨⟨fun _ q => (by cases q), hf.rch, fun x hx => ?_, fun x hx v' hv' => ?_, fun j hj v' hv' => ?_⟩, ?_⟩
    · show upd s.low f.node (min (s.low f.node) (s.ord v)) f.node ≤ upd s.low f.node (min (s.low f.node) (s.ord v)) x ∧ upd s.low f.node (min (s.low f.node) (s.ord v)) x < s.ord x
      rw [huv, hux x (hfin x hx)]
      have := hf.lo x hx
      omega
    · show 0 ≤ s.ord v' ∧ (v' ∈ stkT s.seg → upd s.low f.node (min (s.low f.node) (s.ord v)) x ≤ s.ord v')
      rw [hux x (hfin x hx)]
      exact hf.dn x hx v' hv'
    · show none = some v' ∨ (0 ≤ s.ord v' ∧ (v' ∈ stkT s.seg → upd s.low f.node (min (s.low f.node) (s.ord v)) f.node ≤ s.ord v'))
      rw [huv]
      refine .inr ?_
      rcases hf.ed j hj v' hv' with q | q
      · cases q
        exact ⟨h.vis v hvs, fun _ => by omega⟩
      · exact ⟨q.1, fun hm => by have := q.2 hm; omega⟩
    · refine Pth.mono (fun c f' hf' q => q.low ?_) hr
      intro hm
      exact hn3 f.node hua f.node (List.mem_flatMap.2 ⟨f', hf', hm⟩) rfl

/-- An edge to a node whose component is known. -/
theorem TI.past {g : Nat → List Nat} {n : Nat} {s : TS} {v : Nat} {f : Fm} {r : List Fm} (h : TI g n s (some v)) (hs : s.seg = f :: r) (hv : s.ons v = false) (ho : s.ord v ≠ -1) : TI g n s none := by
  have hvs : v ∉ stkT s.seg := fun q => by rw [(h.on v).2 q] at hv; cases hv
  have hp := h.pth
  rw [hs] at hp
  obtain ⟨hf, hr⟩ := hp
  refine ⟨h.lt, h.bnd, h.vis, h.on, h.inc, h.low, ?_, h.asg, h.cls, h.rea, h.cnt⟩
  rw [hs]
  refine ⟨⟨fun _ q => (by cases q), hf.rch, hf.lo, hf.dn, fun j hj v' hv' => .inr ?_⟩, hr⟩
  rcases hf.ed j hj v' hv' with q | q
  · cases q
    exact ⟨by have := h.bnd v; omega, fun hm => absurd hm hvs⟩
  · exact q

/-- The order rises from the node of the top frame on. -/
theorem TI.top {g : Nat → List Nat} {n : Nat} {s : TS} {c : Option Nat} {f : Fm} {r : List Fm} (h : TI g n s c) (hs : s.seg = f :: r) :
    (∀ x ∈ f.fin, s.ord f.node < s.ord x) ∧ (∀ x ∈ f.all, ∀ y ∈ stkT r, s.ord y < s.ord x) := by
  have hi := h.inc
  rw [hs, stkT_cons] at hi
  obtain ⟨h1, _, h3⟩ := List.pairwise_append.1 hi
  exact ⟨fun x hx => (List.pairwise_append.1 h1).2.2 x hx f.node (by simp), fun x hx y hy => h3 x hx y hy⟩

/-- The lowest frame's node is its own root. -/
theorem TI.sole {g : Nat → List Nat} {n : Nat} {s : TS} {f : Fm} {c : Option Nat} (h : TI g n s c) (hs : s.seg = [f]) : s.low f.node = s.ord f.node := by
  have hus : f.node ∈ stkT s.seg := mem_stk (by rw [hs]; exact List.mem_cons_self) (.inr rfl)
  obtain ⟨h1, y, hy, h2, _⟩ := h.low f.node hus
  rw [hs, stkT_cons] at hy
  have hy : y ∈ f.fin ++ [f.node] := by simpa [stkT, Fm.all] using hy
  rcases List.mem_append.1 hy with q | q
  · have := (h.top hs).1 y q
    omega
  · rw [List.mem_singleton] at q
    subst q
    omega

/-- A finished frame joins the one below it. -/
theorem TI.merge {g : Nat → List Nat} {n : Nat} {s : TS} {f q : Fm} {r : List Fm} (h : TI g n s none) (hs : s.seg = f :: q :: r) (he : (g f.node).length ≤ f.edge) (hne : s.low f.node ≠ s.ord f.node) :
    TI g n { s with low := upd s.low q.node (min (s.low q.node) (s.low f.node)), seg := ⟨q.node, q.edge, f.all ++ q.fin⟩ :: r } none := by
  have e : stkT (⟨q.node, q.edge, f.all ++ q.fin⟩ :: r) = stkT s.seg := by
    rw [hs, stkT_cons, stkT_cons, stkT_cons]
    show ((f.all ++ q.fin) ++ [q.node]) ++ _ = f.all ++ ((q.fin ++ [q.node]) ++ _)
    simp only [List.append_assoc]
  have hp := h.pth
  rw [hs] at hp
  obtain ⟨hf, hq, hr⟩ := hp
  have hnd := nodup_stk h
  rw [hs, stkT_cons, stkT_cons] at hnd
  obtain ⟨hn1, hn2, hn3⟩ := List.nodup_append.1 hnd
  obtain ⟨hn4, hn5, hn6⟩ := List.nodup_append.1 hn2
  have hqa : q.node ∈ q.all := List.mem_append.2 (.inr (by simp))
  have hfa : f.node ∈ f.all := List.mem_append.2 (.inr (by simp))
  have hfin : ∀ x ∈ f.all ++ q.fin, x ≠ q.node := by
    intro x hx e2
    rcases List.mem_append.1 hx with hx | hx
    · exact hn3 x hx q.node (List.mem_append.2 (.inl hqa)) e2
    · exact (List.nodup_append.1 hn4).2.2 x hx q.node (by simp) e2
  have huv : upd s.low q.node (min (s.low q.node) (s.low f.node)) q.node = min (s.low q.node) (s.low f.node) := if_pos rfl
  have hux : ∀ x, x ≠ q.node → upd s.low q.node (min (s.low q.node) (s.low f.node)) x = s.low x := fun x q => if_neg q
  have hus : f.node ∈ stkT s.seg := mem_stk (by rw [hs]; exact List.mem_cons_self) (.inr rfl)
  have hrq : Rch g q.node f.node := Rch.edge (hq.up _ rfl)
  have hlf := h.low f.node hus
  have hdu : ∀ v ∈ g f.node, 0 ≤ s.ord v ∧ (v ∈ stkT s.seg → s.low f.node ≤ s.ord v) := by
    intro v hv
    obtain ⟨j, hj⟩ := List.mem_iff_getElem?.1 hv
    have hj2 := (List.getElem?_eq_some_iff.1 hj).1
    rcases hf.ed j (by omega) v hj with k | k
    · cases k
    · exact k
  refine ⟨h.lt, h.bnd, ?_, ?_, ?_, ?_, ?_, ?_, ?_, h.rea, ?_⟩
  · show ∀ x ∈ stkT (_ :: r), _
    rw [e]; exact h.vis
  · show ∀ x, _ ↔ x ∈ stkT (_ :: r)
    rw [e]; exact h.on
  · show (stkT (_ :: r)).Pairwise _
    rw [e]; exact h.inc
  · show ∀ x ∈ stkT (_ :: r), _ ∧ ∃ y ∈ stkT (_ :: r), _
    rw [e]
    intro x hx
    show upd s.low q.node (min (s.low q.node) (s.low f.node)) x ≤ s.ord x ∧ ∃ y ∈ stkT s.seg, s.ord y = upd s.low q.node (min (s.low q.node) (s.low f.node)) x ∧ Rch g x y
    obtain ⟨h1, y, hy, h2, h3⟩ := h.low x hx
    by_cases k : x = q.node
    · subst k
      rw [huv]
      refine ⟨by omega, ?_⟩
      by_cases k2 : s.low q.node ≤ s.low f.node
      · exact ⟨y, hy, by rw [h2]; omega, h3⟩
      · obtain ⟨_, z, hz, h5, h6⟩ := hlf
        exact ⟨z, hz, by omega, hrq.trans h6⟩
    · rw [hux x k]
      exact ⟨h1, y, hy, h2, h3⟩
  · refine ⟨⟨fun _ k => (by cases k), ?_, ?_, ?_, ?_⟩, ?_⟩
    · intro x hx
      rcases List.mem_append.1 hx with hx | hx
      · rcases List.mem_append.1 hx with hx | hx
        · exact hrq.trans (hf.rch x hx)
        · rw [List.mem_singleton] at hx
          subst hx
          exact hrq
      · exact hq.rch x hx
    · intro x hx
      show upd s.low q.node (min (s.low q.node) (s.low f.node)) q.node ≤ upd s.low q.node (min (s.low q.node) (s.low f.node)) x ∧ upd s.low q.node (min (s.low q.node) (s.low f.node)) x < s.ord x
      rw [huv, hux x (hfin x hx)]
      rcases List.mem_append.1 hx with hx | hx
      · rcases List.mem_append.1 hx with hx | hx
        · have := hf.lo x hx; omega
        · rw [List.mem_singleton] at hx
          subst hx
          have := hlf.1; omega
      · have := hq.lo x hx; omega
    · show ∀ x ∈ f.all ++ q.fin, ∀ v ∈ g x, 0 ≤ s.ord v ∧ (v ∈ stkT (_ :: r) → upd s.low q.node (min (s.low q.node) (s.low f.node)) x ≤ s.ord v)
      rw [e]
      intro x hx v hv
      rw [hux x (hfin x hx)]
      rcases List.mem_append.1 hx with hx | hx
      · rcases List.mem_append.1 hx with hx | hx
        · exact hf.dn x hx v hv
        · rw [List.mem_singleton] at hx
          subst hx
          exact hdu v hv
      · exact hq.dn x hx v hv
    · show ∀ j, j < q.edge → ∀ v, (g q.node)[j]? = some v → none = some v ∨ (0 ≤ s.ord v ∧ (v ∈ stkT (_ :: r) → upd s.low q.node (min (s.low q.node) (s.low f.node)) q.node ≤ s.ord v))
      rw [e]
      intro j hj v hv
      rw [huv]
      refine .inr ?_
      rcases hq.ed j hj v hv with k | k
      · cases k
        exact ⟨h.vis _ hus, fun _ => by have := hlf.1; omega⟩
      · exact ⟨k.1, fun hm => by have := k.2 hm; omega⟩
    · refine Pth.mono (fun c f' hf' k => ?_) hr
      have hno : q.node ∉ f'.all := fun hm => hn6 q.node hqa q.node (List.mem_flatMap.2 ⟨f', hf', hm⟩) rfl
      have k2 := k.low (a := min (s.low q.node) (s.low f.node)) hno
      refine ⟨k2.up, k2.rch, k2.lo, ?_, ?_⟩
      · show ∀ x ∈ f'.fin, ∀ v ∈ g x, 0 ≤ s.ord v ∧ (v ∈ stkT (_ :: r) → _)
        rw [e]; exact k2.dn
      · show ∀ j, j < f'.edge → ∀ v', (g f'.node)[j]? = some v' → c = some v' ∨ (0 ≤ s.ord v' ∧ (v' ∈ stkT (_ :: r) → _))
        rw [e]; exact k2.ed
  · show ∀ x, 0 ≤ s.ord x → x ∉ stkT (_ :: r) → (∀ v ∈ g x, 0 ≤ s.ord v ∧ v ∉ stkT (_ :: r)) ∧ _
    rw [e]; exact h.asg
  · show ∀ a b, 0 ≤ s.ord a → a ∉ stkT (_ :: r) → 0 ≤ s.ord b → b ∉ stkT (_ :: r) → _
    rw [e]; exact h.cls
  · show s.fnd + (stkT (_ :: r)).length + _ ≤ n
    rw [e]; exact h.cnt

/-- A root's low changes nothing below it. -/
theorem TI.keepLow {g : Nat → List Nat} {n : Nat} {s : TS} {c : Option Nat} {f q : Fm} {r : List Fm} (h : TI g n s c) (hs : s.seg = f :: q :: r) (heq : s.low f.node = s.ord f.node) :
    upd s.low q.node (min (s.low q.node) (s.low f.node)) = s.low := by
  funext x
  by_cases k : x = q.node
  · subst k
    rw [show upd s.low q.node (min (s.low q.node) (s.low f.node)) q.node = min (s.low q.node) (s.low f.node) from if_pos rfl]
    have hqs : q.node ∈ stkT s.seg := mem_stk (by rw [hs]; simp) (.inr rfl)
    have h1 := (h.low q.node hqs).1
    have h2 := (h.top hs).2 f.node (List.mem_append.2 (.inr (by simp))) q.node (mem_stk List.mem_cons_self (.inr rfl))
    omega
  · exact if_neg k

/-- A component is found. -/
theorem TI.close {g : Nat → List Nat} {n : Nat} {s : TS} {f : Fm} {r : List Fm} (h : TI g n s none) (hs : s.seg = f :: r) (he : (g f.node).length ≤ f.edge) (heq : s.low f.node = s.ord f.node) :
    TI g n ⟨s.ord, s.low, fun x => if x ∈ f.all then (s.fnd : Int) else s.cmp x, fun x => if x ∈ f.all then false else s.ons x, r, s.rea, s.fnd + 1⟩ none := by
  have hp := h.pth
  rw [hs] at hp
  obtain ⟨hf, hr⟩ := hp
  have hnd := nodup_stk h
  rw [hs, stkT_cons] at hnd
  obtain ⟨hn1, hn2, hn3⟩ := List.nodup_append.1 hnd
  have em : ∀ x, x ∈ stkT s.seg ↔ x ∈ f.all ∨ x ∈ stkT r := fun x => by rw [hs, stkT_cons, List.mem_append]
  have hfa : f.node ∈ f.all := List.mem_append.2 (.inr (by simp))
  have ht := h.top hs
  have hge : ∀ x ∈ f.all, s.ord f.node ≤ s.ord x := by
    intro x hx
    rcases List.mem_append.1 hx with hx | hx
    · have := ht.1 x hx; omega
    · rw [List.mem_singleton] at hx
      subst hx
      omega
  have hin : ∀ x ∈ stkT s.seg, s.ord f.node ≤ s.ord x → x ∈ f.all := by
    intro x hx hle
    rcases (em x).1 hx with k | k
    · exact k
    · have := ht.2 f.node hfa x k
      omega
  have hlo : ∀ x ∈ f.all, s.ord f.node ≤ s.low x := by
    intro x hx
    rcases List.mem_append.1 hx with hx | hx
    · have := hf.lo x hx; omega
    · rw [List.mem_singleton] at hx
      subst hx
      omega
  have hout : ∀ x ∈ f.all, Rch g f.node x := by
    intro x hx
    rcases List.mem_append.1 hx with hx | hx
    · exact hf.rch x hx
    · rw [List.mem_singleton] at hx
      subst hx
      exact Rch.refl _
  have hback : ∀ (k : Nat) (x : Nat), x ∈ f.all → s.ord x ≤ s.ord f.node + k → Rch g x f.node := by
    intro k
    induction k with
    | zero =>
      intro x hx hk
      rcases List.mem_append.1 hx with hx2 | hx2
      · have := ht.1 x hx2; omega
      · rw [List.mem_singleton] at hx2
        subst hx2
        exact Rch.refl _
    | succ k ih =>
      intro x hx hk
      rcases List.mem_append.1 hx with hx2 | hx2
      · obtain ⟨_, y, hy, h2, h3⟩ := h.low x ((em x).2 (.inl hx))
        have h4 := hf.lo x hx2
        have hya : y ∈ f.all := hin y hy (by have := hlo x hx; omega)
        exact h3.trans (ih y hya (by omega))
      · rw [List.mem_singleton] at hx2
        subst hx2
        exact Rch.refl _
  have hb2 : ∀ x ∈ f.all, Rch g x f.node := fun x hx => hback (s.ord x - s.ord f.node).toNat x hx (by have := hge x hx; omega)
  have hcl : ∀ x ∈ f.all, ∀ v ∈ g x, 0 ≤ s.ord v ∧ v ∉ stkT r := by
    intro x hx v hv
    have hd : 0 ≤ s.ord v ∧ (v ∈ stkT s.seg → s.low x ≤ s.ord v) := by
      rcases List.mem_append.1 hx with hx2 | hx2
      · exact hf.dn x hx2 v hv
      · rw [List.mem_singleton] at hx2
        subst hx2
        obtain ⟨j, hj⟩ := List.mem_iff_getElem?.1 hv
        have hj2 := (List.getElem?_eq_some_iff.1 hj).1
        rcases hf.ed j (by omega) v hj with k | k
        · cases k
        · exact k
    refine ⟨hd.1, fun k => ?_⟩
    have h1 := hd.2 ((em v).2 (.inr k))
    have h2 := ht.2 f.node hfa v k
    have h3 := hlo x hx
    omega
  have hA : ∀ a, (0 ≤ s.ord a ∧ a ∉ stkT s.seg) → ∀ b ∈ g a, 0 ≤ s.ord b ∧ b ∉ stkT s.seg := fun a ha b hb => (h.asg a ha.1 ha.2).1 b hb
  have split : ∀ x, x ∉ stkT r → x ∈ f.all ∨ x ∉ stkT s.seg := fun x hx => by
    by_cases k : x ∈ f.all
    · exact .inl k
    · exact .inr fun k2 => ((em x).1 k2).elim k hx
  constructor
  · exact h.lt
  · exact h.bnd
  · exact fun x hx => h.vis x ((em x).2 (.inr hx))
  · intro x
    show (if x ∈ f.all then false else s.ons x) = true ↔ x ∈ stkT r
    by_cases k : x ∈ f.all
    · rw [if_pos k]
      exact ⟨fun k2 => (by cases k2), fun k2 => absurd rfl (hn3 x k x k2)⟩
    · rw [if_neg k, h.on x, em x]
      simp [k]
  · have hi := h.inc
    rw [hs, stkT_cons] at hi
    exact (List.pairwise_append.1 hi).2.1
  · intro x hx
    obtain ⟨h1, y, hy, h2, h3⟩ := h.low x ((em x).2 (.inr hx))
    refine ⟨h1, y, ?_, h2, h3⟩
    rcases (em y).1 hy with k | k
    · have := ht.2 y k x hx
      omega
    · exact k
  · have kk : ∀ {c : Option Nat} {l : List Fm}, (∀ v, c = some v → 0 ≤ s.ord v ∧ (v ∈ stkT r → False)) → Pth (FrOk g s) c l → Pth (FrOk g ⟨s.ord, s.low, fun x => if x ∈ f.all then (s.fnd : Int) else s.cmp x, fun x => if x ∈ f.all then false else s.ons x, r, s.rea, s.fnd + 1⟩) none l := by
      intro c l hc hp
      cases l with
      | nil => trivial
      | cons f' l' =>
        obtain ⟨q1, q2⟩ := hp
        refine ⟨⟨fun _ k => (by cases k), q1.rch, q1.lo, fun x hx v hv => ⟨(q1.dn x hx v hv).1, fun k => (q1.dn x hx v hv).2 ((em v).2 (.inr k))⟩, fun j hj v hv => ?_⟩, ?_⟩
        · refine .inr ?_
          rcases q1.ed j hj v hv with k | k
          · exact ⟨(hc v k).1, fun k2 => ((hc v k).2 k2).elim⟩
          · exact ⟨k.1, fun k2 => k.2 ((em v).2 (.inr k2))⟩
        · refine Pth.mono (fun c f'' _ q => ⟨q.up, q.rch, q.lo, fun x hx v hv => ⟨(q.dn x hx v hv).1, fun k => (q.dn x hx v hv).2 ((em v).2 (.inr k))⟩, fun j hj v hv => ?_⟩) q2
          rcases q.ed j hj v hv with k | k
          · exact .inl k
          · exact .inr ⟨k.1, fun k2 => k.2 ((em v).2 (.inr k2))⟩
    exact kk (fun v k => by
      cases k
      exact ⟨h.vis _ ((em _).2 (.inl hfa)), fun k2 => hn3 f.node hfa f.node k2 rfl⟩) hr
  · intro x hx hxs
    show (∀ v ∈ g x, 0 ≤ s.ord v ∧ v ∉ stkT r) ∧ 0 ≤ (if x ∈ f.all then (s.fnd : Int) else s.cmp x) ∧ (if x ∈ f.all then (s.fnd : Int) else s.cmp x) < ((s.fnd + 1 : Nat) : Int)
    by_cases k : x ∈ f.all
    · rw [if_pos k]
      exact ⟨hcl x k, by omega, by omega⟩
    · rw [if_neg k]
      have hns : x ∉ stkT s.seg := (split x hxs).resolve_left k
      obtain ⟨h1, h2, h3⟩ := h.asg x hx hns
      exact ⟨fun v hv => ⟨(h1 v hv).1, fun q => (h1 v hv).2 ((em v).2 (.inr q))⟩, h2, by omega⟩
  · intro a b ha has hb hbs
    show (if a ∈ f.all then (s.fnd : Int) else s.cmp a) = (if b ∈ f.all then (s.fnd : Int) else s.cmp b) ↔ _
    have no : ∀ x y, x ∉ stkT s.seg → 0 ≤ s.ord x → y ∈ f.all → ¬ Rch g x y := fun x y hx ho hy hr =>
      (Rch.closed (P := fun a => 0 ≤ s.ord a ∧ a ∉ stkT s.seg) hA hr ⟨ho, hx⟩).2 ((em y).2 (.inl hy))
    by_cases ka : a ∈ f.all
    · by_cases kb : b ∈ f.all
      · rw [if_pos ka, if_pos kb]
        exact ⟨fun _ => ⟨(hb2 a ka).trans (hout b kb), (hb2 b kb).trans (hout a ka)⟩, fun _ => rfl⟩
      · rw [if_pos ka, if_neg kb]
        have hns : b ∉ stkT s.seg := (split b hbs).resolve_left kb
        have := (h.asg b hb hns).2.2
        exact ⟨fun k => by omega, fun k => absurd k.2 (no b a hns hb ka)⟩
    · have hna : a ∉ stkT s.seg := (split a has).resolve_left ka
      by_cases kb : b ∈ f.all
      · rw [if_neg ka, if_pos kb]
        have := (h.asg a ha hna).2.2
        exact ⟨fun k => by omega, fun k => absurd k.1 (no a b hna ha kb)⟩
      · rw [if_neg ka, if_neg kb]
        exact h.cls a b ha hna hb ((split b hbs).resolve_left kb)
  · exact h.rea
  · show s.fnd + 1 + (stkT r).length + sm (unv s.ord) n ≤ n
    have := h.cnt
    rw [hs, stkT_cons, List.length_append] at this
    have : 0 < f.all.length := List.length_pos_of_mem hfa
    omega

/-- How much is left to do. -/
def wgt (g : Nat → List Nat) (ord : Nat → Int) (i : Nat) : Nat := if ord i < 0 then (g i).length + 2 else 0
def lft (g : Nat → List Nat) (n : Nat) (s : TS) : Nat := sm (wgt g s.ord) n + (s.seg.map fun f => (g f.node).length - f.edge + 1).sum

theorem lft_reach {g : Nat → List Nat} {n : Nat} {ord : Nat → Int} {v : Nat} {a : Nat} (hn : v < n) (hv : ord v < 0) : sm (wgt g ord) n = sm (wgt g (upd ord v a)) n + ((g v).length + 2) := by
  have := sm_upd (f := wgt g ord) (f' := wgt g (upd ord v (a : Int))) (v := v) (x := (g v).length + 2) (by
    show (if ord v < 0 then (g v).length + 2 else 0) = (if upd ord v (a : Int) v < 0 then (g v).length + 2 else 0) + _
    rw [if_pos hv, show upd ord v (a : Int) v = a from if_pos rfl, if_neg (by omega)]; omega) (fun i hi => by
    show (if ord i < 0 then _ else 0) = (if upd ord v (a : Int) i < 0 then _ else 0)
    rw [show upd ord v (a : Int) i = ord i from if_neg hi]) n
  rw [if_pos hn] at this
  exact this

end Go.Proofs.Qxb6615025a
