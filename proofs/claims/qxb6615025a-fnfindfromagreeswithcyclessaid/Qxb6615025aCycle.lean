/- The cycles that the two trees give. -/
import Derived.Test.Qxb6615025aWays
namespace Go.Proofs.Qxb6615025a

/-- Each step along l is one of R. -/
def Steps (R : Nat → Nat → Prop) (l : List Nat) : Prop := ∀ i, i + 1 < l.length → R (l.getD i 0) (l.getD (i + 1) 0)

theorem Steps.join {R : Nat → Nat → Prop} {a b : List Nat} {x : Nat} (h1 : Steps R (a ++ [x])) (h2 : Steps R (x :: b)) : Steps R (a ++ x :: b) := by
  intro i hi
  simp only [List.length_append, List.length_cons] at hi
  by_cases h : i + 1 ≤ a.length
  · have q := h1 i (by simp; omega)
    rw [getD_app_left (by omega)] at q
    rw [getD_app_left (by omega)]
    by_cases e : i + 1 < a.length
    · rw [getD_app_left (by omega)] at q ⊢
      exact q
    · rw [getD_app_right (by omega)] at q ⊢
      have : i + 1 - a.length = 0 := by omega
      rw [this] at q ⊢
      exact q
  · have q := h2 (i - a.length) (by simp; omega)
    rw [getD_app_right (by omega), getD_app_right (by omega)]
    rw [show i + 1 - a.length = i - a.length + 1 by omega]
    exact q

theorem Steps.drop {R : Nat → Nat → Prop} {l : List Nat} (h : Steps R l) (k : Nat) : Steps R (l.drop k) := by
  intro i hi
  simp only [List.length_drop] at hi
  have := h (k + i) (by omega)
  simp only [List.getD_eq_getElem?_getD, List.getElem?_drop] at this ⊢
  exact this

theorem Steps.mono {R R' : Nat → Nat → Prop} {l : List Nat} (h : Steps R l) (hr : ∀ a b, R a b → R' a b) : Steps R' l := fun i hi => hr _ _ (h i hi)

theorem getD_rev {l : List Nat} {i : Nat} (h : i < l.length) : l.reverse.getD i 0 = l.getD (l.length - 1 - i) 0 := by
  have : l.length - 1 - i < l.length := by omega
  simp [h, this]

theorem Steps.rev {R : Nat → Nat → Prop} {l : List Nat} (h : Steps R l) : Steps (fun a b => R b a) l.reverse := by
  intro i hi
  simp only [List.length_reverse] at hi
  show R (l.reverse.getD (i + 1) 0) (l.reverse.getD i 0)
  rw [getD_rev (i := i + 1) hi, getD_rev (i := i) (by omega)]
  have := h (l.length - 1 - (i + 1)) (by omega)
  rw [show l.length - 1 - (i + 1) + 1 = l.length - 1 - i by omega] at this
  exact this

theorem Steps.walk {R : Nat → Nat → Prop} {l : List Nat} (h : Steps R l) : ∀ k, k < l.length → Wk R (l.getD 0 0) k (l.getD k 0)
  | 0, _ => .zero
  | k + 1, hk => .snoc (h.walk k (by omega)) (h k hk)

theorem Deep.steps {fr dp : Nat → Int} {rc : List Nat} {par : Nat → Nat} (h : Deep fr dp rc par) {R : Nat → Nat → Prop} (hR : ∀ j, 0 < j → j < rc.length → R (rc.getD (par j) 0) (rc.getD j 0)) : ∀ j, j < rc.length → Steps R (wy fr dp (rc.getD j 0)) := by
  intro j
  induction j using Nat.strongRecOn with
  | _ j ih =>
    intro hj
    by_cases h0 : j = 0
    · subst h0
      rw [h.wy0]
      intro i hi
      simp at hi
    · obtain ⟨q, _⟩ := h.ord.pl j (by omega) hj
      have hi := ih _ q (by omega)
      rw [h.wyS (by omega) hj]
      by_cases h1 : par j = 0
      · rw [h1, h.wy0]
        intro i hi
        have : i = 0 := by simp at hi; omega
        subst this
        have := hR j (by omega) hj
        rw [h1] at this
        exact this
      · have e := h.wyS (j := par j) (by omega) (by omega)
        rw [e] at hi ⊢
        rw [List.append_assoc]
        refine hi.join ?_
        intro i hi
        have : i = 0 := by simp at hi; omega
        subst this
        exact hR j (by omega) hj

theorem nodup_rev {l : List Nat} (h : l.Nodup) : l.reverse.Nodup := by
  unfold List.Nodup at h ⊢
  rw [List.pairwise_reverse]
  exact h.imp (fun q => q.symm)

/-- A tree's ways, by node. -/
structure Wys (n root : Nat) (fr dp : Nat → Int) (rc : List Nat) (R : Nat → Nat → Prop) : Prop where
  nd : ∀ v ∈ rc, (wy fr dp v).Nodup
  sub : ∀ v ∈ rc, ∀ u ∈ wy fr dp v, u ∈ rc
  dp0 : ∀ v ∈ rc, 0 ≤ dp v
  len : ∀ v ∈ rc, (wy fr dp v).length = (dp v).toNat + 1
  nth : ∀ v ∈ rc, ∀ i, i < (wy fr dp v).length → dp ((wy fr dp v).getD i 0) = i
  st : ∀ v ∈ rc, Steps (fun a b => fr b = a ∧ R a b) (wy fr dp v)
  hd : ∀ v ∈ rc, (wy fr dp v).getD 0 0 = root
  la : ∀ v ∈ rc, (wy fr dp v).getD (dp v).toNat 0 = v
  rt : root ∈ rc
  r0 : dp root = 0
  lt : ∀ v ∈ rc, v < n
  rnd : rc.Nodup

theorem Tree.wys {n start : Nat} {within : Nat → Bool} {next : Nat → List Nat} {fr0 dp0 : Nat → Int} {s : GS} (h : Tree n start within next fr0 dp0 s) : Wys n start s.fr s.dp s.rc (fun a b => b ∈ next a) := by
  obtain ⟨par, hD, hN⟩ := h.deep
  obtain ⟨z1, z2⟩ := getD_some h.hd
  refine ⟨fun v hv => ?_, fun v hv u hu => ?_, fun v hv => ?_, fun v hv => ?_, fun v hv => ?_, fun v hv => ?_, fun v hv => ?_, fun v hv => ?_, List.mem_of_getElem? h.hd, h.ds, h.lt, h.nd⟩
  all_goals obtain ⟨j, hj, rfl⟩ := mem_getD hv
  · exact hD.wnd hj
  · obtain ⟨a, ha, _, rfl⟩ := (hD.mem u j hj).1 hu
    simp [ha]
  · exact hD.nonneg j hj
  · exact hD.len j hj
  · exact hD.nth j hj
  · exact hD.steps (R := fun a b => s.fr b = a ∧ b ∈ next a) (fun j q1 q2 => ⟨(hD.ord.pl j q1 q2).2, hN j q1 q2⟩) j hj
  · have := (hD.take (Anc.zero (fun j q1 q2 => (hD.ord.pl j q1 q2).1) j hj) hj).1
    rw [hD.d0, hD.wy0, z2] at this
    have e := congrArg (fun l => l.getD 0 0) this
    simpa using e
  · have hl := hD.len j hj
    by_cases h0 : j = 0
    · subst h0
      rw [hD.wy0, hD.d0]
      rfl
    · have e := hD.wyS (by omega) hj
      obtain ⟨q, _⟩ := hD.ord.pl j (by omega) hj
      have hl2 := hD.len (par j) (by omega)
      rw [e] at hl ⊢
      simp only [List.length_append, List.length_singleton] at hl
      rw [getD_app_right (by omega)]
      rw [show (s.dp (s.rc.getD j 0)).toNat - (wy s.fr s.dp (s.rc.getD (par j) 0)).length = 0 by omega]
      rfl

/-- The rest of a way down, walked upwards. -/
theorem chain_of {fr : Nat → Int} {n : Nat} {w : List Nat} (hnx : ∀ i, i + 1 < w.length → fr (w.getD (i + 1) 0) = (w.getD i 0 : Int)) (hnd : w.Nodup) (hlt : ∀ v ∈ w, v < n) (hlen : w.length ≤ 1024) {b : Nat} (hb : b < w.length) :
    ((w.drop (b + 1)).reverse ++ [w.getD b 0] = (w.drop b).reverse) ∧ Chain fr n ((w.drop (b + 1)).reverse) (w.getD (w.length - 1) 0) (w.getD b 0) := by
  have e : w.drop b = w.getD b 0 :: w.drop (b + 1) := by
    rw [List.drop_eq_getElem_cons hb]
    simp [hb]
  have e2 : (w.drop (b + 1)).reverse ++ [w.getD b 0] = (w.drop b).reverse := by rw [e]; simp
  have hg : ∀ i, i < w.length - b → (w.drop b).reverse.getD i 0 = w.getD (w.length - 1 - i) 0 := fun i hi => by
    rw [getD_rev (by simp; omega)]
    simp only [List.getD_eq_getElem?_getD, List.getElem?_drop, List.length_drop]
    congr 2
    omega
  refine ⟨e2, ?_, fun v hv => ?_, fun i hi => ?_, ?_⟩
  · rw [e2, hg 0 (by omega)]
    rfl
  · simp only [List.mem_reverse] at hv
    refine ⟨hlt v (List.mem_of_mem_drop hv), fun q => ?_⟩
    have : (w.drop b).Nodup := hnd.sublist (List.drop_sublist _ _)
    rw [e, List.nodup_cons] at this
    exact this.1 (q ▸ hv)
  · simp only [List.length_reverse, List.length_drop] at hi
    have : (w.drop (b + 1)).reverse.getD i 0 = (w.drop b).reverse.getD i 0 := by rw [← e2, getD_app_left (by simp; omega)]
    rw [this, e2, hg i (by omega), hg (i + 1) (by omega)]
    have := hnx (w.length - 1 - (i + 1)) (by omega)
    rw [show w.length - 1 - (i + 1) + 1 = w.length - 1 - i by omega] at this
    exact this
  · simp
    omega

/-- A cycle through v, of the nodes below n that within holds. -/
structure CycOK (n : Nat) (g : Nat → List Nat) (within : Nat → Bool) (v : Nat) (c : List Nat) : Prop where
  nd : c.Nodup
  inn : ∀ x ∈ c, x < n ∧ within x = true
  hd : c.getD 0 0 = v
  pos : 0 < c.length
  st : Steps (fun a b => b ∈ g a) (c ++ [v])

theorem CycOK.walk {n : Nat} {g : Nat → List Nat} {within : Nat → Bool} {v : Nat} {c : List Nat} (h : CycOK n g within v c) : Wk (fun a b => b ∈ g a) v c.length v := by
  have := h.st.walk c.length (by simp)
  rw [getD_app_left h.pos, h.hd, getD_app_right (Nat.le_refl _)] at this
  simpa using this

/-- Where findFrom stands: two trees, one along the edges and one against them. -/
structure Scene (n : Nat) (g gp : Nat → List Nat) (within : Nat → Bool) (hub : Nat) (fri dpi fro dpo : Nat → Int) (G G' : GS) : Prop where
  hn : n ≤ 1024
  gl : ∀ u, u < n → ∀ v ∈ g u, v < n
  rv : ∀ u v, v < n → u ∈ gp v → u < n ∧ v ∈ g u
  vr : ∀ u v, u < n → v ∈ g u → u ∈ gp v
  wh : within hub = true
  hb : hub < n
  T : Tree n hub within gp fri dpi G
  T' : Tree n hub within g fro dpo G'
  c1 : ∀ v, v < n → within v = true → ∃ k, Wk (fun a b => b ∈ g a) hub k v
  c2 : ∀ v, v < n → within v = true → ∃ k, Wk (fun a b => b ∈ g a) v k hub
  c3 : ∀ v, v < n → (∃ k, Wk (fun a b => b ∈ g a) hub k v) → (∃ k, Wk (fun a b => b ∈ g a) v k hub) → within v = true

section scene
variable {n : Nat} {g gp : Nat → List Nat} {within : Nat → Bool} {hub : Nat} {fri dpi fro dpo : Nat → Int} {G G' : GS}

theorem Wk.inside {n : Nat} {g : Nat → List Nat} (gl : ∀ u, u < n → ∀ v ∈ g u, v < n) {a b k : Nat} (h : Wk (fun a b => b ∈ g a) a k b) (ha : a < n) : b < n := by
  induction h with
  | zero => exact ha
  | snoc _ hr ih => exact gl _ ih _ hr

/-- A way from the hub into the component keeps to it. -/
theorem Scene.keep (h : Scene n g gp within hub fri dpi fro dpo G G') {k v : Nat} (hw : Wk (fun a b => b ∈ g a) hub k v) : (∃ j, Wk (fun a b => b ∈ g a) v j hub) → Wk (fun a b => b ∈ g a ∧ within b = true) hub k v := by
  induction hw with
  | zero => intro _; exact .zero
  | @snoc k b c hb hr ih =>
    rintro ⟨j, hj⟩
    have hbn := hb.inside h.gl h.hb
    refine .snoc (ih ⟨j + 1, .cons hr hj⟩) ⟨hr, h.c3 c (h.gl b hbn c hr) ⟨k + 1, .snoc hb hr⟩ ⟨j, hj⟩⟩

/-- A way from the component to the hub keeps to it; walked backwards. -/
theorem Scene.back (h : Scene n g gp within hub fri dpi fro dpo G G') : ∀ (k v : Nat), v < n → within v = true → Wk (fun a b => b ∈ g a) v k hub → Wk (fun a b => b ∈ gp a ∧ within b = true) hub k v
  | 0, v, _, _, hw => by cases hw; exact .zero
  | k + 1, v, hv, hi, hw => by
    obtain ⟨c, hc, hw2⟩ := hw.uncons
    have hcn := h.gl v hv c hc
    obtain ⟨i, hi2⟩ := h.c1 v hv hi
    exact .snoc (h.back k c hcn (h.c3 c hcn ⟨i + 1, .snoc hi2 hc⟩ ⟨k, hw2⟩) hw2) ⟨h.vr v c hv hc, hi⟩

theorem tree_in (hT : Tree n hub within g fro dpo G') (wh : within hub = true) {v : Nat} (hv : v ∈ G'.rc) : v < n ∧ within v = true := by
  refine ⟨hT.lt v hv, ?_⟩
  obtain ⟨j, hj⟩ := List.mem_iff_getElem?.1 hv
  by_cases h0 : j = 0
  · subst h0
    rw [hT.hd] at hj
    cases hj
    exact wh
  · exact (hT.wi j v hj (by omega)).1

theorem Scene.mem' (h : Scene n g gp within hub fri dpi fro dpo G G') {v : Nat} : v ∈ G'.rc ↔ v < n ∧ within v = true := by
  refine ⟨tree_in h.T' h.wh, fun ⟨h1, h2⟩ => ?_⟩
  obtain ⟨k, hk⟩ := h.c1 v h1 h2
  exact (h.T'.reach (h.keep hk (h.c2 v h1 h2))).1

theorem Scene.mem (h : Scene n g gp within hub fri dpi fro dpo G G') {v : Nat} : v ∈ G.rc ↔ v < n ∧ within v = true := by
  refine ⟨tree_in h.T h.wh, fun ⟨h1, h2⟩ => ?_⟩
  obtain ⟨k, hk⟩ := h.c2 v h1 h2
  exact (h.T.reach (h.back k v h1 h2 hk)).1

theorem Wys.small {n root : Nat} {fr dp : Nat → Int} {rc : List Nat} {R : Nat → Nat → Prop} (h : Wys n root fr dp rc R) {v : Nat} (hv : v ∈ rc) : (dp v).toNat + 1 ≤ n := by
  rw [← h.len v hv]
  exact nodup_len n _ (h.nd v hv) (fun x hx => h.lt x (h.sub v hv x hx))

/-- Where v's cycle turns. -/
def turnP (G : GS) (P : List Nat) (v : Nat) : Nat := (P.reverse.find? fun u => decide (u ∈ wy G.fr G.dp v)).getD 0

/-- The nodes of v's cycle ahead of the turn. -/
def chainP (G : GS) (v t : Nat) : List Nat := ((wy G.fr G.dp v).drop ((G.dp t).toNat + 1)).reverse

/-- The way down to v's parent. -/
def upP (G' : GS) (v : Nat) : List Nat := (wy G'.fr G'.dp v).dropLast

def cycP (G G' : GS) (hub sn v : Nat) : List Nat :=
  if v = hub then hub :: chainP G sn hub else chainP G v (turnP G (upP G' v) v) ++ (upP G' v).drop (G'.dp (turnP G (upP G' v) v)).toNat

theorem Scene.turn (h : Scene n g gp within hub fri dpi fro dpo G G') {v : Nat} (hv : v < n) (hi : within v = true) (hne : v ≠ hub) :
    ∃ A B t, upP G' v = A ++ t :: B ∧ turnP G (upP G' v) v = t ∧ (upP G' v).reverse.find? (fun u => decide (u ∈ wy G.fr G.dp v)) = some t ∧ t ∈ wy G.fr G.dp v ∧ (∀ x ∈ B, x ∉ wy G.fr G.dp v) ∧ A.length = (G'.dp t).toNat ∧
      (G'.dp t).toNat < (G'.dp v).toNat ∧ wy G'.fr G'.dp v = upP G' v ++ [v] ∧ t ∈ G.rc ∧ t ∈ G'.rc ∧ t ≠ v := by
  have W := h.T.wys
  have W' := h.T'.wys
  have m := h.mem.2 ⟨hv, hi⟩
  have m' := h.mem'.2 ⟨hv, hi⟩
  have hl := W'.len v m'
  have hla := W'.la v m'
  have hhd := W'.hd v m'
  have hd0 : 0 < (G'.dp v).toNat := by
    rcases Nat.eq_zero_or_pos (G'.dp v).toNat with q | q
    · rw [q, hhd] at hla
      exact absurd hla.symm hne
    · exact q
  have e : wy G'.fr G'.dp v = upP G' v ++ [v] := by
    have hne2 : wy G'.fr G'.dp v ≠ [] := by intro q; rw [q] at hl; simp at hl
    have := List.dropLast_concat_getLast hne2
    unfold upP
    conv => lhs; rw [← this]
    congr 1
    rw [List.getLast_eq_getElem]
    simp only [List.cons.injEq, and_true]
    have q : (wy G'.fr G'.dp v).getD (G'.dp v).toNat 0 = (wy G'.fr G'.dp v)[(wy G'.fr G'.dp v).length - 1]'(by omega) := by
      rw [List.getD_eq_getElem?_getD, List.getElem?_eq_getElem (by omega)]
      simp only [Option.getD_some]
      congr 1
      omega
    rw [← q, hla]
  have hul : (upP G' v).length = (G'.dp v).toNat := by
    have := congrArg List.length e
    simp at this
    omega
  have hhub : hub ∈ upP G' v := by
    rw [e, getD_app_left (by omega)] at hhd
    rw [← hhd]
    simp [show 0 < (upP G' v).length by omega]
  have hin : hub ∈ wy G.fr G.dp v := by
    have q := W.hd v m
    have q2 := W.len v m
    rw [← q]
    simp [show 0 < (wy G.fr G.dp v).length by omega]
  have hsome : ((upP G' v).reverse.find? fun u => decide (u ∈ wy G.fr G.dp v)).isSome := by
    rw [List.find?_isSome]
    exact ⟨hub, by simpa using hhub, by simpa using hin⟩
  obtain ⟨t, ht⟩ := Option.isSome_iff_exists.1 hsome
  obtain ⟨q1, xs, bs, q2, q3⟩ := List.find?_eq_some_iff_append.1 ht
  have e2 : upP G' v = bs.reverse ++ t :: xs.reverse := by
    have := congrArg List.reverse q2
    simpa using this
  have hdt : G'.dp t = (bs.reverse.length : Nat) := by
    have hb : bs.reverse.length < (wy G'.fr G'.dp v).length := by rw [e, e2]; simp
    have := W'.nth v m' bs.reverse.length hb
    rw [e, e2, List.append_assoc, getD_app_right (Nat.le_refl _), Nat.sub_self] at this
    exact this
  have htm : t ∈ upP G' v := by rw [e2]; simp
  have ht' : t ∈ G'.rc := W'.sub v m' t (by rw [e]; simp [htm])
  have htv : t ≠ v := by
    intro q
    have := W'.nd v m'
    rw [e, List.nodup_append] at this
    exact this.2.2 t htm v (by simp) q
  refine ⟨bs.reverse, xs.reverse, t, e2, by unfold turnP; rw [ht]; rfl, ht, by simpa using q1, fun x hx => ?_, by omega, ?_, e, h.mem.2 (h.mem'.1 ht'), ht', htv⟩
  · simp only [List.mem_reverse] at hx
    have := q3 x hx
    simpa using this
  · have := congrArg List.length e2
    simp only [List.length_append, List.length_cons] at this
    omega

theorem Scene.inway (h : Scene n g gp within hub fri dpi fro dpo G G') {v t : Nat} (hv : v ∈ G.rc) (ht : t ∈ wy G.fr G.dp v) :
    (G.dp t).toNat ≤ (G.dp v).toNat ∧ (wy G.fr G.dp v).getD (G.dp t).toNat 0 = t ∧ chainP G v t ++ [t] = ((wy G.fr G.dp v).drop (G.dp t).toNat).reverse ∧ Chain G.fr n (chainP G v t) v t ∧
    Steps (fun a b => b ∈ g a) (chainP G v t ++ [t]) ∧ (chainP G v t).length = (G.dp v).toNat - (G.dp t).toNat ∧ (chainP G v t ++ [t]).Nodup ∧ (∀ x ∈ chainP G v t, x ∈ wy G.fr G.dp v) := by
  have W := h.T.wys
  have hl := W.len v hv
  obtain ⟨i, hi, hit⟩ := mem_getD ht
  have hdi := W.nth v hv i hi
  rw [hit] at hdi
  have hti : (G.dp t).toNat = i := by omega
  have hw := W.small hv
  have hn := h.hn
  obtain ⟨r1, r2⟩ := chain_of (fr := G.fr) (n := n) (w := wy G.fr G.dp v) (fun j hj => (W.st v hv j hj).1) (W.nd v hv) (fun x hx => W.lt x (W.sub v hv x hx)) (by omega) hi
  have e1 : (wy G.fr G.dp v).getD ((wy G.fr G.dp v).length - 1) 0 = v := by
    rw [hl, Nat.add_sub_cancel]
    exact W.la v hv
  rw [e1, hit] at r2
  rw [hit] at r1
  unfold chainP
  rw [hti]
  refine ⟨by omega, hit, r1, r2, ?_, by simp; omega, ?_, fun x hx => ?_⟩
  · rw [r1]
    have hs : Steps (fun a b => a ∈ g b) (wy G.fr G.dp v) := by
      intro j hj
      have hm : (wy G.fr G.dp v).getD j 0 ∈ G.rc := W.sub v hv _ (by simp [show j < (wy G.fr G.dp v).length by omega])
      exact (h.rv _ _ (W.lt _ hm) (W.st v hv j hj).2).2
    exact (hs.drop i).rev
  · rw [r1]
    exact nodup_rev ((W.nd v hv).sublist (List.drop_sublist _ _))
  · simp only [List.mem_reverse] at hx
    exact List.mem_of_mem_drop hx

theorem Scene.cyc (h : Scene n g gp within hub fri dpi fro dpo G G') {sn : Nat} (hs : sn ∈ g hub) (hsw : within sn = true) {v : Nat} (hv : v < n) (hi : within v = true) : CycOK n g within v (cycP G G' hub sn v) := by
  have W := h.T.wys
  have W' := h.T'.wys
  have m := h.mem.2 ⟨hv, hi⟩
  have m' := h.mem'.2 ⟨hv, hi⟩
  unfold cycP
  split
  · rename_i e
    subst e
    have hsn := h.gl v h.hb sn hs
    have ms := h.mem.2 ⟨hsn, hsw⟩
    have hin : v ∈ wy G.fr G.dp sn := by
      have q := W.hd sn ms
      have q2 := W.len sn ms
      have mm : (wy G.fr G.dp sn).getD 0 0 ∈ wy G.fr G.dp sn := by simp [show 0 < (wy G.fr G.dp sn).length by omega]
      rwa [q] at mm
    obtain ⟨i1, i2, i3, i4, i5, i6, i7, i8⟩ := h.inway ms hin
    refine ⟨?_, fun x hx => ?_, rfl, by simp, ?_⟩
    · rw [List.nodup_append] at i7
      rw [List.nodup_cons]
      exact ⟨fun q => i7.2.2 _ q v (by simp) rfl, i7.1⟩
    · simp only [List.mem_cons] at hx
      rcases hx with rfl | hx
      · exact ⟨hv, hi⟩
      · exact h.mem.1 (W.sub sn ms x (i8 x hx))
    · rw [List.cons_append]
      intro j hj
      cases j with
      | zero =>
        have := i4.hd
        simp only [List.getD_cons_zero, List.getD_cons_succ]
        rw [this]
        exact hs
      | succ j =>
        simp only [List.getD_cons_succ]
        exact i5 j (by simpa using hj)
  · rename_i hne
    obtain ⟨A, B, t, e1, e2, _, e3, e4, e5, e6, e7, e8, e9, e10⟩ := h.turn hv hi hne
    rw [e2]
    obtain ⟨i1, i2, i3, i4, i5, i6, i7, i8⟩ := h.inway m e3
    have hdr : (upP G' v).drop (G'.dp t).toNat = t :: B := by
      rw [e1, ← e5, List.drop_left]
    rw [hdr]
    have hsub : ∀ x ∈ t :: B, x ∈ wy G'.fr G'.dp v := fun x hx => by
      rw [e7, e1]
      exact List.mem_append_left _ (List.mem_append_right _ hx)
    refine ⟨?_, fun x hx => ?_, ?_, by rw [List.length_append, List.length_cons]; omega, ?_⟩
    · have hnd2 : (t :: B).Nodup := by
        have := W'.nd v m'
        rw [e7, List.nodup_append] at this
        have := this.1
        rw [e1, List.nodup_append] at this
        exact this.2.1
      rw [List.nodup_append] at i7 ⊢
      refine ⟨i7.1, hnd2, fun a ha b hb q => ?_⟩
      subst q
      simp only [List.mem_cons] at hb
      rcases hb with rfl | hb
      · exact i7.2.2 a ha a (by simp) rfl
      · exact e4 a hb (i8 a ha)
    · rw [List.mem_append] at hx
      rcases hx with q | q
      · exact h.mem.1 (W.sub v m x (i8 x q))
      · exact h.mem'.1 (W'.sub v m' x (hsub x q))
    · have := i4.hd
      by_cases hc : 0 < (chainP G v t).length
      · rw [getD_app_left hc] at this ⊢
        exact this
      · have hc2 : chainP G v t = [] := by simpa using hc
        rw [hc2] at this ⊢
        exact this
    · rw [List.append_assoc, List.cons_append]
      refine i5.join ?_
      have := (W'.st v m').mono (R' := fun a b => b ∈ g a) (fun a b q => q.2)
      have := this.drop (G'.dp t).toNat
      rw [e7, e1, ← e5, List.append_assoc, List.drop_left, List.cons_append] at this
      exact this

theorem Scene.cycLen (h : Scene n g gp within hub fri dpi fro dpo G G') {sn : Nat} (hs : sn ∈ g hub) (hsw : within sn = true) {v : Nat} (hv : v < n) (hi : within v = true) : (cycP G G' hub sn v).length ≤ n := by
  have := h.cyc hs hsw hv hi
  exact nodup_len n _ this.nd (fun x hx => (this.inn x hx).1)
end scene
end Go.Proofs.Qxb6615025a
