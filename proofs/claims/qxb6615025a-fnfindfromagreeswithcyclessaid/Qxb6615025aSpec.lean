-- What Cycles gives each node, in plain words.
import Derived.Test.Qxb6615025aNext
import Derived.Test.Qxb6615025aPlain2
namespace Go.Proofs.Qxb6615025a
open Go.RowKit Go.MapKept

section
variable {g : Nat → List Nat} {n : Nat} {D : Nat → Int}

theorem Dst.rch (h : Dst g n D) : ∀ u v, u < n → v < n → (sameB D n u v = true ↔ Rch g u v ∧ Rch g v u) := fun _ _ hu hv => same_iff h hu hv

theorem same_self (h : Dst g n D) {v : Nat} (hv : v < n) : sameB D n v v = true := (same_iff h hv hv).2 ⟨⟨0, .zero⟩, ⟨0, .zero⟩⟩

theorem same_sy (h : Dst g n D) {u v : Nat} (hu : u < n) (hv : v < n) (q : sameB D n u v = true) : sameB D n v u = true :=
  same_trans h hu hv hu q (same_self h hu)

/-- The first node of v's component. -/
theorem least_spec (h : Dst g n D) {v : Nat} (hv : v < n) : leastN D n v < n ∧ sameB D n (leastN D n v) v = true ∧ ∀ h', h' < leastN D n v → sameB D n h' (leastN D n v) = false := by
  have hex : ∃ k, k < n ∧ sameB D n v k = true ∧ ∀ j, j < k → sameB D n v j = false := by
    have aux : ∀ m, m ≤ n → (∃ k, k < m ∧ sameB D n v k = true ∧ ∀ j, j < k → sameB D n v j = false) ∨ ∀ j, j < m → sameB D n v j = false := by
      intro m
      induction m with
      | zero => exact fun _ => .inr fun j hj => absurd hj (Nat.not_lt_zero _)
      | succ m ih =>
        intro hm
        rcases ih (by omega) with ⟨k, h1, h2, h3⟩ | q
        · exact .inl ⟨k, by omega, h2, h3⟩
        · cases e : sameB D n v m
          · refine .inr fun j hj => ?_
            by_cases e2 : j = m
            · subst e2; exact e
            · exact q j (by omega)
          · exact .inl ⟨m, by omega, e, q⟩
    rcases aux n (Nat.le_refl _) with q | q
    · exact q
    · have := q v hv
      rw [same_self h hv] at this
      cases this
  obtain ⟨k, h1, h2, h3⟩ := hex
  rw [leastN_hit h1 h3 h2]
  refine ⟨h1, same_sy h hv h1 h2, fun h' hh => ?_⟩
  cases e : sameB D n h' k
  · rfl
  · have := same_trans h h1 hv (by omega) (same_sy h hv h1 h2) (same_sy h (by omega) h1 e)
    rw [h3 h' hh] at this
    cases this

/-- A component lies on a cycle, or it does not. -/
theorem sc_same (h : Dst g n D) {u v : Nat} (hu : u < n) (hv : v < n) (q : sameB D n u v = true) (hs : 0 < scAt g D n n v) : 0 < scAt g D n n u := by
  obtain ⟨k, _, hw⟩ := h.sc_walk hv (by omega)
  obtain ⟨⟨i, h1⟩, ⟨j, h2⟩⟩ := (same_iff h hu hv).1 q
  have := (h1.trans hw).trans h2
  rw [show i + (k + 1) + j = (i + k + j) + 1 by omega] at this
  exact (h.sc_le hu this).1

theorem sc_stp (h : Dst g n D) {u : Nat} (hu : u < n) : 0 < scAt g D n n u ↔ 0 ≤ stp g (revAt g n) (sameB D n) n u := by
  have hSc := h.scene hu
  constructor
  · intro hp
    obtain ⟨k, _, hw⟩ := h.sc_walk hu (by omega)
    rcases Int.lt_or_le (stp g (revAt g n) (sameB D n) n u) 0 with q | q
    · exact (hSc.none q hw).elim
    · exact q
  · intro hp
    obtain ⟨s1, s2⟩ := Scene.first (G := gF (revAt g n) (sameB D n) n u) (g := g) (hub := u) (within := fun v => sameB D n u v) hp
    have hc := hSc.cyc s1 s2 hu hSc.wh
    have hw := hc.walk
    obtain ⟨k, hk⟩ : ∃ k, (cycP (gF (revAt g n) (sameB D n) n u) (gF g (sameB D n) n u) u (stp g (revAt g n) (sameB D n) n u).toNat u).length = k + 1 := ⟨_, (Nat.sub_add_cancel hc.pos).symm⟩
    have hw2 : Wk (fun a b => b ∈ g a) u (cycP (gF (revAt g n) (sameB D n) n u) (gF g (sameB D n) n u) u (stp g (revAt g n) (sameB D n) n u).toNat u).length u := hw
    rw [hk] at hw2
    exact (h.sc_le hu hw2).1

/-- What Cycles gives v. -/
def cyV (g : Nat → List Nat) (D : Nat → Int) (n v : Nat) : List Nat := cyH g (revAt g n) (sameB D n) n (leastN D n v) v

structure CyF (g : Nat → List Nat) (D : Nat → Int) (n h v : Nat) (cy : List Nat) : Prop where
  ok : CyD n D v cy
  sz : cy.length ≤ cnt D n v n
  len : cy.length ≤ n
  pos : 0 < scAt g D n n v
  sc : scAt g D n n v ≤ cy.length
  least : v = h → (cy.length : Int) = scAt g D n n v

theorem cyH_ok (h : Dst g n D) {u v : Nat} (hu : u < n) (hv : v < n) (hs : sameB D n u v = true) (hst : 0 ≤ stp g (revAt g n) (sameB D n) n u) : CyF g D n u v (cyH g (revAt g n) (sameB D n) n u v) := by
  have hSc := h.scene hu
  obtain ⟨s1, s2⟩ := Scene.first (G := gF (revAt g n) (sameB D n) n u) (g := g) (hub := u) (within := fun v => sameB D n u v) hst
  have hc : CycOK n g (fun v => sameB D n u v) v (cyH g (revAt g n) (sameB D n) n u v) := hSc.cyc s1 s2 hv hs
  have hl : (cyH g (revAt g n) (sameB D n) n u v).length ≤ n := hSc.cycLen s1 s2 hv hs
  have hCy := cycOK_CyD h hu hv hs hc
  have hw := hc.walk
  obtain ⟨k', hk'⟩ : ∃ k', (cyH g (revAt g n) (sameB D n) n u v).length = k' + 1 := ⟨_, (Nat.sub_add_cancel hc.pos).symm⟩
  have hw2 := hw
  rw [hk'] at hw2
  have h3 := h.sc_le hv hw2
  refine ⟨hCy, cnt_ge n _ hCy.nd (fun x hx => ⟨hCy.lt x hx, hCy.sm x hx⟩), hl, h3.1, by omega, fun e => ?_⟩
  subst e
  obtain ⟨k, hk1, hk2⟩ := h.sc_walk hv (by omega)
  have h1 : (cyH g (revAt g n) (sameB D n) n v v).length ≤ k + 1 := hSc.least hst hk2
  omega

theorem cyV_ok (h : Dst g n D) {v : Nat} (hv : v < n) (hs : 0 < scAt g D n n v) : CyF g D n (leastN D n v) v (cyV g D n v) := by
  obtain ⟨l1, l2, l3⟩ := least_spec h hv
  exact cyH_ok h l1 hv l2 ((sc_stp h l1).1 (sc_same h l1 hv l2 hs))

/-- The node of a component that sorts first: its own hub. -/
theorem cyV_hub (h : Dst g n D) {u v : Nat} (hu : u < n) (hv : v < n) (hl : leastN D n u = u) (hs : sameB D n u v = true) : cyV g D n v = cyH g (revAt g n) (sameB D n) n u v := by
  obtain ⟨l1, l2, l3⟩ := least_spec h hv
  have e : leastN D n v = u := by
    obtain ⟨m1, m2, m3⟩ := least_spec h hu
    rw [hl] at m1 m2 m3
    have hlu : sameB D n (leastN D n v) u = true := same_trans h hv l1 hu (same_sy h l1 hv l2) (same_sy h hu hv hs)
    rcases Nat.lt_trichotomy (leastN D n v) u with q | q | q
    · rw [m3 _ q] at hlu; cases hlu
    · exact q
    · have := same_sy h l1 hu hlu
      rw [l3 _ q] at this; cases this
  unfold cyV
  rw [e]

theorem fds_yes (h : Dst g n D) {lead H : Nat} {ks : List ByteArray} {w : World} {bad : Nat → Prop} {fm : Value → Option Value} (hF : Fds n lead ks g (revAt g n) (sameB D n) H w bad n fm) {v : Nat} (hv : v < n) (hs : 0 < scAt g D n n v) :
    ∃ a cc, fm (kyV ks v) = some (.agg #[.int .i64 ((cyV g D n v).length : Int), .slice a ((cyV g D n v).take lead).length cc]) ∧ Sl w 9 1 a ((cyV g D n v).take lead).length cc (names ks ((cyV g D n v).take lead)) ∧ ∀ b, blk a = some b → H ≤ b := by
  obtain ⟨l1, l2, l3⟩ := least_spec h hv
  obtain ⟨a, cc, q1, q2, q3⟩ := hF.each (leastN D n v) v l1 l1 l3 hv l2 ((sc_stp h l1).1 (sc_same h l1 hv l2 hs))
  exact ⟨a, cc, q1, q2, fun b hb => (q3 b hb).1⟩

theorem fds_none (h : Dst g n D) {lead H : Nat} {ks : List ByteArray} {w : World} {bad : Nat → Prop} {fm : Value → Option Value} (hF : Fds n lead ks g (revAt g n) (sameB D n) H w bad n fm) {k : Value} (hk : IsKey .string k) (hs : ∀ v, v < n → 0 < scAt g D n n v → k ≠ kyV ks v) : fm k = none := by
  refine hF.none k hk (fun u v hu hun hf hv huv hst => hs v hv ?_)
  exact sc_same h hv hun (same_sy h hun hv huv) ((sc_stp h hun).2 hst)

theorem fds_no (h : Dst g n D) {lead H : Nat} {ks : List ByteArray} {w : World} {bad : Nat → Prop} {fm : Value → Option Value} (hF : Fds n lead ks g (revAt g n) (sameB D n) H w bad n fm) (kn : ks.Nodup) (kl : ks.length = n) {v : Nat} (hv : v < n) (hs : ¬ 0 < scAt g D n n v) : fm (kyV ks v) = none :=
  fds_none h hF trivial (fun u hu hsu e => by
    have := ky_inj kn (by rw [kl]; exact hv) (by rw [kl]; exact hu) e
    subst this
    exact hs hsu)

/-- How many nodes below k lie on a cycle. -/
def onC (g : Nat → List Nat) (D : Nat → Int) (n k : Nat) : Nat := ((List.range k).filter fun v => decide (0 < scAt g D n n v)).length

theorem onC_succ (k : Nat) : onC g D n (k + 1) = onC g D n k + if 0 < scAt g D n n k then 1 else 0 := by
  unfold onC
  rw [List.range_succ, List.filter_append]
  by_cases h : 0 < scAt g D n n k <;> simp [h]

theorem onC_le (k : Nat) : onC g D n k ≤ k := by
  unfold onC
  exact Nat.le_trans (List.length_filter_le _ _) (by simp)

theorem ky_nodup {ks : List ByteArray} (hnd : ks.Nodup) (f : Nat → Bool) : (((List.range ks.length).filter f).map fun v => kyV ks v).Nodup := by
  unfold List.Nodup
  rw [List.pairwise_map]
  refine List.Pairwise.imp_of_mem ?_ (List.nodup_range.sublist List.filter_sublist)
  intro a b ha hb hne e
  simp only [List.mem_filter, List.mem_range] at ha hb
  exact hne (ky_inj hnd ha.1 hb.1 e)

theorem fds_count (h : Dst g n D) {lead H cn bmr : Nat} {ks : List ByteArray} {w : World} {bad : Nat → Prop} {fm : Value → Option Value} (hF : Fds n lead ks g (revAt g n) (sameB D n) H w bad n fm) (kn : ks.Nodup) (kl : ks.length = n) (hM : MapAt .string w bmr cn fm) : cn = onC g D n n := by
  have := hM.count (kl := ((List.range n).filter fun v => decide (0 < scAt g D n n v)).map fun v => kyV ks v) (by
      have := ky_nodup kn (fun v => decide (0 < scAt g D n n v))
      rw [kl] at this
      exact this) (fun k hk => by
      simp only [List.mem_map, List.mem_filter, List.mem_range, decide_eq_true_eq] at hk
      obtain ⟨u, ⟨hu, hfu⟩, rfl⟩ := hk
      obtain ⟨a, cc, h1, _⟩ := fds_yes h hF hu hfu
      exact ⟨trivial, by rw [h1]; simp⟩) (fun k hk hnk => fds_none h hF hk (fun v hv hsv e => hnk (by
      simp only [List.mem_map, List.mem_filter, List.mem_range, decide_eq_true_eq]
      exact ⟨v, ⟨hv, hsv⟩, e.symm⟩)))
  rw [this, List.length_map]
  rfl

theorem sc_bound (h : Dst g n D) {v : Nat} (hv : v < n) : scAt g D n n v ≤ 4096 ∧ 0 ≤ scAt g D n n v := by
  refine ⟨?_, h.sc_nonneg v⟩
  rcases (scAt_I (n := n) g D n (Nat.le_refl _)).z v with q | ⟨u, hu, _, _, q⟩
  · omega
  · rw [q, h.eq v u hv hu]
    have := (bfs_bound (g := g) (n := n) (u := v) (v := u) h.gl h.nn hv).2
    omega
end
end Go.Proofs.Qxb6615025a
