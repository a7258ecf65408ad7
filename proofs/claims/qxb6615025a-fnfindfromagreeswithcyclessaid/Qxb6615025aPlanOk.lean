/- The plan of findFrom's great loop holds. -/
import Derived.Test.Qxb6615025aCycle
namespace Go.Proofs.Qxb6615025a

theorem find_congr {p q : Nat → Bool} : ∀ {l : List Nat}, (∀ x ∈ l, p x = q x) → l.find? p = l.find? q
  | [], _ => rfl
  | a :: l, h => by
    rw [List.find?_cons, List.find?_cons, h a (by simp), find_congr (fun x hx => h x (by simp [hx]))]

theorem stepL_spec (within : Nat → Bool) (dp : Nat → Int) : ∀ (l : List Nat) (s : Int) (D : List Nat), (s < 0 → ∀ v ∈ D, within v = false) → (0 ≤ s → s.toNat ∈ D ∧ within s.toNat = true ∧ ∀ v ∈ D, within v = true → dp s.toNat ≤ dp v) →
    (stepL within dp l s < 0 → ∀ v ∈ D ++ l, within v = false) ∧ (0 ≤ stepL within dp l s → (stepL within dp l s).toNat ∈ D ++ l ∧ within (stepL within dp l s).toNat = true ∧ ∀ v ∈ D ++ l, within v = true → dp (stepL within dp l s).toNat ≤ dp v)
  | [], s, D, h1, h2 => by simpa [stepL] using ⟨h1, h2⟩
  | a :: l, s, D, h1, h2 => by
    have := stepL_spec within dp l (if within a = true ∧ (s < 0 ∨ dp a < dp s.toNat) then (a : Int) else s) (D ++ [a]) ?_ ?_
    · rw [List.append_assoc] at this
      exact this
    · intro hs v hv
      split at hs
      · omega
      · rename_i hc
        simp only [List.mem_append, List.mem_singleton] at hv
        rcases hv with hv | rfl
        · exact h1 hs v hv
        · cases hw : within v with
          | false => rfl
          | true => exact absurd ⟨hw, .inl hs⟩ hc
    · intro hs
      split at hs
      · rename_i hc
        rw [if_pos hc]
        refine ⟨by simp, by simpa using hc.1, fun v hv hw => ?_⟩
        simp only [List.mem_append, List.mem_singleton] at hv
        simp only [Int.toNat_natCast]
        rcases hv with hv | rfl
        · by_cases h0 : s < 0
          · rw [h1 h0 v hv] at hw
            cases hw
          · have := (h2 (by omega)).2.2 v hv hw
            have := hc.2
            omega
        · exact Int.le_refl _
      · rename_i hc
        rw [if_neg hc]
        obtain ⟨q1, q2, q3⟩ := h2 hs
        refine ⟨by simp [q1], q2, fun v hv hw => ?_⟩
        simp only [List.mem_append, List.mem_singleton] at hv
        rcases hv with hv | rfl
        · exact q3 v hv hw
        · have : ¬ (s < 0 ∨ dp v < dp s.toNat) := fun q => hc ⟨hw, q⟩
          omega

theorem take_two (a b : List Nat) (k : Nat) : (a ++ b).take k = a.take k ++ b.take (k - (a.take k).length) := by
  rw [List.take_append, List.length_take]
  congr 2
  omega

section scene
variable {n : Nat} {g gp : Nat → List Nat} {within : Nat → Bool} {hub : Nat} {fri dpi fro dpo : Nat → Int} {G G' : GS}

def chP (G G' : GS) (hub sn v : Nat) : List Nat := if v = hub then chainP G sn hub else chainP G v (turnP G (upP G' v) v)

theorem Scene.plan (h : Scene n g gp within hub fri dpi fro dpo G G') {sn : Nat} (hs : sn ∈ g hub) (hsw : within sn = true) {E : Env} {s0 p0 s1 p1 : Nat → Int} {p00 : List Nat} (e1 : E.n = n) (e2 : E.fri = G.fr) (e3 : E.dpi = G.dp)
    (e4 : E.szi = sizeF G.fr G.rc s0) (e5 : E.psi = posF G.fr G.rc (sizeF G.fr G.rc s0) p0) (e6 : E.dpo = G'.dp) (kn : E.keys.Nodup) (kl : E.keys.length = E.n) (hsz : ∀ u ∈ p00, 0 < E.szi u) :
    Plan E hub sn p00 (odL G'.rc (posF G'.fr G'.rc (sizeF G'.fr G'.rc s1) p1)) (fun v => turnP G (upP G' v) v) (chP G G' hub sn) (fun v => (cycP G G' hub sn v).length) (fun v => (cycP G G' hub sn v).take E.lead) := by
  obtain ⟨par, hD, _⟩ := h.T.deep
  obtain ⟨par', hD', _⟩ := h.T'.deep
  have hL := hD.laid s0 p0
  have W := h.T.wys
  have W' := h.T'.wys
  have hn := h.hn
  have hrl : G.rc.length ≤ n := nodup_len n _ W.rnd W.lt
  have hmem : ∀ k, k < (odL G'.rc (posF G'.fr G'.rc (sizeF G'.fr G'.rc s1) p1)).length → (odL G'.rc (posF G'.fr G'.rc (sizeF G'.fr G'.rc s1) p1)).getD k 0 ∈ G'.rc ∧
      wy G'.fr G'.dp ((odL G'.rc (posF G'.fr G'.rc (sizeF G'.fr G'.rc s1) p1)).getD k 0) = (paths G'.dp p00 (odL G'.rc (posF G'.fr G'.rc (sizeF G'.fr G'.rc s1) p1)) k).take (G'.dp ((odL G'.rc (posF G'.fr G'.rc (sizeF G'.fr G'.rc s1) p1)).getD k 0)).toNat ++ [(odL G'.rc (posF G'.fr G'.rc (sizeF G'.fr G'.rc s1) p1)).getD k 0] := fun k hk => by
    refine ⟨(hD'.odmem s1 p1 _).1 ?_, hD'.above s1 p1 p00 (by rwa [odL_len] at hk)⟩
    simp [List.getD_eq_getElem?_getD, List.getElem?_eq_getElem hk]
  have hub_in : ∀ v ∈ G.rc, hub ∈ wy G.fr G.dp v := fun v hv => by
    have q := W.hd v hv
    have q2 := W.len v hv
    have mm : (wy G.fr G.dp v).getD 0 0 ∈ wy G.fr G.dp v := by simp [show 0 < (wy G.fr G.dp v).length by omega]
    rwa [q] at mm
  have hnd := hD'.odnd s1 p1
  generalize odL G'.rc (posF G'.fr G'.rc (sizeF G'.fr G'.rc s1) p1) = od at hmem hnd ⊢
  refine ⟨hnd, kn, kl, fun k hk => ?_, fun k hk => ?_, hsz, fun k hk => ?_, fun k hk => ?_, fun k hk hv => ?_, fun k hk hv => ?_⟩
  · rw [e1]
    exact W'.lt _ (hmem k hk).1
  · obtain ⟨m1, m2⟩ := hmem k hk
    rw [e6]
    have q1 := W'.dp0 _ m1
    have q2 := W'.len _ m1
    have q3 := W'.small m1
    have q4 := congrArg List.length m2
    simp only [List.length_append, List.length_take, List.length_singleton] at q4
    omega
  · obtain ⟨m1, m2⟩ := hmem k hk
    have := hL.bnd _ (h.mem.2 (h.mem'.1 m1))
    rw [e4, e5, e1]
    omega
  · obtain ⟨m1, m2⟩ := hmem k hk
    obtain ⟨q1, q2⟩ := h.mem'.1 m1
    have := h.cycLen hs hsw q1 q2
    show (cycP G G' hub sn _).length ≤ 1024
    omega
  · have hsn := h.gl hub h.hb sn hs
    have ms := h.mem.2 ⟨hsn, hsw⟩
    obtain ⟨i1, i2, i3, i4, i5, i6, i7, i8⟩ := h.inway ms (hub_in sn ms)
    have d0 := W.dp0 sn ms
    have r0 := W.r0
    have ec : cycP G G' hub sn hub = hub :: chainP G sn hub := by simp [cycP]
    have eh : chP G G' hub sn hub = chainP G sn hub := by simp [chP]
    simp only [ec, eh]
    rw [e1, e2, e3]
    refine ⟨hsn, by simp, ?_, i4, ?_⟩
    · rw [List.length_cons, i6, r0]
      omega
    · exact take_two [hub] (chainP G sn hub) E.lead
  · obtain ⟨m1, m2⟩ := hmem k hk
    obtain ⟨v, hve⟩ : ∃ v, od.getD k 0 = v := ⟨_, rfl⟩
    rw [hve] at hv m1 m2 ⊢
    obtain ⟨q1, q2⟩ := h.mem'.1 m1
    have m := h.mem.2 ⟨q1, q2⟩
    obtain ⟨A, B, t, t1, t2, t0, t3, t4, t5, t6, t7, t8, t9, t10⟩ := h.turn q1 q2 hv
    obtain ⟨i1, i2, i3, i4, i5, i6, i7, i8⟩ := h.inway m t3
    have hup : (paths G'.dp p00 od k).take (G'.dp v).toNat = upP G' v := by
      rw [t7] at m2
      exact (List.append_cancel_right m2).symm
    have ec : cycP G G' hub sn v = chainP G v t ++ (upP G' v).drop (G'.dp t).toNat := by simp only [cycP, if_neg hv, t2]
    have eh : chP G G' hub sn v = chainP G v t := by simp only [chP, if_neg hv, t2]
    simp only [ec, eh, t2]
    rw [e6, hup]
    have dv := W'.dp0 v m1
    have dt := W'.dp0 t t9
    have av := W.dp0 v m
    have at' := W.dp0 t t8
    have hul : (upP G' v).length = (G'.dp v).toNat := by
      have q := congrArg List.length t7
      have q2 := W'.len v m1
      simp only [List.length_append, List.length_singleton] at q
      omega
    have sm1 := W.small m
    refine ⟨(G'.dp t).toNat, (G.dp v).toNat, (G.dp t).toNat, ?_, ?_, by omega, by omega, ?_, ?_, by omega, i1, ?_, ?_, ?_⟩
    · have hpv := hL.bnd v m
      have hmP : ∀ u ∈ upP G' v, u ∈ G.rc := fun u hu => h.mem.2 (h.mem'.1 (W'.sub v m1 u (by rw [t7]; exact List.mem_append_left _ hu)))
      have := stk_last (ps := E.psi) (sz := E.szi) (n := E.n) (p := (E.psi v).toNat) (by rw [e5, e1]; omega) (upP G' v) (fun u hu => by
        have := hL.bnd u (hmP u hu)
        rw [e4, e5, e1]
        omega)
      rw [this]
      rw [find_congr (q := fun u => decide (u ∈ wy G.fr G.dp v)) (fun u hu => ?_), t0]
      · rfl
      · have := hL.inn u (hmP u (by simpa using hu)) v m
        rw [decide_eq_decide, ← this, e4, e5]
        omega
    · rw [e1]
      exact W.lt t t8
    · rw [e3]; omega
    · rw [e3]; omega
    · rw [List.length_append, List.length_drop, i6, hul]
      omega
    · rw [e1, e2]
      exact i4
    · exact take_two _ _ _

/-- The hub's cycle is a shortest one through it. -/
theorem Scene.least (h : Scene n g gp within hub fri dpi fro dpo G G') (hst : 0 ≤ stepL within G.dp (g hub) (-1)) {k : Nat} (hw : Wk (fun a b => b ∈ g a) hub (k + 1) hub) :
    (cycP G G' hub (stepL within G.dp (g hub) (-1)).toNat hub).length ≤ k + 1 := by
  obtain ⟨s1, s2, s3⟩ := (stepL_spec within G.dp (g hub) (-1) [] (fun _ v hv => by simp at hv) (fun q => by omega)).2 hst
  rw [List.nil_append] at s1 s3
  obtain ⟨c, hc, hw2⟩ := hw.uncons
  have hcn := h.gl hub h.hb c hc
  have hcw := h.c3 c hcn ⟨1, .one hc⟩ ⟨k, hw2⟩
  obtain ⟨_, r2⟩ := h.T.reach (h.back k c hcn hcw hw2)
  have r3 := s3 c hc hcw
  have W := h.T.wys
  have hsn := h.gl hub h.hb _ s1
  have ms := h.mem.2 ⟨hsn, s2⟩
  have hin : hub ∈ wy G.fr G.dp (stepL within G.dp (g hub) (-1)).toNat := by
    have q := W.hd _ ms
    have q2 := W.len _ ms
    have mm : (wy G.fr G.dp (stepL within G.dp (g hub) (-1)).toNat).getD 0 0 ∈ wy G.fr G.dp (stepL within G.dp (g hub) (-1)).toNat := by simp [show 0 < (wy G.fr G.dp (stepL within G.dp (g hub) (-1)).toNat).length by omega]
    rwa [q] at mm
  obtain ⟨i1, i2, i3, i4, i5, i6, i7, i8⟩ := h.inway ms hin
  have ec : cycP G G' hub (stepL within G.dp (g hub) (-1)).toNat hub = hub :: chainP G (stepL within G.dp (g hub) (-1)).toNat hub := by simp [cycP]
  rw [ec, List.length_cons, i6]
  have d0 := W.dp0 _ ms
  omega

/-- No first step: no cycle through the hub. -/
theorem Scene.none (h : Scene n g gp within hub fri dpi fro dpo G G') (hst : stepL within G.dp (g hub) (-1) < 0) {k : Nat} (hw : Wk (fun a b => b ∈ g a) hub (k + 1) hub) : False := by
  have hs := (stepL_spec within G.dp (g hub) (-1) [] (fun _ v hv => by simp at hv) (fun q => by omega)).1 hst
  rw [List.nil_append] at hs
  obtain ⟨c, hc, hw2⟩ := hw.uncons
  have hcn := h.gl hub h.hb c hc
  have := h.c3 c hcn ⟨1, .one hc⟩ ⟨k, hw2⟩
  rw [hs c hc] at this
  cases this

theorem Scene.first (hst : 0 ≤ stepL within G.dp (g hub) (-1)) : (stepL within G.dp (g hub) (-1)).toNat ∈ g hub ∧ within (stepL within G.dp (g hub) (-1)).toNat = true := by
  obtain ⟨s1, s2, _⟩ := (stepL_spec within G.dp (g hub) (-1) [] (fun _ v hv => by simp at hv) (fun q => by omega)).2 hst
  exact ⟨s1, s2⟩
end scene
end Go.Proofs.Qxb6615025a
