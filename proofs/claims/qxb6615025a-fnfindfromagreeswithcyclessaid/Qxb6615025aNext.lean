-- The cycler between two hubs: what is found, what is kept.
import Derived.Test.Qxb6615025aAgree
import Derived.Test.Qxb6615025aTarjan
namespace Go.Proofs.Qxb6615025a
open Go.RowKit Go.MapKept

/-- A component's walks from its hub, in a fresh cycler. -/
def gF (gp : Nat → List Nat) (same : Nat → Nat → Bool) (n h : Nat) : GS := growL (same h) gp (n + 1) 0 (grow0 (fun _ => -2) (fun _ => 0) h)
def stp (g gp : Nat → List Nat) (same : Nat → Nat → Bool) (n h : Nat) : Int := stepL (same h) (gF gp same n h).dp (g h) (-1)
/-- The cycle of v in the component of the hub h. -/
def cyH (g gp : Nat → List Nat) (same : Nat → Nat → Bool) (n h v : Nat) : List Nat := cycP (gF gp same n h) (gF g same n h) h (stp g gp same n h).toNat v

def kyV (ks : List ByteArray) (v : Nat) : Value := .string (ks.getD v ByteArray.empty)

/-- What is found in the components whose hubs are below i. -/
structure Fds (n lead : Nat) (ks : List ByteArray) (g gp : Nat → List Nat) (same : Nat → Nat → Bool) (H : Nat) (w : World) (bad : Nat → Prop) (i : Nat) (fm : Value → Option Value) : Prop where
  each : ∀ h v, h < i → h < n → (∀ h', h' < h → same h' h = false) → v < n → same h v = true → 0 ≤ stp g gp same n h →
    ∃ a cc, fm (kyV ks v) = some (.agg #[.int .i64 ((cyH g gp same n h v).length : Int), .slice a ((cyH g gp same n h v).take lead).length cc]) ∧
      Sl w 9 1 a ((cyH g gp same n h v).take lead).length cc (names ks ((cyH g gp same n h v).take lead)) ∧ ∀ b, blk a = some b → H ≤ b ∧ b < w.heap.size ∧ ¬ bad b
  none : ∀ k, IsKey .string k → (∀ h v, h < i → h < n → (∀ h', h' < h → same h' h = false) → v < n → same h v = true → 0 ≤ stp g gp same n h → k ≠ kyV ks v) → fm k = none

/-- The cycler when the hubs below i are done. -/
structure Lp (E0 : Env) (g gp : Nat → List Nat) (same : Nat → Nat → Bool) (T H i : Nat) (E : Env) (w : World) (path : List Nat) (pao : Option Addr) (pc : Nat) (ao : Option Addr) (c cnt : Nat) (fm : Value → Option Value) : Prop where
  eq : ∃ a1 a2 a3 a4 b1 b2 b3 b4, E = (E0.withIn a1 a2 a3 a4).withOut b1 b2 b3 b4
  cs : CS E w path pao pc ao c
  map : MapAt .string w E0.bm cnt fm
  el : ∀ b ∈ E0.blocks, b < T
  tw : T ≤ w.heap.size
  ht : H ≤ T
  pT : ∀ b, blk pao = some b ∨ blk ao = some b → T ≤ b
  fre : ∀ v, v < E0.n → (∀ h, h < i → same h v = false) → E.fri v = -2 ∧ E.fro v = -2
  pth : ∀ u ∈ path, 0 < E.szi u ∧ ∃ h, h < i ∧ same h u = true
  fnd : Fds E0.n E0.lead E0.keys g gp same H w (fun b => b ∈ E0.blocks ∨ blk pao = some b ∨ blk ao = some b) i fm

theorem ky_inj {ks : List ByteArray} (hk : ks.Nodup) {u v : Nat} (hu : u < ks.length) (hv : v < ks.length) (h : kyV ks u = kyV ks v) : u = v := by
  unfold kyV at h
  simp only [Value.string.injEq, List.getD_eq_getElem?_getD, List.getElem?_eq_getElem hu, List.getElem?_eq_getElem hv, Option.getD_some] at h
  exact (List.getElem?_inj hu hk).1 (by rw [List.getElem?_eq_getElem hu, List.getElem?_eq_getElem hv, h])

set_option maxRecDepth 10000 in
theorem find_next (E0 : Env) (g gp : Nat → List Nat) (same : Nat → Nat → Bool) (T H i : Nat) (E : Env) (w : World) (path : List Nat) (pao : Option Addr) (pc : Nat) (ao : Option Addr) (c cnt : Nat) (fm : Value → Option Value)
    (bn bv : Nat) (ao1 ao2 : Nat → Option Addr) (c1 c2 : Nat → Nat) (f : Nat) (cap : Array Value)
    (kn : E0.keys.Nodup) (kl : E0.keys.length = E0.n) (hs : ∀ u v, u < E0.n → v < E0.n → (same u v = true ↔ Rch g u v ∧ Rch g v u))
    (gl : ∀ u, ∀ v ∈ g u, v < E0.n) (gr : ∀ u v, u ∈ gp v ↔ u < E0.n ∧ v ∈ g u) (al : ∀ i, i < E0.n → (g i).length ≤ 1048576) (al2 : ∀ i, i < E0.n → (gp i).length ≤ 1048576)
    (hi : i < E0.n) (first : ∀ h, h < i → same h i = false) (L : Lp E0 g gp same T H i E w path pao pc ao c cnt fm)
    (nv : E0.nextv = .slice (some ⟨bn, 0, none⟩) E0.n E0.n) (pv : E0.prevv = .slice (some ⟨bv, 0, none⟩) E0.n E0.n) (a1 : Adj w bn E0.n ao1 c1 g) (a2 : Adj w bv E0.n ao2 c2 gp)
    (s1 : ∀ b, b = bn ∨ (∃ i, i < E0.n ∧ blk (ao1 i) = some b) → b ∉ E0.blocks ∧ b < T) (s2 : ∀ b, b = bv ∨ (∃ i, i < E0.n ∧ blk (ao2 i) = some b) → b ∉ E0.blocks ∧ b < T)
    (hcf : ∀ args w', (callFunc f args).run Try.prog w' = .ok (.enter f args) w')
    (hw : ∀ v w', v < E0.n → Fr (fun b => b ∈ E0.blocks ∨ blk pao = some b ∨ blk ao = some b) w w' → Calls Try.prog f (#[.int .i64 v] ++ cap) w' fun e w'' => e = .returned (.bool (same i v)) ∧ ∃ k, w'' = w'.drewN k) :
    Calls Try.prog 29 #[.pointer (some ⟨E0.bc, 0, none⟩), .int .i64 i, .func (.func f) #[] cap] w fun e w' => e = .returned (.tuple #[]) ∧ Fr (fun b => b ∈ E0.blocks ∨ blk pao = some b ∨ blk ao = some b) w w' ∧
      ∃ E' path' pao' pc' ao' c' cnt' fm', Lp E0 g gp same T H (i + 1) E' w' path' pao' pc' ao' c' cnt' fm' ∧ (∀ b, blk pao' = some b ∨ blk ao' = some b → blk pao = some b ∨ blk ao = some b ∨ w.heap.size ≤ b) := by
  obtain ⟨x1, x2, x3, x4, y1, y2, y3, y4, hE⟩ := L.eq
  have en : E.n = E0.n := by rw [hE]; rfl
  have eb : E.blocks = E0.blocks := by rw [hE]; rfl
  have ebc : E.bc = E0.bc := by rw [hE]; rfl
  have ebm : E.bm = E0.bm := by rw [hE]; rfl
  have ek : E.keys = E0.keys := by rw [hE]; rfl
  have el : E.lead = E0.lead := by rw [hE]; rfl
  have sy : ∀ u v, u < E0.n → v < E0.n → same u v = true → same v u = true := fun u v hu hv q => (hs v u hv hu).2 ⟨((hs u v hu hv).1 q).2, ((hs u v hu hv).1 q).1⟩
  have tr : ∀ u v x, u < E0.n → v < E0.n → x < E0.n → same u v = true → same v x = true → same u x = true := fun u v x hu hv hx q1 q2 =>
    (hs u x hu hx).2 ⟨((hs u v hu hv).1 q1).1.trans ((hs v x hv hx).1 q2).1, ((hs v x hv hx).1 q2).2.trans ((hs u v hu hv).1 q1).2⟩
  have fr0 : ∀ v, v < E0.n → same i v = true → ∀ h, h < i → same h v = false := fun v hv q h hh => by
    cases q2 : same h v
    · rfl
    · have := tr h v i (by omega) hv hi q2 (sy i v hi hv q)
      rw [first h hh] at this
      cases this
  have fr1 := fun v hv q => L.fre v hv (fr0 v hv q)
  have hn : E0.n ≤ 1024 := en ▸ L.cs.nn
  have gpl : ∀ u, ∀ v ∈ gp u, v < E0.n := fun u v hv => ((gr v u).1 hv).1
  obtain ⟨G, hG⟩ : ∃ G, growL (same i) gp (E0.n + 1) 0 (grow0 E.fri E.dpi i) = G := ⟨_, rfl⟩
  obtain ⟨G', hG'⟩ : ∃ G, growL (same i) g (E0.n + 1) 0 (grow0 E.fro E.dpo i) = G := ⟨_, rfl⟩
  have hSc : Scene E0.n g gp (same i) i E.fri E.dpi E.fro E.dpo G G' := by
    refine ⟨hn, fun u _ => gl u, fun u v _ hu => (gr u v).1 hu, fun u v hu hv => (gr u v).2 ⟨hu, hv⟩, (hs i i hi hi).2 ⟨Rch.refl _, Rch.refl _⟩, hi, ?_, ?_, fun v hv q => ((hs i v hi hv).1 q).1, fun v hv q => ((hs i v hi hv).1 q).2, fun v hv q1 q2 => (hs i v hi hv).2 ⟨q1, q2⟩⟩
    · rw [← hG]; exact grow_tree (fun u _ => gpl u) hi (fun v hv q => (fr1 v hv q).1)
    · rw [← hG']; exact grow_tree (fun u _ => gl u) hi (fun v hv q => (fr1 v hv q).2)
  have aG : Ag E0.n (same i) G (gF gp same E0.n i) := by rw [← hG]; exact Ag.grow gpl _ _ (Ag.start fun v hv q => (fr1 v hv q).1)
  have aG' : Ag E0.n (same i) G' (gF g same E0.n i) := by rw [← hG']; exact Ag.grow gl _ _ (Ag.start fun v hv q => (fr1 v hv q).2)
  have hstp : stepL (same i) G.dp (g i) (-1) = stp g gp same E0.n i := hSc.step_agree aG
  obtain ⟨E4, hE4⟩ : ∃ E4, E4 = (E.withIn G.fr G.dp (sizeF G.fr G.rc E.szi) (posF G.fr G.rc (sizeF G.fr G.rc E.szi) E.psi)).withOut G'.fr G'.dp (sizeF G'.fr G'.rc E.szo) (posF G'.fr G'.rc (sizeF G'.fr G'.rc E.szo) E.pso) := ⟨_, rfl⟩
  obtain ⟨par, hD, _⟩ := hSc.T.deep
  obtain ⟨par', hD', _⟩ := hSc.T'.deep
  have hrl : G.rc.length ≤ E0.n := nodup_len E0.n _ hSc.T.nd hSc.T.lt
  have hrl' : G'.rc.length ≤ E0.n := nodup_len E0.n _ hSc.T'.nd hSc.T'.lt
  have pno : ∀ u ∈ path, u ∉ G.rc := fun u hu q => by
    obtain ⟨q1, q2⟩ := hSc.mem.1 q
    obtain ⟨h, hh, q3⟩ := (L.pth u hu).2
    rw [fr0 u q1 q2 h hh] at q3
    cases q3
  have hps : ∀ u, u ∉ G.rc → E4.psi u = E.psi u ∧ E4.szi u = E.szi u := fun u hu => by
    rw [hE4]
    exact ⟨posAt_out _ _ hu hD.ord.h0 _ (Nat.le_refl _), sizeAt_out hD.ord _ hu _ (Nat.le_refl _)⟩
  have hplan : 0 ≤ stepL (same i) G.dp (g i) (-1) → Plan E4 i (stepL (same i) G.dp (g i) (-1)).toNat path (odL G'.rc (posF G'.fr G'.rc (sizeF G'.fr G'.rc E.szo) E.pso)) (fun v => turnP G (upP G' v) v) (chP G G' i (stepL (same i) G.dp (g i) (-1)).toNat) (fun v => (cycP G G' i (stepL (same i) G.dp (g i) (-1)).toNat v).length) (fun v => (cycP G G' i (stepL (same i) G.dp (g i) (-1)).toNat v).take E4.lead) := fun hst => by
    obtain ⟨s1, s2⟩ := Scene.first hst
    exact hSc.plan s1 s2 (E := E4) (s0 := E.szi) (p0 := E.psi) (s1 := E.szo) (p1 := E.pso) (p00 := path) (by rw [hE4]; exact en) (by rw [hE4]; rfl) (by rw [hE4]; rfl) (by rw [hE4]; rfl) (by rw [hE4]; rfl) (by rw [hE4]; rfl) (by rw [hE4]; show E.keys.Nodup; rw [ek]; exact kn) (by rw [hE4]; show E.keys.length = E.n; rw [ek, en]; exact kl) (fun u hu => by rw [(hps u (pno u hu)).2]; exact (L.pth u hu).1)
  have hpi : 0 ≤ stepL (same i) G.dp (g i) (-1) → PreOk G.fr G.rc E.szi E.psi ∧ PreOk G'.fr G'.rc E.szo E.pso ∧ (∀ u ∈ path, E4.psi u = E.psi u ∧ E4.szi u = E.szi u) ∧ (odL G'.rc (posF G'.fr G'.rc (sizeF G'.fr G'.rc E.szo) E.pso)).length = G'.rc.length ∧
      (∀ k, k < (odL G'.rc (posF G'.fr G'.rc (sizeF G'.fr G'.rc E.szo) E.pso)).length → orderF G'.rc E4.pso k = ((odL G'.rc (posF G'.fr G'.rc (sizeF G'.fr G'.rc E.szo) E.pso)).getD k 0 : Int)) ∧
      Plan E4 i (stepL (same i) G.dp (g i) (-1)).toNat path (odL G'.rc (posF G'.fr G'.rc (sizeF G'.fr G'.rc E.szo) E.pso)) (fun v => turnP G (upP G' v) v) (chP G G' i (stepL (same i) G.dp (g i) (-1)).toNat) (fun v => (cycP G G' i (stepL (same i) G.dp (g i) (-1)).toNat v).length) (fun v => (cycP G G' i (stepL (same i) G.dp (g i) (-1)).toNat v).take E4.lead) := fun hst => by
    refine ⟨hD.preOk _ _ (by omega), hD'.preOk _ _ (by omega), fun u hu => hps u (pno u hu), odL_len _ _, fun k hk => ?_, hplan hst⟩
    rw [odL_len] at hk
    obtain ⟨j, _, _, h1, h2⟩ := hD'.od E.szo E.pso hk
    rw [h1, hE4]
    exact h2
  have hCall : Call E w bn bv ao1 ao2 c1 c2 g gp f cap (same i) (fun b => b ∈ E0.blocks ∨ blk pao = some b ∨ blk ao = some b) := by
    have npT : ∀ b, b < T → blk pao ≠ some b ∧ blk ao ≠ some b := fun b hb => ⟨fun q => by have := L.pT b (.inl q); omega, fun q => by have := L.pT b (.inr q); omega⟩
    refine ⟨by rw [hE]; exact nv, by rw [hE]; exact pv, by rw [en]; exact a1, by rw [en]; exact a2, fun j hj => ?_, fun j hj => ?_, fun b hb q => ?_, fun b hb q => ?_, hcf, fun v w' hv hf => ?_⟩
    · rw [en] at hj ⊢; exact ⟨gl j, al j hj⟩
    · rw [en] at hj ⊢; exact ⟨gpl j, al2 j hj⟩
    · rw [en] at hb
      obtain ⟨q1, q2⟩ := s1 b hb
      rcases q with q | q | q
      · exact q1 q
      · exact (npT b q2).1 q
      · exact (npT b q2).2 q
    · rw [en] at hb
      obtain ⟨q1, q2⟩ := s2 b hb
      rcases q with q | q | q
      · exact q1 q
      · exact (npT b q2).1 q
      · exact (npT b q2).2 q
    · rw [en] at hv
      exact hw v w' hv hf
  have tw := L.tw
  have key := findFrom_any E w path pao pc ao c bn bv ao1 ao2 c1 c2 g gp f cap (same i) (fun b => b ∈ E0.blocks ∨ blk pao = some b ∨ blk ao = some b) i G G' E4 _ _ _ _ _ cnt fm L.cs hCall (fun b q => .inl (eb ▸ q)) (fun b hb => .inr hb) (by rw [en]; exact hi) (by rw [ebm]; exact L.map) (fun b hb => by have := L.el b (eb ▸ hb); omega) (by rw [en]; exact hG) (by rw [en]; exact hG') hE4 hpi
  rw [ebc] at key
  refine key.mono ?_
  rintro e w' ⟨rfl, hF, hno, hyes⟩
  refine ⟨rfl, hF, ?_⟩
  have hsz := hF.size
  by_cases hst : stepL (same i) G.dp (g i) (-1) < 0
  · obtain ⟨k1, k2, k3⟩ := hno hst
    refine ⟨E.withIn G.fr G.dp E.szi E.psi, path, pao, pc, ao, c, cnt, fm, ⟨?_, k1, by rw [ebm] at k2; exact k2, L.el, by omega, L.ht, L.pT, ?_, ?_, ?_⟩, fun b hb => hb.elim .inl (fun q => .inr (.inl q))⟩
    · exact ⟨G.fr, G.dp, E.szi, E.psi, y1, y2, y3, y4, by rw [hE]; rfl⟩
    · intro v hv hno
      have q := L.fre v hv (fun h hh => hno h (by omega))
      refine ⟨?_, q.2⟩
      have : v ∉ G.rc := fun r => by
        have := (hSc.mem.1 r).2
        rw [hno i (by omega)] at this
        cases this
      exact (hSc.T.out v this).1.trans q.1
    · intro u hu
      obtain ⟨q1, h, q2, q3⟩ := L.pth u hu
      exact ⟨q1, h, by omega, q3⟩
    · refine ⟨fun h v hh hhn hf hv hsv hsp => ?_, fun k hk q => L.fnd.none k hk (fun h v hh => q h v (by omega))⟩
      by_cases hhi : h = i
      · subst hhi
        rw [hstp] at hst
        omega
      · obtain ⟨a, cc, q1, q2, q3⟩ := L.fnd.each h v (by omega) hhn hf hv hsv hsp
        refine ⟨a, cc, q1, q2.fr hF (fun b hb => (q3 b hb).2.2), fun b hb => ?_⟩
        obtain ⟨r1, r2, r3⟩ := q3 b hb
        exact ⟨r1, by omega, r3⟩
  · have hst2 : 0 ≤ stepL (same i) G.dp (g i) (-1) := by omega
    obtain ⟨pao', pc', ao', c', cnt', f', k1, k2, k3, k4, k5⟩ := hyes hst2
    have hpl := hplan hst2
    have hod : ∀ v, v ∈ odL G'.rc (posF G'.fr G'.rc (sizeF G'.fr G'.rc E.szo) E.pso) ↔ v < E0.n ∧ same i v = true := fun v => (hD'.odmem E.szo E.pso v).trans hSc.mem'
    have e3 : E4.lead = E0.lead := by rw [hE4]; exact el
    have e4 : E4.keys = E0.keys := by rw [hE4]; exact ek
    have ekey : ∀ v, E4.key v = kyV E0.keys v := fun v => by unfold Env.key kyV; rw [e4]
    have hnew : ∀ b, blk pao' = some b ∨ blk ao' = some b → blk pao = some b ∨ blk ao = some b ∨ w.heap.size ≤ b := fun b hb => by
      rcases hb with q | q
      · rcases k4 b q with r | r
        · exact .inl r
        · exact .inr (.inr r)
      · rcases k5 b q with r | r
        · exact .inr (.inl r)
        · exact .inr (.inr r)
    obtain ⟨sn1, sn2⟩ := Scene.first hst2
    refine ⟨E4, _, pao', pc', ao', c', cnt', f', ⟨?_, k1, by rw [ebm] at k2; exact k2, L.el, by omega, L.ht, ?_, ?_, ?_, ?_⟩, hnew⟩
    · exact ⟨_, _, _, _, _, _, _, _, by rw [hE4, hE]; rfl⟩
    · intro b hb
      rcases hnew b hb with q | q | q
      · exact L.pT b (.inl q)
      · exact L.pT b (.inr q)
      · omega
    · intro v hv hno
      have q := L.fre v hv (fun h hh => hno h (by omega))
      have n1 : ¬ (v < E0.n ∧ same i v = true) := fun r => by
        have := r.2
        rw [hno i (by omega)] at this
        cases this
      rw [hE4]
      exact ⟨(hSc.T.out v (fun r => n1 (hSc.mem.1 r))).1.trans q.1, (hSc.T'.out v (fun r => n1 (hSc.mem'.1 r))).1.trans q.2⟩
    · intro u hu
      have hur : u ∈ G'.rc := by
        obtain ⟨m, hm⟩ : ∃ m, G'.rc.length = m + 1 := ⟨G'.rc.length - 1, by have := hD'.ord.h0; omega⟩
        rw [odL_len, hm, show E4.dpo = G'.dp by rw [hE4]; rfl, hD'.paths E.szo E.pso path m (by omega)] at hu
        have hk : m < (odL G'.rc (posF G'.fr G'.rc (sizeF G'.fr G'.rc E.szo) E.pso)).length := by rw [odL_len]; omega
        have hin : (odL G'.rc (posF G'.fr G'.rc (sizeF G'.fr G'.rc E.szo) E.pso)).getD m 0 ∈ G'.rc := (hD'.odmem E.szo E.pso _).1 (by simp [List.getD_eq_getElem?_getD, List.getElem?_eq_getElem hk])
        exact hSc.T'.wys.sub _ hin u hu
      obtain ⟨q1, q2⟩ := hSc.mem'.1 hur
      refine ⟨?_, i, by omega, q2⟩
      obtain ⟨k, hk⟩ := List.mem_iff_getElem?.1 ((hod u).2 ⟨q1, q2⟩)
      have hk2 := (List.getElem?_eq_some_iff.1 hk).1
      have := (hpl.ps k hk2).2.1
      rw [List.getD_eq_getElem?_getD, hk] at this
      exact this
    · refine ⟨fun h v hh hhn hf hv hsv hsp => ?_, fun k hk q => ?_⟩
      · by_cases hhi : h = i
        · subst hhi
          obtain ⟨a, cc, q1, q2, q3⟩ := k3.each v ((hod v).2 ⟨hv, hsv⟩)
          have ecy : cycP G G' h (stepL (same h) G.dp (g h) (-1)).toNat v = cyH g gp same E0.n h v := by
            rw [hSc.cyc_agree aG aG' (sn := (stepL (same h) G.dp (g h) (-1)).toNat) ⟨gl h _ sn1, sn2⟩ hv hsv, hstp]
            rfl
          simp only [ekey, e3, e4, ecy] at q1 q2
          refine ⟨a, cc, q1, q2, fun b hb => ?_⟩
          obtain ⟨r1, r2, r3, r4⟩ := q3 b hb
          refine ⟨by have := L.ht; omega, r2, ?_⟩
          rintro (q | q | q)
          · have := L.el b q; omega
          · exact r3 q
          · exact r4 q
        · obtain ⟨a, cc, q1, q2, q3⟩ := L.fnd.each h v (by omega) hhn hf hv hsv hsp
          have hne : same i v = false := by
            cases q : same i v
            · rfl
            · have := fr0 v hv q h (by omega)
              rw [hsv] at this
              cases this
          refine ⟨a, cc, ?_, q2.fr hF (fun b hb => (q3 b hb).2.2), fun b hb => ?_⟩
          · rw [k3.rest (kyV E0.keys v) trivial (fun v' hv' q => ?_)]
            · exact q1
            · rw [ekey] at q
              obtain ⟨r1, r2⟩ := (hod v').1 hv'
              have := ky_inj kn (by rw [kl]; exact hv) (by rw [kl]; exact r1) q
              subst this
              rw [hne] at r2
              cases r2
          · obtain ⟨r1, r2, r3⟩ := q3 b hb
            refine ⟨r1, by omega, ?_⟩
            rintro (q | q)
            · exact r3 (.inl q)
            · rcases hnew b q with s | s | s
              · exact r3 (.inr (.inl s))
              · exact r3 (.inr (.inr s))
              · omega
      · rw [k3.rest k hk (fun v' hv' q2 => ?_)]
        · exact L.fnd.none k hk (fun h v hh => q h v (by omega))
        · obtain ⟨r1, r2⟩ := (hod v').1 hv'
          rw [ekey] at q2
          exact q i v' (by omega) hi first r1 r2 (by rw [← hstp]; exact hst2) q2
end Go.Proofs.Qxb6615025a
