/-
  The cycler in memory; leave and push said of it.
-/
import Derived.Test.Qxb6615025aLeave
import Derived.Test.Qxb6615025aStk
import Derived.Test.Qxb6615025aMaps
namespace Go.Proofs.Qxb6615025a
open Go.RowKit

/-- What stays as it is while findFrom's great loop runs. -/
structure Env where
  n : Nat
  lead : Nat
  bc : Nat
  bs : Nat
  bt : Nat
  bm : Nat
  bfi : Nat
  i0 : Nat
  i1 : Nat
  i2 : Nat
  i3 : Nat
  bfo : Nat
  o0 : Nat
  o1 : Nat
  o2 : Nat
  o3 : Nat
  aoi : Option Addr
  ci : Nat
  keys : List ByteArray
  nextv : Value
  prevv : Value
  fri : Nat → Int
  dpi : Nat → Int
  szi : Nat → Int
  psi : Nat → Int
  fro : Nat → Int
  dpo : Nat → Int
  szo : Nat → Int
  pso : Nat → Int

def Env.rest (E : Env) : List Nat := [E.bc, E.bs, E.bt, E.bfi, E.i0, E.i1, E.i2, E.i3, E.bfo, E.o0, E.o1, E.o2, E.o3]
def Env.blocks (E : Env) : List Nat := E.bm :: E.rest

theorem nd_ne {l : List Nat} (h : l.Nodup) {i j a b : Nat} (hi : l[i]? = some a) (hj : l[j]? = some b) (hij : i ≠ j) : a ≠ b := by
  intro e
  subst e
  have hl : i < l.length := (List.getElem?_eq_some_iff.1 hi).1
  exact hij ((List.getElem?_inj hl h).1 (hi.trans hj.symm))

/-- The cycler in memory. -/
structure CS (E : Env) (w : World) (path : List Nat) (pao : Option Addr) (pc : Nat) (ao : Option Addr) (c : Nat) : Prop where
  C : Rec w E.bc 61 (cyc (.slice E.aoi E.n E.ci) E.nextv E.prevv E.bfo E.bfi E.lead (.map (some E.bm)) (.slice pao path.length pc) E.bs)
  K : Sl w 9 1 E.aoi E.n E.ci (strs E.keys)
  Fi : Fo w E.bfi E.i0 E.i1 E.i2 E.i3 E.n E.fri E.dpi E.szi E.psi
  Fo : Fo w E.bfo E.o0 E.o1 E.o2 E.o3 E.n E.fro E.dpo E.szo E.pso
  I : Iv w E.bs E.bt E.n ao c (stk E.psi E.szi E.n path).1 (stk E.psi E.szi E.n path).2
  P : Sl w 3 1 pao path.length pc (ints path)
  nd : E.blocks.Nodup
  dk : ∀ g, blk E.aoi = some g → g ∉ E.blocks
  dp : ∀ g, blk pao = some g → g ∉ E.blocks ∧ blk E.aoi ≠ some g
  da : ∀ g, blk ao = some g → g ∉ E.blocks ∧ blk E.aoi ≠ some g
  dpa : ∀ g, blk pao = some g → blk ao ≠ some g
  fit : Fits E.psi E.szi E.n path
  pn : ∀ u ∈ path, u < E.n
  pl : path.length ≤ 1024
  nn : E.n ≤ 1024
  ll : E.lead < 9223372036854775808

theorem CS.fr {E : Env} {M : Nat → Prop} {w w' : World} {path : List Nat} {pao : Option Addr} {pc : Nat} {ao : Option Addr} {c : Nat} (h : CS E w path pao pc ao c) (hf : Fr M w w')
    (h1 : ∀ b ∈ E.rest, ¬ M b) (h2 : ∀ g, blk E.aoi = some g ∨ blk pao = some g ∨ blk ao = some g → ¬ M g) : CS E w' path pao pc ao c :=
  { C := h.C.fr hf (h1 _ (by simp [Env.rest])), K := h.K.fr hf (fun g hg => h2 g (.inl hg)),
    Fi := h.Fi.fr hf (fun b hb => h1 b (List.mem_of_mem_take (i := 8) (List.mem_of_mem_drop (i := 3) hb))),
    Fo := h.Fo.fr hf (fun b hb => h1 b (List.mem_of_mem_drop (i := 8) hb)),
    I := h.I.fr hf (h1 _ (by simp [Env.rest])) (h1 _ (by simp [Env.rest])) (fun g hg => h2 g (.inr (.inr hg))), P := h.P.fr hf (fun g hg => h2 g (.inr (.inl hg))),
    nd := h.nd, dk := h.dk, dp := h.dp, da := h.da, dpa := h.dpa, fit := h.fit, pn := h.pn, pl := h.pl, nn := h.nn, ll := h.ll }

theorem CS.drew {E : Env} {w : World} {path : List Nat} {pao : Option Addr} {pc : Nat} {ao : Option Addr} {c : Nat} (h : CS E w path pao pc ao c) : CS E w.drew path pao pc ao c :=
  h.fr (M := Nothing) ((Fr.refl _ w).drew) (fun _ _ q => q) (fun _ _ q => q)
theorem CS.drewN {E : Env} {w : World} {path : List Nat} {pao : Option Addr} {pc : Nat} {ao : Option Addr} {c : Nat} (h : CS E w path pao pc ao c) (k : Nat) : CS E (w.drewN k) path pao pc ao c :=
  h.fr (M := Nothing) ((Fr.refl _ w).drewN k) (fun _ _ q => q) (fun _ _ q => q)

/-- leave, said of the cycler. -/
theorem CS.leave {E : Env} {w : World} {p0 : List Nat} {u : Nat} {pao : Option Addr} {pc : Nat} {ao : Option Addr} {c : Nat} (h : CS E w (p0 ++ [u]) pao pc ao c) (hheld : ∀ v ∈ p0 ++ [u], 0 < E.szi v) :
    Calls Try.prog 39 #[.pointer (some ⟨E.bc, 0, none⟩)] w fun e w' => e = .returned (.tuple #[]) ∧ CS E w' p0 pao pc ao c ∧ Fr (fun k => k = E.bs ∨ k = E.bt ∨ k = E.bc) w w' := by
  have hlt := h.I.held
  obtain ⟨hf0, hf1, hf2, hf3⟩ := h.fit.snoc
  obtain ⟨lo, hlo⟩ : ∃ lo : Nat, E.psi u = lo := ⟨(E.psi u).toNat, by omega⟩
  obtain ⟨sz, hsz⟩ : ∃ sz : Nat, E.szi u = sz := ⟨(E.szi u).toNat, by omega⟩
  obtain ⟨q1, q2, q3, q4⟩ := stk_pop h.fit hlo hsz
  have hun : u < E.n := h.pn u (by simp)
  have hpos := hheld u (by simp)
  have hnn := h.nn
  have hpl := h.pl
  have hlen := stk_len h.nn (p0 ++ [u]) h.fit
  have hne : nodes E.n lo (lo + sz) ≠ [] := by
    intro hnil
    have := (nodes_ups (n := E.n) (lo := lo) (hi := lo + sz) (p := lo) (by omega) (by omega)).2 (by omega)
    obtain ⟨y, _, hy⟩ := this
    rw [hnil] at hy
    simp at hy
  have hnl : 0 < (nodes E.n lo (lo + sz)).length := List.length_pos_iff.2 hne
  obtain ⟨bp, hbp⟩ : ∃ bp, pao = some ⟨bp, 0, none⟩ := by
    rcases h.P.form with ⟨_, h0, _⟩ | ⟨g, cur, h1, _⟩
    · simp at h0
    · exact ⟨g, h1⟩
  subst hbp
  have hnd := (List.nodup_cons.1 h.nd).2
  have hbpn := (h.dp bp rfl).1
  have hl1 : (p0 ++ [u]).length = p0.length + 1 := by simp
  simp at hpl hlen
  have hC := h.C
  have hP := h.P
  rw [hl1] at hC hP
  refine (leave_any E.bc (.slice E.aoi E.n E.ci) E.nextv E.prevv E.bfo E.bfi E.lead (.map (some E.bm)) bp pc p0 u E.bs E.bt E.n E.i0 E.i1 E.i2 E.i3 E.fri E.dpi E.szi E.psi ao c _ _ lo sz w
    hC hP hun h.nn (by omega) h.Fi hlo hsz (by omega) h.I (by omega) (by omega) q2 q1 ?_ ?_ ?_).mono ?_
  · intro b hb
    simp at hb
    rcases hb with rfl | rfl | rfl | rfl | rfl
    · exact ⟨nd_ne hnd (i := 0) (j := 1) rfl rfl (by decide), nd_ne hnd (i := 0) (j := 2) rfl rfl (by decide)⟩
    · exact ⟨fun q => hbpn (by simp [Env.blocks, Env.rest, q]), fun q => hbpn (by simp [Env.blocks, Env.rest, q])⟩
    · exact ⟨nd_ne hnd (i := 3) (j := 1) rfl rfl (by decide), nd_ne hnd (i := 3) (j := 2) rfl rfl (by decide)⟩
    · exact ⟨nd_ne hnd (i := 6) (j := 1) rfl rfl (by decide), nd_ne hnd (i := 6) (j := 2) rfl rfl (by decide)⟩
    · exact ⟨nd_ne hnd (i := 7) (j := 1) rfl rfl (by decide), nd_ne hnd (i := 7) (j := 2) rfl rfl (by decide)⟩
  · exact fun q => hbpn (by simp [Env.blocks, Env.rest, q])
  · exact fun q => (h.da E.bc q).1 (by simp [Env.blocks, Env.rest])
  · rintro e w' ⟨rfl, g1, g2, g3, g4⟩
    refine ⟨rfl, ?_, g4⟩
    rw [q3, q4] at g3
    have keep : ∀ b ∈ E.rest.drop 3, ¬ (b = E.bs ∨ b = E.bt ∨ b = E.bc) := by
      intro b hb
      have hnd3 : (E.rest.take 3 ++ E.rest.drop 3).Nodup := by rw [List.take_append_drop]; exact hnd
      have := (List.nodup_append.1 hnd3).2.2
      rintro (q | q | q)
      · exact this E.bs (by simp [Env.rest]) b hb q.symm
      · exact this E.bt (by simp [Env.rest]) b hb q.symm
      · exact this E.bc (by simp [Env.rest]) b hb q.symm
    have out : ∀ g, g ∉ E.blocks → ¬ (g = E.bs ∨ g = E.bt ∨ g = E.bc) := by
      rintro g hg (q | q | q) <;> exact hg (by simp [Env.blocks, Env.rest, q])
    exact { C := g1, K := h.K.fr g4 (fun g hg => out g (h.dk g hg)), Fi := h.Fi.fr g4 (fun b hb => keep b (List.mem_of_mem_take (i := 5) hb)), Fo := h.Fo.fr g4 (fun b hb => keep b (List.mem_of_mem_drop (i := 5) hb)),
            I := g3, P := g2, nd := h.nd, dk := h.dk, dp := h.dp, da := h.da, dpa := h.dpa, fit := hf0, pn := fun x hx => h.pn x (by simp [hx]), pl := by omega, nn := h.nn, ll := h.ll }
/-- push, said of the cycler, behind the path's append. -/
theorem CS.push {E : Env} {w w1 : World} {path : List Nat} {v : Nat} {pao : Option Addr} {pc : Nat} {ao : Option Addr} {c : Nat} (h : CS E w path pao pc ao c) (hv : v < E.n) (hpl : path.length < 1024) {lo sz g c1 : Nat}
    (hlo : E.psi v = lo) (hsz : E.szi v = sz) (hls : lo + sz ≤ E.n) (hf : Fr (fun k => k = E.bc ∨ blk pao = some k) w w1)
    (hC : Rec w1 E.bc 61 (cyc (.slice E.aoi E.n E.ci) E.nextv E.prevv E.bfo E.bfi E.lead (.map (some E.bm)) (.slice (some ⟨g, 0, none⟩) (path.length + 1) c1) E.bs))
    (hP : Sl w1 3 1 (some ⟨g, 0, none⟩) (path.length + 1) c1 (ints (path ++ [v]))) (hg : blk pao = some g ∨ w.heap.size ≤ g) (hE : ∀ b ∈ E.blocks, b < w.heap.size) :
    Calls Try.prog 43 #[.pointer (some ⟨E.bs, 0, none⟩), .int .i64 lo, .int .i64 ((lo : Int) + sz), .int .i64 v] w1 fun e w2 => e = .returned (.tuple #[]) ∧ ∃ ao2 c2, CS E w2 (path ++ [v]) (some ⟨g, 0, none⟩) c1 ao2 c2 ∧
      Fr (fun k => k = E.bs ∨ k = E.bt ∨ blk ao = some k) w1 w2 ∧ (blk ao2 = blk ao ∨ ∃ g, w1.heap.size ≤ g ∧ blk ao2 = some g) := by
  have hnn := h.nn
  have hlen := stk_len h.nn path h.fit
  have hnd := (List.nodup_cons.1 h.nd).2
  have out : ∀ b ∈ E.rest.drop 1, ¬ (b = E.bc ∨ blk pao = some b) := by
    rintro b hb (q | q)
    · have hnd3 : (E.rest.take 1 ++ E.rest.drop 1).Nodup := by rw [List.take_append_drop]; exact hnd
      exact (List.nodup_append.1 hnd3).2.2 E.bc (by simp [Env.rest]) b hb q.symm
    · exact (h.dp b q).1 (List.mem_cons_of_mem _ (List.mem_of_mem_drop hb))
  have hkey : ∀ k, blk E.aoi = some k → ¬ (k = E.bc ∨ blk pao = some k) := by
    rintro k hk (q | q)
    · exact h.dk k hk (by simp [Env.blocks, Env.rest, q])
    · exact (h.dp k q).2 hk
  have hheld : ∀ k, blk ao = some k → ¬ (k = E.bc ∨ blk pao = some k) := by
    rintro k hk (q | q)
    · exact (h.da k hk).1 (by simp [Env.blocks, Env.rest, q])
    · exact h.dpa k q hk
  have hgb : g ∉ E.blocks ∧ blk E.aoi ≠ some g ∧ blk ao ≠ some g := by
    rcases hg with q | q
    · exact ⟨(h.dp g q).1, (h.dp g q).2, h.dpa g q⟩
    · refine ⟨fun hm => by have := hE g hm; omega, fun hm => by have := h.K.lt hm; omega, fun hm => by have := h.I.held.lt hm; omega⟩
  have hI1 := h.I.fr hf (out _ (by simp [Env.rest])) (out _ (by simp [Env.rest])) hheld
  have hpu := push_any E.bs E.bt E.n ao c _ _ lo (lo + sz) (v : Int) w1 hI1 h.nn (by omega) hls (by have := h.pl; omega)
  rw [Int.natCast_add] at hpu
  refine hpu.mono ?_
  rintro e w2 ⟨rfl, ao2, c2, g1, g2, g3⟩
  refine ⟨rfl, ao2, c2, ?_, g2, g3⟩
  have keep : ∀ b ∈ [E.bc] ++ E.rest.drop 3, ¬ (b = E.bs ∨ b = E.bt ∨ blk ao = some b) := by
    intro b hb
    have hmem : b ∈ E.rest := by
      simp [Env.rest] at hb ⊢
      rcases hb with q | q
      · exact .inl q
      · exact .inr (.inr (.inr q))
    rintro (q | q | q)
    · simp only [List.mem_append, List.mem_singleton] at hb
      rcases hb with r | r
      · exact nd_ne hnd (i := 0) (j := 1) rfl rfl (by decide) (r.symm.trans q)
      · have hnd3 : (E.rest.take 3 ++ E.rest.drop 3).Nodup := by rw [List.take_append_drop]; exact hnd
        exact (List.nodup_append.1 hnd3).2.2 E.bs (by simp [Env.rest]) b r q.symm
    · simp only [List.mem_append, List.mem_singleton] at hb
      rcases hb with r | r
      · exact nd_ne hnd (i := 0) (j := 2) rfl rfl (by decide) (r.symm.trans q)
      · have hnd3 : (E.rest.take 3 ++ E.rest.drop 3).Nodup := by rw [List.take_append_drop]; exact hnd
        exact (List.nodup_append.1 hnd3).2.2 E.bt (by simp [Env.rest]) b r q.symm
    · exact (h.da b q).1 (List.mem_cons_of_mem _ hmem)
  have hkey2 : ∀ k, blk E.aoi = some k → ¬ (k = E.bs ∨ k = E.bt ∨ blk ao = some k) := by
    rintro k hk (q | q | q)
    · exact h.dk k hk (by simp [Env.blocks, Env.rest, q])
    · exact h.dk k hk (by simp [Env.blocks, Env.rest, q])
    · exact (h.da k q).2 hk
  have hg2 : ¬ (g = E.bs ∨ g = E.bt ∨ blk ao = some g) := by
    rintro (q | q | q)
    · exact hgb.1 (by simp [Env.blocks, Env.rest, q])
    · exact hgb.1 (by simp [Env.blocks, Env.rest, q])
    · exact hgb.2.2 q
  have hl1 : (path ++ [v]).length = path.length + 1 := by simp
  have hst : stk E.psi E.szi E.n (path ++ [v]) = (nodes E.n lo (lo + sz)).foldl (pushN v) (stk E.psi E.szi E.n path) := by rw [stk_snoc, hlo, hsz]; rfl
  have hsz1 := hf.size
  have hnew : ∀ k, blk ao2 = some k → blk ao = some k ∨ w1.heap.size ≤ k := by
    intro k hk
    rcases g3 with q | ⟨x, hx, q⟩
    · exact .inl (q ▸ hk)
    · rw [hk] at q; cases q; exact .inr hx
  exact {
    C := by rw [hl1]; exact hC.fr g2 (keep _ (by simp))
    K := (h.K.fr hf hkey).fr g2 hkey2
    Fi := (h.Fi.fr hf (fun b hb => out b (List.mem_of_mem_drop (i := 2) (l := E.rest.drop 1) (List.mem_of_mem_take (i := 5) hb)))).fr g2 (fun b hb => keep b (List.mem_append_right _ (List.mem_of_mem_take (i := 5) hb)))
    Fo := (h.Fo.fr hf (fun b hb => out b (List.mem_of_mem_drop (i := 7) (l := E.rest.drop 1) hb))).fr g2 (fun b hb => keep b (List.mem_append_right _ (List.mem_of_mem_drop (i := 5) hb)))
    I := by rw [hst]; exact g1
    P := by rw [hl1]; exact hP.fr g2 (fun k hk => by simp [blk] at hk; subst hk; exact hg2)
    nd := h.nd
    dk := h.dk
    dp := fun k hk => by simp [blk] at hk; subst hk; exact ⟨hgb.1, hgb.2.1⟩
    da := fun k hk => by
      rcases hnew k hk with q | q
      · exact h.da k q
      · exact ⟨fun hm => by have := hE k hm; omega, fun hm => by have := h.K.lt hm; omega⟩
    dpa := fun k hk q => by
      simp [blk] at hk
      subst hk
      rcases hnew g q with r | r
      · exact hgb.2.2 r
      · have := hP.lt rfl
        simp at this
        omega
    fit := fun u hu => by
      simp at hu
      rcases hu with hu | rfl
      · exact h.fit u hu
      · omega
    pn := fun u hu => by
      simp at hu
      rcases hu with hu | rfl
      · exact h.pn u hu
      · exact hv
    pl := by rw [hl1]; omega
    nn := h.nn
    ll := h.ll }
end Go.Proofs.Qxb6615025a
