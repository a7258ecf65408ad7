/- What findFrom's great loop meets: the plan, and what has been found. -/
import Derived.Test.Qxb6615025aCyc
namespace Go.Proofs.Qxb6615025a
open Go.RowKit

theorem stk_congr {ps sz ps' sz' : Nat → Int} {n : Nat} : ∀ (path : List Nat) (s : (Nat → Int) × List (Int × Int)), (∀ u ∈ path, ps' u = ps u ∧ sz' u = sz u) →
    path.foldl (fun s u => (nodes n (ps' u).toNat ((ps' u).toNat + (sz' u).toNat)).foldl (pushN u) s) s = path.foldl (fun s u => (nodes n (ps u).toNat ((ps u).toNat + (sz u).toNat)).foldl (pushN u) s) s
  | [], _, _ => rfl
  | u :: path, s, h => by
    have hu := h u (by simp)
    rw [List.foldl_cons, List.foldl_cons, hu.1, hu.2]
    exact stk_congr path _ (fun x hx => h x (by simp [hx]))

def Env.withIn (E : Env) (fr dp sz ps : Nat → Int) : Env := { E with fri := fr, dpi := dp, szi := sz, psi := ps }
def Env.withOut (E : Env) (fr dp sz ps : Nat → Int) : Env := { E with fro := fr, dpo := dp, szo := sz, pso := ps }

theorem CS.setIn {E : Env} {w w' : World} {path : List Nat} {pao : Option Addr} {pc : Nat} {ao : Option Addr} {c : Nat} (h : CS E w path pao pc ao c) {fr dp sz ps : Nat → Int}
    (hf : Fr (fun k => k ∈ [E.i0, E.i1, E.i2, E.i3]) w w') (hF : Qxb6615025a.Fo w' E.bfi E.i0 E.i1 E.i2 E.i3 E.n fr dp sz ps) (hp : ∀ u ∈ path, ps u = E.psi u ∧ sz u = E.szi u) :
    CS (E.withIn fr dp sz ps) w' path pao pc ao c := by
  have hnd := (List.nodup_cons.1 h.nd).2
  have hnd3 : (E.rest.take 4 ++ (E.rest.drop 4)).Nodup := by rw [List.take_append_drop]; exact hnd
  have hnd4 : ((E.rest.drop 4).take 4 ++ (E.rest.drop 4).drop 4).Nodup := by rw [List.take_append_drop]; exact (List.nodup_append.1 hnd3).2.1
  have k1 : ∀ b ∈ E.rest.take 4, b ∉ [E.i0, E.i1, E.i2, E.i3] := fun b hb q => (List.nodup_append.1 hnd3).2.2 b hb b (List.mem_of_mem_take (i := 4) (l := E.rest.drop 4) q) rfl
  have k2 : ∀ b ∈ (E.rest.drop 4).drop 4, b ∉ [E.i0, E.i1, E.i2, E.i3] := fun b hb q => (List.nodup_append.1 hnd4).2.2 b q b hb rfl
  have k3 : ∀ g, g ∉ E.blocks → g ∉ [E.i0, E.i1, E.i2, E.i3] := fun g hg q => hg (List.mem_cons_of_mem _ (List.mem_of_mem_drop (i := 4) (List.mem_of_mem_take (i := 4) (l := E.rest.drop 4) q)))
  exact {
    C := h.C.fr hf (k1 _ (by simp [Env.rest]))
    K := h.K.fr hf (fun g hg => k3 g (h.dk g hg))
    Fi := hF
    Fo := h.Fo.fr hf (fun b hb => k2 b hb)
    I := by
      have := h.I.fr hf (k1 _ (by simp [Env.rest])) (k1 _ (by simp [Env.rest])) (fun g hg => k3 g (h.da g hg).1)
      rw [show stk (E.withIn fr dp sz ps).psi (E.withIn fr dp sz ps).szi (E.withIn fr dp sz ps).n path = stk E.psi E.szi E.n path from stk_congr path _ hp]
      exact this
    P := h.P.fr hf (fun g hg => k3 g (h.dp g hg).1)
    nd := h.nd, dk := h.dk, dp := h.dp, da := h.da, dpa := h.dpa
    fit := fun u hu => by
      have := hp u hu
      have := h.fit u hu
      show 0 ≤ ps u ∧ 0 ≤ sz u ∧ ps u + sz u ≤ E.n
      omega
    pn := h.pn, pl := h.pl, nn := h.nn, ll := h.ll }

theorem CS.setOut {E : Env} {w w' : World} {path : List Nat} {pao : Option Addr} {pc : Nat} {ao : Option Addr} {c : Nat} (h : CS E w path pao pc ao c) {fr dp sz ps : Nat → Int}
    (hf : Fr (fun k => k ∈ [E.o0, E.o1, E.o2, E.o3]) w w') (hF : Qxb6615025a.Fo w' E.bfo E.o0 E.o1 E.o2 E.o3 E.n fr dp sz ps) :
    CS (E.withOut fr dp sz ps) w' path pao pc ao c := by
  have hnd := (List.nodup_cons.1 h.nd).2
  have hnd3 : (E.rest.take 9 ++ (E.rest.drop 9)).Nodup := by rw [List.take_append_drop]; exact hnd
  have k1 : ∀ b ∈ E.rest.take 9, b ∉ [E.o0, E.o1, E.o2, E.o3] := fun b hb q => (List.nodup_append.1 hnd3).2.2 b hb b q rfl
  have k3 : ∀ g, g ∉ E.blocks → g ∉ [E.o0, E.o1, E.o2, E.o3] := fun g hg q => hg (List.mem_cons_of_mem _ (List.mem_of_mem_drop (i := 9) q))
  exact {
    C := h.C.fr hf (k1 _ (by simp [Env.rest]))
    K := h.K.fr hf (fun g hg => k3 g (h.dk g hg))
    Fi := h.Fi.fr hf (fun b hb => k1 b (by simp [Env.rest] at hb ⊢; rcases hb with q | q | q | q | q <;> simp [q]))
    Fo := hF
    I := h.I.fr hf (k1 _ (by simp [Env.rest])) (k1 _ (by simp [Env.rest])) (fun g hg => k3 g (h.da g hg).1)
    P := h.P.fr hf (fun g hg => k3 g (h.dp g hg).1)
    nd := h.nd, dk := h.dk, dp := h.dp, da := h.da, dpa := h.dpa
    fit := h.fit, pn := h.pn, pl := h.pl, nn := h.nn, ll := h.ll }

/-- The first step of the hub's cycle. -/
def stepL (within : Nat → Bool) (dp : Nat → Int) (l : List Nat) (s : Int) : Int :=
  l.foldl (fun s v => if within v = true ∧ (s < 0 ∨ dp v < dp s.toNat) then (v : Int) else s) s

/-- What findFrom is called on. -/
structure Call (E : Env) (w : World) (bn bv : Nat) (ao1 ao2 : Nat → Option Addr) (c1 c2 : Nat → Nat) (g gp : Nat → List Nat) (f : Nat) (cap : Array Value) (within : Nat → Bool) (X : Nat → Prop) : Prop where
  nv : E.nextv = .slice (some ⟨bn, 0, none⟩) E.n E.n
  pv : E.prevv = .slice (some ⟨bv, 0, none⟩) E.n E.n
  a1 : Adj w bn E.n ao1 c1 g
  a2 : Adj w bv E.n ao2 c2 gp
  l1 : ∀ i, i < E.n → (∀ x ∈ g i, x < E.n) ∧ (g i).length ≤ 1048576
  l2 : ∀ i, i < E.n → (∀ x ∈ gp i, x < E.n) ∧ (gp i).length ≤ 1048576
  s1 : ∀ b, b = bn ∨ (∃ i, i < E.n ∧ blk (ao1 i) = some b) → ¬ X b
  s2 : ∀ b, b = bv ∨ (∃ i, i < E.n ∧ blk (ao2 i) = some b) → ¬ X b
  hcf : ∀ args w', (callFunc f args).run Try.prog w' = .ok (.enter f args) w'
  hw : ∀ v w', v < E.n → Fr X w w' → Calls Try.prog f (#[.int .i64 v] ++ cap) w' fun e w'' => e = .returned (.bool (within v)) ∧ ∃ k, w'' = w'.drewN k

theorem u28 : Try.prog.underlying 28 = some (.map 9 39) := by kernel_rfl
theorem u9 : Try.prog.underlying 9 = some .string := by kernel_rfl

/-- What preorder asks of a walk's tree. -/
structure PreOk (fr : Nat → Int) (rc : List Nat) (size pos : Nat → Int) : Prop where
  hfr : ∀ k, 0 < k → k < rc.length → ∃ i, i < k ∧ fr (rc.getD k 0) = (rc.getD i 0 : Int)
  hS : ∀ m, m ≤ rc.length - 1 → ∀ v ∈ rc, 0 ≤ sizeAt fr rc size m v ∧ sizeAt fr rc size m v ≤ 4096
  hP : ∀ m, m ≤ rc.length - 1 → ∀ j, j ≤ m → 0 ≤ posAt fr rc (sizeF fr rc size) pos m (rc.getD j 0) ∧ posAt fr rc (sizeF fr rc size) pos m (rc.getD j 0) ≤ 4096
  hL : ∀ v ∈ rc, posF fr rc (sizeF fr rc size) pos v < rc.length
  h0 : 0 < rc.length

/-- A way along fr from start to stop: the nodes ahead of stop. -/
structure Chain (fr : Nat → Int) (n : Nat) (ps : List Nat) (start stop : Nat) : Prop where
  hd : (ps ++ [stop]).getD 0 0 = start
  lt : ∀ v ∈ ps, v < n ∧ v ≠ stop
  nx : ∀ i, i < ps.length → fr (ps.getD i 0) = ((ps ++ [stop]).getD (i + 1) 0 : Int)
  le : ps.length ≤ 1024

/-- The path when k nodes of the order have been walked. -/
def paths (dpo : Nat → Int) (p00 od : List Nat) (k : Nat) : List Nat := (od.take k).foldl (fun path v => path.take (dpo v).toNat ++ [v]) p00

/-- What the great loop meets at each node. -/
structure Plan (E : Env) (hub sn : Nat) (p00 od : List Nat) (tr : Nat → Nat) (ch : Nat → List Nat) (L : Nat → Nat) (ld : Nat → List Nat) : Prop where
  nodup : od.Nodup
  kn : E.keys.Nodup
  kl : E.keys.length = E.n
  lt : ∀ k, k < od.length → od.getD k 0 < E.n
  dp : ∀ k, k < od.length → 0 ≤ E.dpo (od.getD k 0) ∧ E.dpo (od.getD k 0) ≤ (paths E.dpo p00 od k).length ∧ E.dpo (od.getD k 0) < 1024
  sz0 : ∀ u ∈ p00, 0 < E.szi u
  ps : ∀ k, k < od.length → 0 ≤ E.psi (od.getD k 0) ∧ 0 < E.szi (od.getD k 0) ∧ E.psi (od.getD k 0) + E.szi (od.getD k 0) ≤ E.n
  len : ∀ k, k < od.length → L (od.getD k 0) ≤ 1024
  hu : ∀ k, k < od.length → od.getD k 0 = hub → sn < E.n ∧ 1 ≤ L hub ∧ E.dpi sn = (L hub : Int) - 1 ∧ Chain E.fri E.n (ch hub) sn hub ∧ ld hub = [hub].take E.lead ++ (ch hub).take (E.lead - ([hub].take E.lead).length)
  oth : ∀ k, k < od.length → od.getD k 0 ≠ hub → ∃ tn a b : Nat, lastV (stk E.psi E.szi E.n ((paths E.dpo p00 od k).take (E.dpo (od.getD k 0)).toNat)).1 (stk E.psi E.szi E.n ((paths E.dpo p00 od k).take (E.dpo (od.getD k 0)).toNat)).2 ((E.psi (od.getD k 0)).toNat + E.n) = (tr (od.getD k 0) : Int) ∧
    tr (od.getD k 0) < E.n ∧ E.dpo (tr (od.getD k 0)) = tn ∧ (tn : Int) < E.dpo (od.getD k 0) ∧ E.dpi (od.getD k 0) = a ∧ E.dpi (tr (od.getD k 0)) = b ∧ a ≤ 1024 ∧ b ≤ a ∧ (L (od.getD k 0) : Int) = a - b + E.dpo (od.getD k 0) - tn ∧
    Chain E.fri E.n (ch (od.getD k 0)) (od.getD k 0) (tr (od.getD k 0)) ∧
    ld (od.getD k 0) = (ch (od.getD k 0)).take E.lead ++ (((paths E.dpo p00 od k).take (E.dpo (od.getD k 0)).toNat).drop tn).take (E.lead - ((ch (od.getD k 0)).take E.lead).length)

def Env.key (E : Env) (v : Nat) : Value := .string (E.keys.getD v ByteArray.empty)

/-- What has been found. -/
structure Got (E : Env) (H : Nat) (w : World) (pao ao : Option Addr) (done : List Nat) (L : Nat → Nat) (ld : Nat → List Nat) (f0 f : Value → Option Value) : Prop where
  each : ∀ v ∈ done, ∃ a cc, f (E.key v) = some (.agg #[.int .i64 (L v), .slice a (ld v).length cc]) ∧ Sl w 9 1 a (ld v).length cc (names E.keys (ld v)) ∧ ∀ b, blk a = some b → H ≤ b ∧ b < w.heap.size ∧ blk pao ≠ some b ∧ blk ao ≠ some b
  rest : ∀ k, MapKept.IsKey .string k → (∀ v ∈ done, k ≠ E.key v) → f k = f0 k

theorem Got.fr {E : Env} {H : Nat} {w w' : World} {pao ao pao' ao' : Option Addr} {done : List Nat} {L : Nat → Nat} {ld : Nat → List Nat} {f0 f : Value → Option Value} (h : Got E H w pao ao done L ld f0 f) {M : Nat → Prop} (hf : Fr M w w')
    (hM : ∀ b, H ≤ b → b < w.heap.size → M b → blk pao = some b ∨ blk ao = some b) (hp : ∀ b, blk pao' = some b → blk pao = some b ∨ w.heap.size ≤ b) (ha : ∀ b, blk ao' = some b → blk ao = some b ∨ w.heap.size ≤ b) :
    Got E H w' pao' ao' done L ld f0 f :=
  ⟨fun v hv => by
    obtain ⟨a, cc, h1, h2, h3⟩ := h.each v hv
    refine ⟨a, cc, h1, h2.fr hf (fun b hb hm => ?_), fun b hb => ?_⟩
    · obtain ⟨q1, q2, q3, q4⟩ := h3 b hb
      rcases hM b q1 q2 hm with r | r
      · exact q3 r
      · exact q4 r
    · obtain ⟨q1, q2, q3, q4⟩ := h3 b hb
      refine ⟨q1, Nat.lt_of_lt_of_le q2 hf.size, fun r => ?_, fun r => ?_⟩
      · rcases hp b r with s | s
        · exact q3 s
        · omega
      · rcases ha b r with s | s
        · exact q4 s
        · omega, h.rest⟩

theorem paths_succ {dpo : Nat → Int} {p00 od : List Nat} {k : Nat} (hk : k < od.length) : paths dpo p00 od (k + 1) = (paths dpo p00 od k).take (dpo (od.getD k 0)).toNat ++ [od.getD k 0] := by
  unfold paths
  rw [List.take_succ_eq_append_getElem hk, List.foldl_append]
  simp [hk]

theorem Plan.sz {E : Env} {hub sn : Nat} {p00 od : List Nat} {tr : Nat → Nat} {ch : Nat → List Nat} {L : Nat → Nat} {ld : Nat → List Nat} (h : Plan E hub sn p00 od tr ch L ld) :
    ∀ k, k ≤ od.length → ∀ u ∈ paths E.dpo p00 od k, 0 < E.szi u
  | 0, _, u, hu => h.sz0 u (by simpa [paths] using hu)
  | k + 1, hk, u, hu => by
    rw [paths_succ (by omega)] at hu
    simp only [List.mem_append, List.mem_singleton] at hu
    rcases hu with hu | rfl
    · exact h.sz k (by omega) u (List.mem_of_mem_take hu)
    · exact (h.ps k (by omega)).2.1

theorem CS.newLead {E : Env} {w : World} {path : List Nat} {pao : Option Addr} {pc : Nat} {ao : Option Addr} {c : Nat} (h : CS E w path pao pc ao c) {len : Nat} (hlen : len ≤ 1024) :
    Calls Try.prog 33 #[.pointer (some ⟨E.bc, 0, none⟩), .int .i64 len] w fun e w' => ∃ a cc, e = .returned (.slice a 0 cc) ∧ Sl w' 9 1 a 0 cc [] ∧ Fr Nothing w w' ∧ ∀ b, blk a = some b → w.heap.size ≤ b := by
  have c5 := h.C.cell 5
  simp [cyc] at c5
  refine (newLead_any E.bc E.lead len w h.ll hlen c5).mono ?_
  rintro e w' ⟨rfl, rfl⟩
  refine ⟨some ⟨w.heap.size, 0, none⟩, min E.lead len, rfl, ?_, (Fr.refl _ w).alloc _, fun b hb => by simp [blk] at hb; omega⟩
  exact Sl.mk (Rec.new w 9 _) (by omega) (by have : (1024 : Nat) ≤ maxLen := by decide
                                             omega) (by simp) (by simp)

theorem CS.along {E : Env} {w0 w : World} {path : List Nat} {pao : Option Addr} {pc : Nat} {ao : Option Addr} {c : Nat} (h : CS E w0 path pao pc ao c) (hf : Fr Nothing w0 w) {a : Option Addr} {cc : Nat} {l ps : List Nat} {start stop : Nat}
    (hS : Sl w 9 1 a l.length cc (names E.keys l)) (ha : ∀ b, blk a = some b → w0.heap.size ≤ b) (hl : l.length ≤ 1024) (hch : Chain E.fri E.n ps start stop) :
    Calls Try.prog 40 #[.pointer (some ⟨E.bc, 0, none⟩), .slice a l.length cc, .int .i64 start, .int .i64 stop] w fun e w' => ∃ a' cc', e = .returned (.slice a' (l ++ ps.take (E.lead - l.length)).length cc') ∧
      Sl w' 9 1 a' (l ++ ps.take (E.lead - l.length)).length cc' (names E.keys (l ++ ps.take (E.lead - l.length))) ∧ Fr Nothing w0 w' ∧ ∀ b, blk a' = some b → w0.heap.size ≤ b := by
  have h' := h.fr hf (fun _ _ q => q) (fun _ _ q => q)
  have c0 := h'.C.cell 0
  have c4 := h'.C.cell 4
  have c5 := h'.C.cell 5
  simp [cyc] at c0 c4 c5
  have f0 := h'.Fi.str.cell 0
  simp at f0
  have b1 := h.C.lt
  have b2 := h.Fi.str.lt
  have b3 := Arr.lt h.Fi.i0
  refine (along_any E.bc E.bfi E.i0 E.n E.aoi E.ci E.keys E.fri E.lead a cc l ps stop start w h.ll hl hch.le c0 c4 c5 f0 h'.Fi.i0 h'.K hS
    (fun q => by have := ha _ q; omega) (fun q => by have := ha _ q; omega) (fun q => by have := ha _ q; omega) (fun b hb q => by have := ha _ q; have := h.K.lt hb; omega) hch.hd hch.lt hch.nx).mono ?_
  rintro e w' ⟨a', cc', rfl, g1, g2, g3⟩
  refine ⟨a', cc', rfl, g1, hf.trans g2 (fun i hi q => by have := ha _ q; omega), fun b hb => ?_⟩
  rcases g3 with q | ⟨x, hx, q⟩
  · exact ha b (q ▸ hb)
  · rw [hb] at q; cases q; have := hf.size; omega

theorem CS.through {E : Env} {w0 w : World} {path : List Nat} {pao : Option Addr} {pc : Nat} {ao : Option Addr} {c : Nat} (h : CS E w0 path pao pc ao c) (hf : Fr Nothing w0 w) {a : Option Addr} {cc : Nat} {l ns : List Nat} {bp off cp : Nat}
    (hS : Sl w 9 1 a l.length cc (names E.keys l)) (ha : ∀ b, blk a = some b → w0.heap.size ≤ b ∧ b ≠ bp) (hl : l.length ≤ 1024) (hle : l.length ≤ E.lead) (hpl : ns.length ≤ 1024)
    (hp : ∀ j, j < ns.length → w.cell? ⟨bp, off + j, none⟩ = some (.int .i64 (ns.getD j 0 : Int))) (hps : ∀ v ∈ ns, v < E.n) :
    Calls Try.prog 41 #[.pointer (some ⟨E.bc, 0, none⟩), .slice a l.length cc, .slice (some ⟨bp, off, none⟩) ns.length cp] w fun e w' => ∃ a' cc', e = .returned (.slice a' (l ++ ns.take (E.lead - l.length)).length cc') ∧
      Sl w' 9 1 a' (l ++ ns.take (E.lead - l.length)).length cc' (names E.keys (l ++ ns.take (E.lead - l.length))) ∧ Fr Nothing w0 w' ∧ ∀ b, blk a' = some b → w0.heap.size ≤ b := by
  have h' := h.fr hf (fun _ _ q => q) (fun _ _ q => q)
  have c0 := h'.C.cell 0
  have c5 := h'.C.cell 5
  simp [cyc] at c0 c5
  have b1 := h.C.lt
  refine (through_any E.bc E.n E.aoi E.ci E.keys E.lead a cc l bp off cp ns w h.ll hl hpl hle c0 c5 h'.K hS hp
    (fun q => by have := ha _ q; omega) (fun q => (ha _ q).2 rfl) (fun b hb q => by have := ha _ q; have := h.K.lt hb; omega) hps).mono ?_
  rintro e w' ⟨a', cc', rfl, g1, g2, g3⟩
  refine ⟨a', cc', rfl, g1, hf.trans g2 (fun i hi q => by have := ha _ q; omega), fun b hb => ?_⟩
  rcases g3 with q | ⟨x, hx, q⟩
  · exact (ha b (q ▸ hb)).1
  · rw [hb] at q; cases q; have := hf.size; omega

theorem key_ne {E : Env} (hkn : E.keys.Nodup) (hkl : E.keys.length = E.n) {u v : Nat} (hu : u < E.n) (hv : v < E.n) (hne : u ≠ v) : E.key u ≠ E.key v := by
  intro q
  unfold Env.key at q
  have h1 : u < E.keys.length := by omega
  have h2 : v < E.keys.length := by omega
  simp only [List.getD_eq_getElem?_getD, List.getElem?_eq_getElem h1, List.getElem?_eq_getElem h2, Option.getD_some, Value.string.injEq] at q
  exact hne ((List.getElem?_inj h1 hkn).1 (by rw [List.getElem?_eq_getElem h1, List.getElem?_eq_getElem h2, q]))

theorem isk (E : Env) (v : Nat) : MapKept.IsKey .string (E.key v) := by unfold Env.key; exact True.intro

theorem Got.add {E : Env} {H : Nat} {w w' : World} {pao ao : Option Addr} {done : List Nat} {L : Nat → Nat} {ld : Nat → List Nat} {f0 f : Value → Option Value} (h : Got E H w pao ao done L ld f0 f) {v : Nat} {a : Option Addr} {cc : Nat}
    (hkn : E.keys.Nodup) (hkl : E.keys.length = E.n) (hd : ∀ u ∈ done, u < E.n ∧ u ≠ v) (hv : v < E.n) (hf : Fr (fun b => b = E.bm) w w') (hbm : E.bm < H) (hS : Sl w 9 1 a (ld v).length cc (names E.keys (ld v)))
    (ha : ∀ b, blk a = some b → H ≤ b ∧ b < w.heap.size ∧ blk pao ≠ some b ∧ blk ao ≠ some b) :
    Got E H w' pao ao (done ++ [v]) L ld f0 (updK .string (E.key v) (.agg #[.int .i64 (L v), .slice a (ld v).length cc]) f) := by
  have h' := h.fr hf (pao' := pao) (ao' := ao) (fun b hb _ q => by omega) (fun b hb => .inl hb) (fun b hb => .inl hb)
  refine ⟨fun u hu => ?_, fun k hk hno => ?_⟩
  · simp only [List.mem_append, List.mem_singleton] at hu
    rcases hu with hu | rfl
    · obtain ⟨x, y, z⟩ := h'.each u hu
      refine ⟨x, y, ?_, z.2⟩
      rw [updK_other (isk E v) (isk E u) (key_ne hkn hkl (hd u hu).1 hv (hd u hu).2)]
      exact z.1
    · refine ⟨a, cc, updK_same (isk E u) _ _, hS.fr hf (fun b hb q => by have := ha b hb; omega), fun b hb => ?_⟩
      obtain ⟨q1, q2, q3, q4⟩ := ha b hb
      exact ⟨q1, Nat.lt_of_lt_of_le q2 hf.size, q3, q4⟩
  · rw [updK_other (isk E v) hk (hno v (by simp))]
    exact h.rest k hk (fun u hu => hno u (by simp [hu]))

/-- The map's own update, as a frame. -/
theorem Fr.of_update {w w' : World} {b : Nat} (h1 : w'.os = w.os) (h2 : w'.tape = w.tape) (h3 : w'.output = w.output) (h4 : w'.heap.size = w.heap.size) (h5 : ∀ b', b' ≠ b → w'.heap[b']? = w.heap[b']?) : Fr (fun k => k = b) w w' :=
  ⟨h1, h2, h3, by omega, fun k _ hk => h5 k hk⟩

end Go.Proofs.Qxb6615025a
