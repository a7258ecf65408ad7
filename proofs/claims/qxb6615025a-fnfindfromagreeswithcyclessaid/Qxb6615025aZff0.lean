/- Four calls in a chain beside one operation; the parts of a new cycler. -/
import Derived.Test.Qxb6615025aNumb
import Derived.Test.Qxb6615025aPlanOk
namespace Go.Proofs.Qxb6615025a
open Go.RowKit Go.MapKept

section
variable {P : Program} {ops : Array Oper} {Q : Exit → Act → World → Prop} {md : Region.Mode} {S : World → Prop} {L : Nat}

/-- Two operations may come up. -/
theorem wpAnyT_two {i j : Nat} {oi oj : Oper} {fuel : Nat} {listed : Array Bool} {a : Act} {w : World} (hi : ops[i]? = some oi) (hj : ops[j]? = some oj) (hr : Region.ready md ops listed = [i, j])
    (gi : oi.guard = none) (gj : oj.guard = none)
    (h1 : oi.wp P a w (fun a' w' => ((listed.setIfInBounds i true).getD L true = false → S w') ∧ wpAnyT P md ops Q S L fuel (listed.setIfInBounds i true) a' w') Q)
    (h2 : oj.wp P a w (fun a' w' => ((listed.setIfInBounds j true).getD L true = false → S w') ∧ wpAnyT P md ops Q S L fuel (listed.setIfInBounds j true) a' w') Q) : wpAnyT P md ops Q S L (fuel + 1) listed a w := by
  refine ⟨fun h0 => ?_, fun k hk => ?_⟩
  · rw [hr] at h0; cases h0
  rw [hr] at hk
  simp only [List.mem_cons, List.not_mem_nil, or_false] at hk
  rcases hk with rfl | rfl
  · unfold wpOp
    simp only [hi, show Region.wanted oi (yielded ops a.tmps) = true by simp [Region.wanted, gi], if_true]
    exact .inl h1
  · unfold wpOp
    simp only [hj, show Region.wanted oj (yielded ops a.tmps) = true by simp [Region.wanted, gj], if_true]
    exact .inl h2

theorem wpAnyT_sole {i : Nat} {oi : Oper} {fuel : Nat} {listed : Array Bool} {a : Act} {w : World} (hi : ops[i]? = some oi) (hr : Region.ready md ops listed = [i]) (gi : oi.guard = none)
    (h : oi.wp P a w (fun a' w' => ((listed.setIfInBounds i true).getD L true = false → S w') ∧ wpAnyT P md ops Q S L fuel (listed.setIfInBounds i true) a' w') Q) : wpAnyT P md ops Q S L (fuel + 1) listed a w :=
  wpAnyT_one hi hr (by simp [Region.wanted, gi]) h

theorem Oper.wp_mono' {o : Oper} {a : Act} {w : World} {K K' : Act → World → Prop} (h : o.wp P a w K Q) (hK : ∀ a' w', K a' w' → K' a' w') : o.wp P a w K' Q := by
  exact Oper.wp_mono hK h

/-- Four calls one behind another, and one operation that may come up at any time among them. -/
theorem chain4 (J : Nat → Bool → Act → World → Prop) {o0 o1 o2 o3 om : Oper} {i0 i1 i2 i3 im f : Nat} {l0 l1 l2 l3 l4 m0 m1 m2 m3 m4 : Array Bool}
    (g0 : ops[i0]? = some o0) (g1 : ops[i1]? = some o1) (g2 : ops[i2]? = some o2) (g3 : ops[i3]? = some o3) (gm : ops[im]? = some om)
    (d0 : o0.guard = none) (d1 : o1.guard = none) (d2 : o2.guard = none) (d3 : o3.guard = none) (dm : om.guard = none)
    (r0 : Region.ready md ops l0 = [i0, im]) (r1 : Region.ready md ops l1 = [i1, im]) (r2 : Region.ready md ops l2 = [i2, im]) (r3 : Region.ready md ops l3 = [i3, im]) (r4 : Region.ready md ops l4 = [im])
    (t0 : Region.ready md ops m0 = [i0]) (t1 : Region.ready md ops m1 = [i1]) (t2 : Region.ready md ops m2 = [i2]) (t3 : Region.ready md ops m3 = [i3])
    (s0 : l0.setIfInBounds i0 true = l1) (s1 : l1.setIfInBounds i1 true = l2) (s2 : l2.setIfInBounds i2 true = l3) (s3 : l3.setIfInBounds i3 true = l4)
    (u0 : m0.setIfInBounds i0 true = m1) (u1 : m1.setIfInBounds i1 true = m2) (u2 : m2.setIfInBounds i2 true = m3) (u3 : m3.setIfInBounds i3 true = m4)
    (v0 : l0.setIfInBounds im true = m0) (v1 : l1.setIfInBounds im true = m1) (v2 : l2.setIfInBounds im true = m2) (v3 : l3.setIfInBounds im true = m3) (v4 : l4.setIfInBounds im true = m4)
    (hS : ∀ c m a w, J c m a w → S w)
    (c0 : ∀ m a w, J 0 m a w → o0.wp P a w (fun a' w' => J 1 m a' w') Q) (c1 : ∀ m a w, J 1 m a w → o1.wp P a w (fun a' w' => J 2 m a' w') Q)
    (c2 : ∀ m a w, J 2 m a w → o2.wp P a w (fun a' w' => J 3 m a' w') Q) (c3 : ∀ m a w, J 3 m a w → o3.wp P a w (fun a' w' => J 4 m a' w') Q)
    (cm : ∀ c a w, J c false a w → om.wp P a w (fun a' w' => J c true a' w') Q)
    (he : ∀ a w, J 4 true a w → wpAnyT P md ops Q S L f m4 a w) (a : Act) (w : World) (h : J 0 false a w) : wpAnyT P md ops Q S L (f + 5) l0 a w := by
  have M3 : ∀ a w, J 3 true a w → wpAnyT P md ops Q S L (f + 1) m3 a w := fun a w h => wpAnyT_sole g3 t3 d3 (Oper.wp_mono' (c3 _ _ _ h) fun a' w' h' => ⟨fun _ => hS _ _ _ _ h', u3 ▸ he a' w' h'⟩)
  have M2 : ∀ a w, J 2 true a w → wpAnyT P md ops Q S L (f + 2) m2 a w := fun a w h => wpAnyT_sole g2 t2 d2 (Oper.wp_mono' (c2 _ _ _ h) fun a' w' h' => ⟨fun _ => hS _ _ _ _ h', u2 ▸ M3 a' w' h'⟩)
  have M1 : ∀ a w, J 1 true a w → wpAnyT P md ops Q S L (f + 3) m1 a w := fun a w h => wpAnyT_sole g1 t1 d1 (Oper.wp_mono' (c1 _ _ _ h) fun a' w' h' => ⟨fun _ => hS _ _ _ _ h', u1 ▸ M2 a' w' h'⟩)
  have M0 : ∀ a w, J 0 true a w → wpAnyT P md ops Q S L (f + 4) m0 a w := fun a w h => wpAnyT_sole g0 t0 d0 (Oper.wp_mono' (c0 _ _ _ h) fun a' w' h' => ⟨fun _ => hS _ _ _ _ h', u0 ▸ M1 a' w' h'⟩)
  have L4 : ∀ a w, J 4 false a w → wpAnyT P md ops Q S L (f + 1) l4 a w := fun a w h => wpAnyT_sole gm r4 dm (Oper.wp_mono' (cm _ _ _ h) fun a' w' h' => ⟨fun _ => hS _ _ _ _ h', v4 ▸ he a' w' h'⟩)
  have L3 : ∀ a w, J 3 false a w → wpAnyT P md ops Q S L (f + 2) l3 a w := fun a w h => wpAnyT_two g3 gm r3 d3 dm (Oper.wp_mono' (c3 _ _ _ h) fun a' w' h' => ⟨fun _ => hS _ _ _ _ h', s3 ▸ L4 a' w' h'⟩) (Oper.wp_mono' (cm _ _ _ h) fun a' w' h' => ⟨fun _ => hS _ _ _ _ h', v3 ▸ M3 a' w' h'⟩)
  have L2 : ∀ a w, J 2 false a w → wpAnyT P md ops Q S L (f + 3) l2 a w := fun a w h => wpAnyT_two g2 gm r2 d2 dm (Oper.wp_mono' (c2 _ _ _ h) fun a' w' h' => ⟨fun _ => hS _ _ _ _ h', s2 ▸ L3 a' w' h'⟩) (Oper.wp_mono' (cm _ _ _ h) fun a' w' h' => ⟨fun _ => hS _ _ _ _ h', v2 ▸ M2 a' w' h'⟩)
  have L1 : ∀ a w, J 1 false a w → wpAnyT P md ops Q S L (f + 4) l1 a w := fun a w h => wpAnyT_two g1 gm r1 d1 dm (Oper.wp_mono' (c1 _ _ _ h) fun a' w' h' => ⟨fun _ => hS _ _ _ _ h', s1 ▸ L2 a' w' h'⟩) (Oper.wp_mono' (cm _ _ _ h) fun a' w' h' => ⟨fun _ => hS _ _ _ _ h', v1 ▸ M1 a' w' h'⟩)
  exact wpAnyT_two g0 gm r0 d0 dm (Oper.wp_mono' (c0 _ _ _ h) fun a' w' h' => ⟨fun _ => hS _ _ _ _ h', s0 ▸ L1 a' w' h'⟩) (Oper.wp_mono' (cm _ _ _ h) fun a' w' h' => ⟨fun _ => hS _ _ _ _ h', v0 ▸ M0 a' w' h'⟩)

theorem wp_callf {o : Oper} {a : Act} {w : World} {K : Act → World → Prop} {f : FuncId} {v : Value} (hrun : (execOp a.eval o).run P w = .ok (.enter f #[v]) w) {d : Option Nat} (hd : o.dst = d)
    (hc : Calls P f #[v] w fun e w' => ∃ r, e = .returned r ∧ K (a.put d r) w') : o.wp P a w K Q := by
  unfold Oper.wp
  rw [hrun, Oper.upon_enter]
  refine hc.mono ?_
  rintro e w' ⟨r, rfl, hK⟩
  subst hd
  exact hK
end

theorem r_call25 {a : Act} {o : Oper} {w : World} (x : Operand) (t : TypeId) (v : Value) (ho : o.op = .call { callee := .value (.func 25), args := #[x], argTypes := #[t] }) (hx : a.eval x = v) :
    (execOp a.eval o).run Try.prog w = .ok (.enter 25 #[v]) w := by
  subst hx
  simp only [execOp, ho]
  kernel_rfl
theorem r_call26 {a : Act} {o : Oper} {w : World} (x : Operand) (t : TypeId) (v : Value) (ho : o.op = .call { callee := .value (.func 26), args := #[x], argTypes := #[t] }) (hx : a.eval x = v) :
    (execOp a.eval o).run Try.prog w = .ok (.enter 26 #[v]) w := by
  subst hx
  simp only [execOp, ho]
  kernel_rfl
theorem r_call27 {a : Act} {o : Oper} {w : World} (x : Operand) (t : TypeId) (v : Value) (ho : o.op = .call { callee := .value (.func 27), args := #[x], argTypes := #[t] }) (hx : a.eval x = v) :
    (execOp a.eval o).run Try.prog w = .ok (.enter 27 #[v]) w := by
  subst hx
  simp only [execOp, ho]
  kernel_rfl
theorem r_mkm {a : Act} {o : Oper} {w : World} (ho : o.op = .makeMap 28 none) : (execOp a.eval o).run Try.prog w = .ok (.value (.map (some w.heap.size))) (w.alloc (.map #[] 0)) := by
  simp only [execOp, ho]
  kernel_rfl

/-! ### the parts of a new cycler, each in blocks of its own -/
structure PA (H n : Nat) (gp : Nat → List Nat) (own : Nat → Nat) (w : World) (v : Value) : Prop where
  ex : ∃ bv ao2 c2, v = .slice (some ⟨bv, 0, none⟩) n n ∧ Rw H w bv n ao2 c2 gp ∧ own bv = 1 ∧ ∀ i, i < n → ∀ b, blk (ao2 i) = some b → own b = 1

structure PF (H n k : Nat) (own : Nat → Nat) (w : World) (v : Value) : Prop where
  ex : ∃ bf b0 b1 b2 b3, v = .pointer (some ⟨bf, 0, none⟩) ∧ Fo w bf b0 b1 b2 b3 n (fun _ => -2) (fun _ => 0) (fun _ => 0) (fun _ => 0) ∧ ∀ b, b ∈ [bf, b0, b1, b2, b3] → own b = k ∧ H ≤ b

structure PI (H n : Nat) (own : Nat → Nat) (w : World) (v : Value) : Prop where
  ex : ∃ bs bt, v = .pointer (some ⟨bs, 0, none⟩) ∧ Iv w bs bt n none 0 (fun _ => -1) [] ∧ ∀ b, b ∈ [bs, bt] → own b = 4 ∧ H ≤ b

structure PM (H : Nat) (own : Nat → Nat) (w : World) (v : Value) : Prop where
  ex : ∃ bm, v = .map (some bm) ∧ MapAt .string w bm 0 (fun _ => none) ∧ own bm = 5 ∧ H ≤ bm

def ownAt (own : Nat → Nat) (N k b : Nat) : Nat := if b < N then own b else k

theorem PA.up {H n : Nat} {gp : Nat → List Nat} {own : Nat → Nat} {w w' : World} {v : Value} (h : PA H n gp own w v) (hf : Fr Nothing w w') (k : Nat) : PA H n gp (ownAt own w.heap.size k) w' v := by
  obtain ⟨bv, ao2, c2, h1, h2, h3, h4⟩ := h.ex
  exact ⟨bv, ao2, c2, h1, h2.fr hf (fun q => q) (fun _ _ _ _ q => q), by rw [ownAt, if_pos h2.adj.arr.lt]; exact h3, fun i hi b hb => by rw [ownAt, if_pos ((h2.adj.row i hi).lt hb)]; exact h4 i hi b hb⟩

theorem PF.up {H n j : Nat} {own : Nat → Nat} {w w' : World} {v : Value} (h : PF H n j own w v) (hf : Fr Nothing w w') (k : Nat) : PF H n j (ownAt own w.heap.size k) w' v := by
  obtain ⟨bf, b0, b1, b2, b3, h1, h2, h3⟩ := h.ex
  exact ⟨bf, b0, b1, b2, b3, h1, h2.fr hf (fun _ _ q => q), fun b hb => by rw [ownAt, if_pos (h2.lt b hb)]; exact h3 b hb⟩

theorem PI.up {H n : Nat} {own : Nat → Nat} {w w' : World} {v : Value} (h : PI H n own w v) (hf : Fr Nothing w w') (k : Nat) : PI H n (ownAt own w.heap.size k) w' v := by
  obtain ⟨bs, bt, h1, h2, h3⟩ := h.ex
  refine ⟨bs, bt, h1, h2.fr hf (fun q => q) (fun q => q) (fun _ _ q => q), fun b hb => ?_⟩
  have : b < w.heap.size := by
    simp only [List.mem_cons, List.not_mem_nil, or_false] at hb
    rcases hb with rfl | rfl
    · exact h2.str.lt
    · exact Arr.lt h2.top
  rw [ownAt, if_pos this]
  exact h3 b hb

theorem PM.up {H : Nat} {own : Nat → Nat} {w w' : World} {v : Value} (h : PM H own w v) (hf : Fr Nothing w w') (k : Nat) : PM H (ownAt own w.heap.size k) w' v := by
  obtain ⟨bm, h1, h2, h3, h4⟩ := h.ex
  exact ⟨bm, h1, h2.of_block (hf.block bm h2.lt (fun q => q)), by rw [ownAt, if_pos h2.lt]; exact h3, h4⟩

theorem PA.new {H n : Nat} {gp : Nat → List Nat} {own : Nat → Nat} {w w' : World} {bv : Nat} {ao2 : Nat → Option Addr} {c2 : Nat → Nat} (h : Rw w.heap.size w' bv n ao2 c2 gp) (hH : H ≤ w.heap.size) :
    PA H n gp (ownAt own w.heap.size 1) w' (.slice (some ⟨bv, 0, none⟩) n n) :=
  ⟨bv, ao2, c2, rfl, h.low hH, by have := h.hb; rw [ownAt, if_neg (by omega)], fun i hi b hb => by have := (h.far i hi b hb).1; rw [ownAt, if_neg (by omega)]⟩

theorem PF.new {H n k : Nat} {own : Nat → Nat} {w w' : World} {bf b0 b1 b2 b3 : Nat} (h : Fo w' bf b0 b1 b2 b3 n (fun _ => -2) (fun _ => 0) (fun _ => 0) (fun _ => 0)) (hH : H ≤ w.heap.size)
    (h0 : w.heap.size ≤ bf ∧ w.heap.size ≤ b0 ∧ w.heap.size ≤ b1 ∧ w.heap.size ≤ b2 ∧ w.heap.size ≤ b3) : PF H n k (ownAt own w.heap.size k) w' (.pointer (some ⟨bf, 0, none⟩)) :=
  ⟨bf, b0, b1, b2, b3, rfl, h, fun b hb => by
    have : w.heap.size ≤ b := by
      simp only [List.mem_cons, List.not_mem_nil, or_false] at hb
      omega
    exact ⟨by rw [ownAt, if_neg (by omega)], by omega⟩⟩

theorem PI.new {H n : Nat} {own : Nat → Nat} {w w' : World} {bs bt : Nat} (h : Iv w' bs bt n none 0 (fun _ => -1) []) (hH : H ≤ w.heap.size) (h0 : w.heap.size ≤ bs ∧ w.heap.size ≤ bt) :
    PI H n (ownAt own w.heap.size 4) w' (.pointer (some ⟨bs, 0, none⟩)) :=
  ⟨bs, bt, rfl, h, fun b hb => by
    have : w.heap.size ≤ b := by
      simp only [List.mem_cons, List.not_mem_nil, or_false] at hb
      omega
    exact ⟨by rw [ownAt, if_neg (by omega)], by omega⟩⟩

theorem PM.new {H : Nat} {own : Nat → Nat} {w : World} (hH : H ≤ w.heap.size) : PM H (ownAt own w.heap.size 5) (w.alloc (.map #[] 0)) (.map (some w.heap.size)) :=
  ⟨w.heap.size, rfl, MapAt.made _ _, by rw [ownAt, if_neg (by omega)], hH⟩

/-- A new cycler, its parts so far. -/
structure PJ (H n : Nat) (gp : Nat → List Nat) (W : World) (c : Nat) (m : Bool) (v1 v2 v3 v4 v5 : Value) (w : World) (own : Nat → Nat) : Prop where
  fr : Fr Nothing W w
  a : 1 ≤ c → PA H n gp own w v1
  o : 2 ≤ c → PF H n 2 own w v2
  i : 3 ≤ c → PF H n 3 own w v3
  s : 4 ≤ c → PI H n own w v4
  m : m = true → PM H own w v5

end Go.Proofs.Qxb6615025a
