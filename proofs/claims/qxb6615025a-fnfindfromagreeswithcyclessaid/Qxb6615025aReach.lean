-- The state of components in memory; its function reach (36).
import Derived.Test.Qxb6615025aTarjan
import Derived.Test.Qxb6615025aRev
import Derived.BigRegion
import Derived.BigQuiet
namespace Go.Proofs.Qxb6615025a
open Go.RowKit

/-- The blocks of components: the cells of order, low, onStack, stack, reached; the rows of order, low, component, onStack. -/
structure TE where
  n : Nat
  H : Nat
  cO : Nat
  cL : Nat
  cK : Nat
  cS : Nat
  cR : Nat
  bO : Nat
  bL : Nat
  bC : Nat
  bK : Nat

def TE.bs (E : TE) : List Nat := [E.cO, E.cL, E.cK, E.cS, E.cR, E.bO, E.bL, E.bC, E.bK]

/-- The state of components in memory. -/
structure TM (E : TE) (w : World) (ord low cmp : Nat → Int) (ons : Nat → Bool) (stk : List Nat) (rea : Nat) (sa : Option Addr) (sc : Nat) : Prop where
  o : Rec w E.cO 33 #[.slice (some ⟨E.bO, 0, none⟩) E.n E.n]
  l : Rec w E.cL 33 #[.slice (some ⟨E.bL, 0, none⟩) E.n E.n]
  k : Rec w E.cK 44 #[.slice (some ⟨E.bK, 0, none⟩) E.n E.n]
  s : Rec w E.cS 33 #[.slice sa stk.length sc]
  r : Rec w E.cR 3 #[.int .i64 rea]
  io : Ints w E.bO E.n ord
  il : Ints w E.bL E.n low
  ic : Ints w E.bC E.n cmp
  ik : Bools w E.bK E.n ons
  sl : Sl w 3 1 sa stk.length sc (ints stk)
  nd : E.bs.Nodup
  sb : ∀ b, blk sa = some b → b ∉ E.bs ∧ E.H ≤ b
  ge : ∀ b ∈ E.bs, E.H ≤ b

theorem nd_ne2 {l : List Nat} (h : l.Nodup) (i j : Nat) {a b : Nat} (hi : l[i]? = some a) (hj : l[j]? = some b) (hij : i ≠ j) : a ≠ b := by
  obtain ⟨hi1, rfl⟩ := List.getElem?_eq_some_iff.1 hi
  obtain ⟨hj1, rfl⟩ := List.getElem?_eq_some_iff.1 hj
  intro q
  rcases Nat.lt_or_gt_of_ne hij with k | k
  · exact List.pairwise_iff_getElem.1 h i j hi1 hj1 k q
  · exact List.pairwise_iff_getElem.1 h j i hj1 hi1 k q.symm

section
variable {E : TE} {w w' : World} {ord low cmp : Nat → Int} {ons : Nat → Bool} {stk : List Nat} {rea : Nat} {sa : Option Addr} {sc : Nat}

theorem TM.lt (h : TM E w ord low cmp ons stk rea sa sc) : ∀ b ∈ E.bs, b < w.heap.size := by
  intro b hb
  simp only [TE.bs, List.mem_cons, List.not_mem_nil, or_false] at hb
  rcases hb with rfl | rfl | rfl | rfl | rfl | rfl | rfl | rfl | rfl
  · exact h.o.lt
  · exact h.l.lt
  · exact h.k.lt
  · exact h.s.lt
  · exact h.r.lt
  · exact Arr.lt h.io
  · exact Arr.lt h.il
  · exact Arr.lt h.ic
  · exact Arr.lt h.ik

theorem TM.of_heap (h : TM E w ord low cmp ons stk rea sa sc) (h1 : ∀ b ∈ E.bs, w'.heap[b]? = w.heap[b]?) (h2 : ∀ b, blk sa = some b → w'.heap[b]? = w.heap[b]?) : TM E w' ord low cmp ons stk rea sa sc :=
  ⟨h.o.of_heap (h1 _ (by simp [TE.bs])), h.l.of_heap (h1 _ (by simp [TE.bs])), h.k.of_heap (h1 _ (by simp [TE.bs])), h.s.of_heap (h1 _ (by simp [TE.bs])), h.r.of_heap (h1 _ (by simp [TE.bs])),
   Arr.of_heap h.io (h1 _ (by simp [TE.bs])), Arr.of_heap h.il (h1 _ (by simp [TE.bs])), Arr.of_heap h.ic (h1 _ (by simp [TE.bs])), Arr.of_heap h.ik (h1 _ (by simp [TE.bs])), h.sl.of_heap h2, h.nd, h.sb, h.ge⟩

theorem TM.fr {M : Nat → Prop} (h : TM E w ord low cmp ons stk rea sa sc) (hf : Fr M w w') (h1 : ∀ b ∈ E.bs, ¬ M b) (h2 : ∀ b, blk sa = some b → ¬ M b) : TM E w' ord low cmp ons stk rea sa sc :=
  h.of_heap (fun b hb => hf.block b (h.lt b hb) (h1 b hb)) (fun b hb => hf.block b (h.sl.lt hb) (h2 b hb))

theorem TM.drew (h : TM E w ord low cmp ons stk rea sa sc) : TM E w.drew ord low cmp ons stk rea sa sc := h.of_heap (fun _ _ => rfl) (fun _ _ => rfl)
theorem TM.drewN (h : TM E w ord low cmp ons stk rea sa sc) (k : Nat) : TM E (w.drewN k) ord low cmp ons stk rea sa sc := h.of_heap (fun _ _ => rfl) (fun _ _ => rfl)
theorem TM.alloc (h : TM E w ord low cmp ons stk rea sa sc) (o : Obj) : TM E (w.alloc o) ord low cmp ons stk rea sa sc :=
  h.of_heap (fun b hb => Below.heap_alloc w o b (h.lt b hb)) (fun b hb => Below.heap_alloc w o b (h.sl.lt hb))
theorem TM.setOther (h : TM E w ord low cmp ons stk rea sa sc) {p : Addr} (hp : p.block ∉ E.bs) (h2 : blk sa ≠ some p.block) (u : Value) : TM E (w.setCell p u) ord low cmp ons stk rea sa sc :=
  h.of_heap (fun b hb => Below.heap_setCell w p u b (fun e => hp (e ▸ hb))) (fun b hb => Below.heap_setCell w p u b (fun e => h2 (e ▸ hb)))

theorem TM.ne (h : TM E w ord low cmp ons stk rea sa sc) {b : Nat} (hb : b ∈ E.bs) : blk sa ≠ some b := fun q => (h.sb b q).1 hb

theorem TM.setO (h : TM E w ord low cmp ons stk rea sa sc) (i : Nat) (v : Int) : TM E (w.setCell ⟨E.bO, i, none⟩ (.int .i64 v)) (upd ord i v) low cmp ons stk rea sa sc :=
  ⟨Rec.setOther h.o (p := ⟨E.bO, _, none⟩) (nd_ne2 h.nd 0 5 rfl rfl (by decide)) _,
    Rec.setOther h.l (p := ⟨E.bO, _, none⟩) (nd_ne2 h.nd 1 5 rfl rfl (by decide)) _,
    Rec.setOther h.k (p := ⟨E.bO, _, none⟩) (nd_ne2 h.nd 2 5 rfl rfl (by decide)) _,
    Rec.setOther h.s (p := ⟨E.bO, _, none⟩) (nd_ne2 h.nd 3 5 rfl rfl (by decide)) _,
    Rec.setOther h.r (p := ⟨E.bO, _, none⟩) (nd_ne2 h.nd 4 5 rfl rfl (by decide)) _,
    Ints.set h.io i v,
    Arr.setOther h.il (p := ⟨E.bO, _, none⟩) (nd_ne2 h.nd 6 5 rfl rfl (by decide)) _,
    Arr.setOther h.ic (p := ⟨E.bO, _, none⟩) (nd_ne2 h.nd 7 5 rfl rfl (by decide)) _,
    Arr.setOther h.ik (p := ⟨E.bO, _, none⟩) (nd_ne2 h.nd 8 5 rfl rfl (by decide)) _,
    Sl.setOther h.sl (h.ne (by simp [TE.bs])) _,
    h.nd,
    h.sb,
    h.ge⟩
theorem TM.setL (h : TM E w ord low cmp ons stk rea sa sc) (i : Nat) (v : Int) : TM E (w.setCell ⟨E.bL, i, none⟩ (.int .i64 v)) ord (upd low i v) cmp ons stk rea sa sc :=
  ⟨Rec.setOther h.o (p := ⟨E.bL, _, none⟩) (nd_ne2 h.nd 0 6 rfl rfl (by decide)) _,
    Rec.setOther h.l (p := ⟨E.bL, _, none⟩) (nd_ne2 h.nd 1 6 rfl rfl (by decide)) _,
    Rec.setOther h.k (p := ⟨E.bL, _, none⟩) (nd_ne2 h.nd 2 6 rfl rfl (by decide)) _,
    Rec.setOther h.s (p := ⟨E.bL, _, none⟩) (nd_ne2 h.nd 3 6 rfl rfl (by decide)) _,
    Rec.setOther h.r (p := ⟨E.bL, _, none⟩) (nd_ne2 h.nd 4 6 rfl rfl (by decide)) _,
    Arr.setOther h.io (p := ⟨E.bL, _, none⟩) (nd_ne2 h.nd 5 6 rfl rfl (by decide)) _,
    Ints.set h.il i v,
    Arr.setOther h.ic (p := ⟨E.bL, _, none⟩) (nd_ne2 h.nd 7 6 rfl rfl (by decide)) _,
    Arr.setOther h.ik (p := ⟨E.bL, _, none⟩) (nd_ne2 h.nd 8 6 rfl rfl (by decide)) _,
    Sl.setOther h.sl (h.ne (by simp [TE.bs])) _,
    h.nd,
    h.sb,
    h.ge⟩
theorem TM.setC (h : TM E w ord low cmp ons stk rea sa sc) (i : Nat) (v : Int) : TM E (w.setCell ⟨E.bC, i, none⟩ (.int .i64 v)) ord low (upd cmp i v) ons stk rea sa sc :=
  ⟨Rec.setOther h.o (p := ⟨E.bC, _, none⟩) (nd_ne2 h.nd 0 7 rfl rfl (by decide)) _,
    Rec.setOther h.l (p := ⟨E.bC, _, none⟩) (nd_ne2 h.nd 1 7 rfl rfl (by decide)) _,
    Rec.setOther h.k (p := ⟨E.bC, _, none⟩) (nd_ne2 h.nd 2 7 rfl rfl (by decide)) _,
    Rec.setOther h.s (p := ⟨E.bC, _, none⟩) (nd_ne2 h.nd 3 7 rfl rfl (by decide)) _,
    Rec.setOther h.r (p := ⟨E.bC, _, none⟩) (nd_ne2 h.nd 4 7 rfl rfl (by decide)) _,
    Arr.setOther h.io (p := ⟨E.bC, _, none⟩) (nd_ne2 h.nd 5 7 rfl rfl (by decide)) _,
    Arr.setOther h.il (p := ⟨E.bC, _, none⟩) (nd_ne2 h.nd 6 7 rfl rfl (by decide)) _,
    Ints.set h.ic i v,
    Arr.setOther h.ik (p := ⟨E.bC, _, none⟩) (nd_ne2 h.nd 8 7 rfl rfl (by decide)) _,
    Sl.setOther h.sl (h.ne (by simp [TE.bs])) _,
    h.nd,
    h.sb,
    h.ge⟩
theorem TM.setK (h : TM E w ord low cmp ons stk rea sa sc) (i : Nat) (v : Bool) : TM E (w.setCell ⟨E.bK, i, none⟩ (.bool v)) ord low cmp (upd ons i v) stk rea sa sc :=
  ⟨Rec.setOther h.o (p := ⟨E.bK, _, none⟩) (nd_ne2 h.nd 0 8 rfl rfl (by decide)) _,
    Rec.setOther h.l (p := ⟨E.bK, _, none⟩) (nd_ne2 h.nd 1 8 rfl rfl (by decide)) _,
    Rec.setOther h.k (p := ⟨E.bK, _, none⟩) (nd_ne2 h.nd 2 8 rfl rfl (by decide)) _,
    Rec.setOther h.s (p := ⟨E.bK, _, none⟩) (nd_ne2 h.nd 3 8 rfl rfl (by decide)) _,
    Rec.setOther h.r (p := ⟨E.bK, _, none⟩) (nd_ne2 h.nd 4 8 rfl rfl (by decide)) _,
    Arr.setOther h.io (p := ⟨E.bK, _, none⟩) (nd_ne2 h.nd 5 8 rfl rfl (by decide)) _,
    Arr.setOther h.il (p := ⟨E.bK, _, none⟩) (nd_ne2 h.nd 6 8 rfl rfl (by decide)) _,
    Arr.setOther h.ic (p := ⟨E.bK, _, none⟩) (nd_ne2 h.nd 7 8 rfl rfl (by decide)) _,
    Bools.set h.ik i v,
    Sl.setOther h.sl (h.ne (by simp [TE.bs])) _,
    h.nd,
    h.sb,
    h.ge⟩
theorem TM.setR (h : TM E w ord low cmp ons stk rea sa sc) (v : Nat) : TM E (w.setCell ⟨E.cR, 0, none⟩ (.int .i64 v)) ord low cmp ons stk v sa sc :=
  ⟨Rec.setOther h.o (p := ⟨E.cR, _, none⟩) (nd_ne2 h.nd 0 4 rfl rfl (by decide)) _,
    Rec.setOther h.l (p := ⟨E.cR, _, none⟩) (nd_ne2 h.nd 1 4 rfl rfl (by decide)) _,
    Rec.setOther h.k (p := ⟨E.cR, _, none⟩) (nd_ne2 h.nd 2 4 rfl rfl (by decide)) _,
    Rec.setOther h.s (p := ⟨E.cR, _, none⟩) (nd_ne2 h.nd 3 4 rfl rfl (by decide)) _,
    by simpa using h.r.set 0 (.int .i64 v),
    Arr.setOther h.io (p := ⟨E.cR, _, none⟩) (nd_ne2 h.nd 5 4 rfl rfl (by decide)) _,
    Arr.setOther h.il (p := ⟨E.cR, _, none⟩) (nd_ne2 h.nd 6 4 rfl rfl (by decide)) _,
    Arr.setOther h.ic (p := ⟨E.cR, _, none⟩) (nd_ne2 h.nd 7 4 rfl rfl (by decide)) _,
    Arr.setOther h.ik (p := ⟨E.cR, _, none⟩) (nd_ne2 h.nd 8 4 rfl rfl (by decide)) _,
    Sl.setOther h.sl (h.ne (by simp [TE.bs])) _,
    h.nd,
    h.sb,
    h.ge⟩
theorem TM.setS (h : TM E w ord low cmp ons stk rea sa sc) (h1 : ∀ b ∈ E.bs, w'.heap[b]? = w.heap[b]?) {stk' : List Nat} {sa' : Option Addr} {sc' : Nat} (hs : Sl w' 3 1 sa' stk'.length sc' (ints stk')) (hb : ∀ b, blk sa' = some b → b ∉ E.bs ∧ E.H ≤ b) : TM E (w'.setCell ⟨E.cS, 0, none⟩ (.slice sa' stk'.length sc')) ord low cmp ons stk' rea sa' sc' :=
  ⟨Rec.setOther (Rec.of_heap h.o (h1 _ (by simp [TE.bs]))) (p := ⟨E.cS, _, none⟩) (nd_ne2 h.nd 0 3 rfl rfl (by decide)) _,
    Rec.setOther (Rec.of_heap h.l (h1 _ (by simp [TE.bs]))) (p := ⟨E.cS, _, none⟩) (nd_ne2 h.nd 1 3 rfl rfl (by decide)) _,
    Rec.setOther (Rec.of_heap h.k (h1 _ (by simp [TE.bs]))) (p := ⟨E.cS, _, none⟩) (nd_ne2 h.nd 2 3 rfl rfl (by decide)) _,
    by simpa using (Rec.of_heap h.s (h1 _ (by simp [TE.bs]))).set 0 (.slice sa' stk'.length sc'),
    Rec.setOther (Rec.of_heap h.r (h1 _ (by simp [TE.bs]))) (p := ⟨E.cS, _, none⟩) (nd_ne2 h.nd 4 3 rfl rfl (by decide)) _,
    Arr.setOther (Arr.of_heap h.io (h1 _ (by simp [TE.bs]))) (p := ⟨E.cS, _, none⟩) (nd_ne2 h.nd 5 3 rfl rfl (by decide)) _,
    Arr.setOther (Arr.of_heap h.il (h1 _ (by simp [TE.bs]))) (p := ⟨E.cS, _, none⟩) (nd_ne2 h.nd 6 3 rfl rfl (by decide)) _,
    Arr.setOther (Arr.of_heap h.ic (h1 _ (by simp [TE.bs]))) (p := ⟨E.cS, _, none⟩) (nd_ne2 h.nd 7 3 rfl rfl (by decide)) _,
    Arr.setOther (Arr.of_heap h.ik (h1 _ (by simp [TE.bs]))) (p := ⟨E.cS, _, none⟩) (nd_ne2 h.nd 8 3 rfl rfl (by decide)) _,
    Sl.setOther hs (fun q => (hb _ q).1 (by simp [TE.bs])) _,
    h.nd,
    hb,
    h.ge⟩
end

theorem el78 : El 78 77 2 16 (.agg #[.int .i64 0, .int .i64 0]) := ⟨Try.underlying78, by kernel_rfl, rfl, by decide, by decide⟩

set_option maxRecDepth 100000 in
set_option maxHeartbeats 2000000 in
theorem reach_any (E : TE) (w : World) (ord low cmp : Nat → Int) (ons : Nat → Bool) (stk : List Nat) (rea : Nat) (sa : Option Addr) (sc v : Nat) (hM : TM E w ord low cmp ons stk rea sa sc) (hv : v < E.n) (hr : rea ≤ 1048576) (hl : stk.length ≤ 1048576) :
    Calls Try.prog 36 #[.int .i64 v, .pointer (some ⟨E.cR, 0, none⟩), .pointer (some ⟨E.cO, 0, none⟩), .pointer (some ⟨E.cL, 0, none⟩), .pointer (some ⟨E.cS, 0, none⟩), .pointer (some ⟨E.cK, 0, none⟩)] w fun e w' => e = .returned (.tuple #[]) ∧ ∃ sa' sc',
      TM E w' (upd ord v rea) (upd low v rea) cmp (upd ons v true) (stk ++ [v]) (rea + 1) sa' sc' ∧ Fr (fun k => k ∈ E.bs ∨ blk sa = some k) w w' ∧ (blk sa' = blk sa ∨ ∃ g, w.heap.size ≤ g ∧ blk sa' = some g) := by
  have HM := hid hM
  have c1 := hM.o.cell 0
  have c2 := hM.l.cell 0
  have c3 := hM.r.cell 0
  simp at c1 c2 c3
  have e1 := Ints.cell hM.io hv
  have e2 := Ints.cell hM.il hv
  have z1 := Ints.frozen hM.io v
  have z2 := Ints.frozen hM.il v
  have n1 : E.bO ≠ E.bL := nd_ne2 hM.nd 5 6 rfl rfl (by decide)
  have n2 : E.bO ≠ E.cO := nd_ne2 hM.nd 5 0 rfl rfl (by decide)
  have n3 : E.bO ≠ E.cL := nd_ne2 hM.nd 5 1 rfl rfl (by decide)
  have n4 : E.bO ≠ E.cR := nd_ne2 hM.nd 5 4 rfl rfl (by decide)
  have n5 : E.bL ≠ E.cO := nd_ne2 hM.nd 6 0 rfl rfl (by decide)
  have n6 : E.bL ≠ E.cL := nd_ne2 hM.nd 6 1 rfl rfl (by decide)
  have n7 : E.bL ≠ E.cR := nd_ne2 hM.nd 6 4 rfl rfl (by decide)
  clear hM
  go_enter Try.func36, Try.ntmps36
  go_upto_region 0 with fail
  go_region
  have M1 := hid (((HM.out.setO v (rea : Int)).setL v (rea : Int)).drew)
  have F1 := hid ((((Fr.refl (fun k => k ∈ E.bs ∨ blk sa = some k) w).setCell (p := ⟨E.bO, v, none⟩) (fun _ => .inl (by simp [TE.bs])) (.int .i64 rea)).setCell (p := ⟨E.bL, v, none⟩) (fun _ => .inl (by simp [TE.bs])) (.int .i64 rea)).drew)
  clear c1 c2 c3 e1 e2 z1 z2 n1 n2 n3 n4 n5 n6 n7 HM
  generalize ((w.setCell ⟨E.bO, v, none⟩ (.int .i64 rea)).setCell ⟨E.bL, v, none⟩ (.int .i64 rea)).drew = w1 at *
  have c3 := M1.out.r.cell 0
  have z3 := M1.out.r.frozen 0
  simp at c3
  go_upto_region 2 with fail
  have hpp : (rea : Int) + 1 = ((rea + 1 : Nat) : Int) := by omega
  rw [hpp]
  have M2 := hid (M1.out.setR (rea + 1))
  have F2 := hid (F1.out.setCell (p := ⟨E.cR, 0, none⟩) (fun _ => .inl (by simp [TE.bs])) (.int .i64 ((rea + 1 : Nat) : Int)))
  clear c3 z3 M1 F1 hpp
  generalize w1.setCell ⟨E.cR, 0, none⟩ (.int .i64 ((rea + 1 : Nat) : Int)) = w2 at *
  have c4 := M2.out.s.cell 0
  simp at c4
  have hw2 := F2.out.size
  go_wp2_with (refine wpList_app _ _ rfl rfl el33 sa stk.length sc (ints stk) rfl (M2.out.sl.alloc _) w2.heap.size 3 #[.int .i64 v] rfl (Rec.new w2 3 _) rfl (by intro u hu; simp at hu; subst hu; rfl) (by omega) (w2.heap.size + 1) (World.size_alloc _ _) ?_; intro b5 c5 w5 k1 k2 k3 k4; have hf5 := hid (((Fr.refl (fun k => blk sa = some k) w2).alloc _).grown k2 (fun k hk _ => hk)); have x5 := hf5.out.cell c4 (M2.out.ne (by simp [TE.bs])); have y5 := (M2.out.s.fr hf5.out (M2.out.ne (by simp [TE.bs]))).frozen 0; have KC := M2.out.k.fr hf5.out (M2.out.ne (by simp [TE.bs])); have x6 := KC.cell 0; simp at x6; have nkS : E.cK ≠ E.cS := (nd_ne2 M2.out.nd 2 3 rfl rfl (by decide)); have x7 := (Arr.fr M2.out.ik hf5.out (M2.out.ne (by simp [TE.bs]))).cell hv; have x8 := Arr.frozen (Arr.fr M2.out.ik hf5.out (M2.out.ne (by simp [TE.bs]))) v; have nbS : E.bK ≠ E.cS := (nd_ne2 M2.out.nd 8 3 rfl rfl (by decide)))
  go_end0
  have hl : (stk ++ [v]).length = stk.length + 1 := by simp
  have hsl : Sl w5 3 1 (some ⟨b5, 0, none⟩) (stk ++ [v]).length c5 (ints (stk ++ [v])) := by
    rw [hl]; simpa [ints] using k1
  have hb5 : ∀ b, blk (some ⟨b5, 0, none⟩) = some b → b ∉ E.bs ∧ E.H ≤ b := by
    intro b hb
    simp only [blk, Option.some.injEq] at hb
    subst hb
    rcases k3 with q | q
    · exact M2.out.sb _ q
    · refine ⟨fun hm => ?_, ?_⟩
      · have := M2.out.lt _ hm; omega
      · have := M2.out.ge E.cO (by simp [TE.bs])
        have := M2.out.lt E.cO (by simp [TE.bs])
        omega
  have M5 := ((M2.out.setS (fun b hb => hf5.out.block b (M2.out.lt b hb) (M2.out.ne hb)) hsl hb5).setK v true)
  rw [hl] at M5
  refine ⟨rfl, some ⟨b5, 0, none⟩, ⟨c5, M5⟩, ?_, ?_⟩
  · exact ((F2.out.trans hf5.out (fun i _ q => .inr q)).setCell (fun _ => .inl (by simp [TE.bs])) _).setCell (fun _ => .inl (by simp [TE.bs])) _
  · rcases k3 with q | q
    · exact .inl q.symm
    · exact .inr ⟨b5, by omega, rfl⟩
end Go.Proofs.Qxb6615025a
