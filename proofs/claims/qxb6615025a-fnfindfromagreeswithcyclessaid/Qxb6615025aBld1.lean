/- zzBuild: the model while it is built, the distances, the shortest cycles. -/
import Derived.Test.Qxb6615025aCheck
import Derived.Test.Qxb6615025aCycle
import Derived.Test.Qxb6615025aSame
import Derived.BigRegion
import Derived.BigQuiet
namespace Go.Proofs.Qxb6615025a
open Go.RowKit Go.MapKept

/-- The model in memory, its keys in order. -/
structure Y (H bm bx n : Nat) (w : World) (ks : List ByteArray) (src : List Nat) (ak : Option Addr) (ck : Nat) (as' : Option Addr) (cs : Nat) (v3 v4 v5 v6 : Value) (mc : Nat) (mf : Value → Option Value) : Prop where
  st : Rec w bm 37 #[.int .i64 (n : Int), .slice ak n ck, .slice as' n cs, v3, v4, v5, v6, .int .i64 0, .map (some bx)]
  k : Sl w 9 1 ak n ck (strs ks)
  s : Sl w 3 1 as' n cs (ints src)
  m : MapAt .string w bx mc mf
  fk : ∀ g, blk ak = some g → H ≤ g
  fs : ∀ g, blk as' = some g → H ≤ g
  ap : ∀ g, blk ak = some g → blk as' ≠ some g
  hb : bm < H ∧ bx < H ∧ bm ≠ bx

section Y
variable {H bm bx n : Nat} {w w' : World} {ks : List ByteArray} {src : List Nat} {ak : Option Addr} {ck : Nat} {as' : Option Addr} {cs : Nat} {v3 v4 v5 v6 : Value} {mc : Nat} {mf : Value → Option Value}
theorem Y.drew (h : Y H bm bx n w ks src ak ck as' cs v3 v4 v5 v6 mc mf) : Y H bm bx n w.drew ks src ak ck as' cs v3 v4 v5 v6 mc mf := ⟨h.st, h.k, h.s, h.m, h.fk, h.fs, h.ap, h.hb⟩
theorem Y.drewN (h : Y H bm bx n w ks src ak ck as' cs v3 v4 v5 v6 mc mf) (j : Nat) : Y H bm bx n (w.drewN j) ks src ak ck as' cs v3 v4 v5 v6 mc mf := ⟨h.st, h.k, h.s, h.m, h.fk, h.fs, h.ap, h.hb⟩
theorem Y.setMap (h : Y H bm bx n w ks src ak ck as' cs v3 v4 v5 v6 mc mf) (hf : Fr (fun b => b = bx) w w') {mc' : Nat} {mf' : Value → Option Value} (hm : MapAt .string w' bx mc' mf') : Y H bm bx n w' ks src ak ck as' cs v3 v4 v5 v6 mc' mf' :=
  ⟨h.st.fr hf h.hb.2.2, h.k.fr hf (fun g hg q => by have := h.fk g hg; have := h.hb; omega), h.s.fr hf (fun g hg q => by have := h.fs g hg; have := h.hb; omega), hm, h.fk, h.fs, h.ap, h.hb⟩
/-- Other blocks are written. -/
theorem Y.fr {M : Nat → Prop} (h : Y H bm bx n w ks src ak ck as' cs v3 v4 v5 v6 mc mf) (hf : Fr M w w') (h1 : ¬ M bm) (h2 : ¬ M bx) (h3 : ∀ g, blk ak = some g → ¬ M g) (h4 : ∀ g, blk as' = some g → ¬ M g) : Y H bm bx n w' ks src ak ck as' cs v3 v4 v5 v6 mc mf :=
  ⟨h.st.fr hf h1, h.k.fr hf h3, h.s.fr hf h4, h.m.of_block (hf.block bx h.m.lt h2), h.fk, h.fs, h.ap, h.hb⟩
/-- One of the model's own cells is written. -/
theorem Y.cellSet (h : Y H bm bx n w ks src ak ck as' cs v3 v4 v5 v6 mc mf) (j : Nat) (v : Value) {u3 u4 u5 u6 : Value}
    (he : (#[.int .i64 (n : Int), .slice ak n ck, .slice as' n cs, v3, v4, v5, v6, .int .i64 0, .map (some bx)] : Array Value).setIfInBounds j v = #[.int .i64 (n : Int), .slice ak n ck, .slice as' n cs, u3, u4, u5, u6, .int .i64 0, .map (some bx)]) :
    Y H bm bx n (w.setCell ⟨bm, j, none⟩ v) ks src ak ck as' cs u3 u4 u5 u6 mc mf := by
  have hb := h.hb
  refine ⟨by rw [← he]; exact h.st.set j v, h.k.setOther (p := ⟨bm, j, none⟩) (fun q => by have := h.fk _ q; simp at this; omega) _, h.s.setOther (p := ⟨bm, j, none⟩) (fun q => by have := h.fs _ q; simp at this; omega) _, h.m.of_block (Below.heap_setCell _ _ _ bx (by simp; omega)), h.fk, h.fs, h.ap, h.hb⟩
end Y

/-- The walk breadth first from u, over the whole graph. -/
def bfs (g : Nat → List Nat) (n u : Nat) : GS := growL (fun _ => true) g (n + 1) 0 (grow0 (fun _ => -2) (fun _ => -1) u)

theorem row_lt {u' u n v : Nat} (h : u' < u) (hv : v < n) : u' * n + v < u * n := by
  have := Nat.mul_le_mul_right n (show u' + 1 ≤ u by omega)
  rw [Nat.add_mul] at this
  omega

/-- A node is unreached just where its distance is below 0. -/
def GD (n : Nat) (s : GS) : Prop := ∀ v, v < n → (s.fr v = -2 ↔ s.dp v < 0)

theorem GD.start {n u : Nat} : GD n (grow0 (fun _ => -2) (fun _ => -1) u) := fun v _ => by
  simp only [grow0]
  by_cases e : v = u
  · subst e; simp
  · rw [upd_other _ _ e, upd_other _ _ e]; simp

theorem GD.visit {n u v : Nat} {s : GS} (h : GD n s) (hu : 0 ≤ s.dp u) : GD n (visit (fun _ => true) u s v) := by
  unfold Qxb6615025a.visit
  split
  · intro x hx
    simp only
    by_cases e : x = v
    · subst e
      simp
      omega
    · rw [upd_other _ _ e, upd_other _ _ e]
      exact h x hx
  · exact h

/-- A shorter cycle through y is looked for at the edge from u. -/
def scStep (D : Nat → Int) (n u : Nat) (f : Nat → Int) (y : Nat) : Nat → Int := if 0 ≤ D (y * n + u) ∧ (f y = 0 ∨ D (y * n + u) + 1 < f y) then upd f y (D (y * n + u) + 1) else f
def scAt (g : Nat → List Nat) (D : Nat → Int) (n : Nat) : Nat → Nat → Int
  | 0 => fun _ => 0
  | u + 1 => (g u).foldl (scStep D n u) (scAt g D n u)

theorem bfs_bound {g : Nat → List Nat} {n u v : Nat} (hg : ∀ i, i < n → ∀ x ∈ g i, x < n) (hn : n ≤ 1024) (hu : u < n) : -1 ≤ (bfs g n u).dp v ∧ (bfs g n u).dp v ≤ 1024 := by
  have hT : Tree n u (fun _ => true) g (fun _ => -2) (fun _ => -1) (bfs g n u) := grow_tree hg hu (fun _ _ _ => rfl)
  by_cases hv : v ∈ (bfs g n u).rc
  · obtain ⟨j, hj⟩ := List.mem_iff_getElem?.1 hv
    have h1 := hT.dmono j j v v hj hj (Nat.le_refl _)
    obtain ⟨par, hD, _⟩ := hT.deep
    have W := hT.wys
    have := W.small hv
    omega
  · have := (hT.out v hv).2
    omega

theorem Rw.drewN {H : Nat} {w : World} {bn n : Nat} {ao : Nat → Option Addr} {c : Nat → Nat} {g : Nat → List Nat} (h : Rw H w bn n ao c g) (k : Nat) : Rw H (w.drewN k) bn n ao c g :=
  ⟨⟨h.adj.arr, h.adj.row⟩, h.far, h.dis, h.hb⟩

theorem str_ne {t s : ByteArray} (h : t ≠ s) : (t.toList == s.toList) = false := by
  rw [ByteArray.toList_eq, ByteArray.toList_eq]
  simp only [beq_eq_false_iff_ne, ne_eq]
  exact fun q => h (bytes_inj q)

end Go.Proofs.Qxb6615025a
