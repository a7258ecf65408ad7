/- The keys put in order; the model in memory; single operations. -/
import Derived.Test.Qxb6615025aNumb
import Derived.Test.Qxb6615025aLeave
import Derived.Test.Qxb6615025aPlaces
namespace Go.Proofs.Qxb6615025a
open Go.RowKit Go.MapKept

/-! ### the keys, put in order one by one -/
abbrev ltB (a b : ByteArray) : Prop := a.data.toList < b.data.toList

structure KS (ids : List ByteArray) (i : Nat) (ks : List ByteArray) (src : List Nat) : Prop where
  len : src.length = ks.length
  so : ks.Pairwise ltB
  nd : src.Nodup
  lt : ∀ j ∈ src, j < i
  ky : ∀ s ∈ ks, ∃ j, j < i ∧ ids[j]? = some s ∧ ∀ j', j < j' → ids[j']? ≠ some s

theorem KS.nil (ids : List ByteArray) : KS ids 0 [] [] := ⟨rfl, .nil, .nil, by simp, by simp⟩

theorem KS.skip {ids : List ByteArray} {i : Nat} {ks : List ByteArray} {src : List Nat} (h : KS ids i ks src) : KS ids (i + 1) ks src :=
  ⟨h.len, h.so, h.nd, fun j hj => Nat.lt_succ_of_lt (h.lt j hj), fun s hs => by
    obtain ⟨j, h1, h2, h3⟩ := h.ky s hs
    exact ⟨j, by omega, h2, h3⟩⟩

theorem ltB_irrefl (a : ByteArray) : ¬ ltB a a := List.lt_irrefl _
theorem ltB_trans {a b c : ByteArray} (h : ltB a b) (h2 : ltB b c) : ltB a c := List.lt_trans h h2
theorem bytes_inj {a b : ByteArray} (h : a.data.toList = b.data.toList) : a = b := by
  cases a
  cases b
  simpa using h
theorem ltB_total {a b : ByteArray} (h : ¬ ltB a b) (hne : a ≠ b) : ltB b a := by
  have h1 : b.data.toList ≤ a.data.toList := List.not_lt.1 h
  rcases List.le_iff_lt_or_eq.1 h1 with q | q
  · exact q
  · exact absurd (bytes_inj q).symm hne

theorem KS.fresh {ids : List ByteArray} {i : Nat} {ks : List ByteArray} {src : List Nat} (h : KS ids i ks src) {s : ByteArray} (hs : ids[i]? = some s) : s ∉ ks := fun q => by
  obtain ⟨j, h1, h2, h3⟩ := h.ky s q
  exact h3 i h1 hs

theorem KS.put {ids : List ByteArray} {i : Nat} {A B : List ByteArray} {SA SB : List Nat} (h : KS ids i (A ++ B) (SA ++ SB)) {s : ByteArray} (hs : ids[i]? = some s) (hlast : ∀ j', i < j' → ids[j']? ≠ some s)
    (hB : ∀ y ∈ B, ltB s y) (hA : ∀ y ∈ A, ltB y s) : KS ids (i + 1) (A ++ s :: B) (SA ++ i :: SB) := by
  have hl := h.len
  simp only [List.length_append] at hl
  have hso := h.so
  rw [List.pairwise_append] at hso
  have hnd := h.nd
  rw [List.nodup_append] at hnd
  refine ⟨by simp; omega, ?_, ?_, fun j hj => ?_, fun t ht => ?_⟩
  · rw [List.pairwise_append, List.pairwise_cons]
    refine ⟨hso.1, ⟨hB, hso.2.1⟩, fun a ha b hb => ?_⟩
    simp only [List.mem_cons] at hb
    rcases hb with rfl | hb
    · exact hA a ha
    · exact hso.2.2 a ha b hb
  · rw [List.nodup_append, List.nodup_cons]
    refine ⟨hnd.1, ⟨fun q => ?_, hnd.2.1⟩, fun a ha b hb => ?_⟩
    · have := h.lt i (by simp [q]); omega
    · simp only [List.mem_cons] at hb
      rcases hb with rfl | hb
      · intro e; have := h.lt a (by simp [ha]); omega
      · exact hnd.2.2 a ha b hb
  · simp only [List.mem_append, List.mem_cons] at hj
    rcases hj with q | q | q
    · have := h.lt j (by simp [q]); omega
    · omega
    · have := h.lt j (by simp [q]); omega
  · simp only [List.mem_append, List.mem_cons] at ht
    have key : t ∈ A ++ B → ∃ j, j < i + 1 ∧ ids[j]? = some t ∧ ∀ j', j < j' → ids[j']? ≠ some t := fun q => by
      obtain ⟨j, h1, h2, h3⟩ := h.ky t q
      exact ⟨j, by omega, h2, h3⟩
    rcases ht with q | q | q
    · exact key (by simp [q])
    · subst q; exact ⟨i, by omega, hs, hlast⟩
    · exact key (by simp [q])

theorem KS.small {ids : List ByteArray} {i : Nat} {ks : List ByteArray} {src : List Nat} (h : KS ids i ks src) : ks.length ≤ i := by
  rw [← h.len]
  exact nodup_len i _ h.nd h.lt

/-- A node's edges among all edges. -/
theorem sm_le {f : Nat → Nat} {N M : Nat} (h : N ≤ M) : sm f N ≤ sm f M := by
  induction M with
  | zero =>
    have : N = 0 := by omega
    subst this
    exact Nat.le_refl _
  | succ M ih =>
    by_cases e : N = M + 1
    · subst e; exact Nat.le_refl _
    · have := ih (by omega)
      show _ ≤ sm f M + f M
      omega

theorem sum_nodup (f : Nat → Nat) : ∀ (N : Nat) (l : List Nat), l.Nodup → (∀ x ∈ l, x < N) → (l.map f).sum ≤ sm f N
  | 0, l, _, h => by
    cases l with
    | nil => simp
    | cons a t => exact absurd (h a (by simp)) (by omega)
  | N + 1, l, hd, h => by
    by_cases e : N ∈ l
    · obtain ⟨a, b, rfl⟩ := List.append_of_mem e
      rw [List.nodup_append, List.nodup_cons] at hd
      have := sum_nodup f N (a ++ b) (List.nodup_append.2 ⟨hd.1, hd.2.1.2, fun x hx y hy => hd.2.2 x hx y (by simp [hy])⟩) (fun x hx => by
        have h1 := h x (by simp only [List.mem_append, List.mem_cons] at hx ⊢; rcases hx with q | q <;> simp [q])
        have : x ≠ N := fun q => by
          subst q
          rw [List.mem_append] at hx
          rcases hx with q | q
          · exact hd.2.2 x q x (by simp) rfl
          · exact hd.2.1.1 q
        omega)
      simp only [List.map_append, List.map_cons, List.sum_append, List.sum_cons] at this ⊢
      show _ ≤ sm f N + f N
      omega
    · have := sum_nodup f N l hd (fun x hx => by
        have := h x hx
        have : x ≠ N := fun q => e (q ▸ hx)
        omega)
      show _ ≤ sm f N + f N
      omega

/-! ### the model in memory, its keys and sources -/
structure Z (H bm bx : Nat) (w : World) (ks : List ByteArray) (src : List Nat) (ak : Option Addr) (ck : Nat) (as' : Option Addr) (cs : Nat) : Prop where
  st : Rec w bm 37 #[.int .i64 0, .slice ak ks.length ck, .slice as' src.length cs, .slice none 0 0, .slice none 0 0, .slice none 0 0, .slice none 0 0, .int .i64 0, .map (some bx)]
  k : Sl w 9 1 ak ks.length ck (strs ks)
  s : Sl w 3 1 as' src.length cs (ints src)
  m : MapAt .string w bx 0 (fun _ => none)
  fk : ∀ g, blk ak = some g → H ≤ g
  fs : ∀ g, blk as' = some g → H ≤ g
  ap : ∀ g, blk ak = some g → blk as' ≠ some g
  hb : bm < H ∧ bx < H ∧ bm ≠ bx

theorem strs_snoc (ks : List ByteArray) (s : ByteArray) : strs (ks ++ [s]) = strs ks ++ [.string s] := by simp [strs]
theorem ints_snoc (l : List Nat) (i : Nat) : ints (l ++ [i]) = ints l ++ [.int .i64 (i : Int)] := by simp [ints]

theorem Z.keysApp {H bm bx : Nat} {w w1 : World} {ks : List ByteArray} {src : List Nat} {ak : Option Addr} {ck : Nat} {as' : Option Addr} {cs : Nat} (h : Z H bm bx w ks src ak ck as' cs) {s : ByteArray} {g c1 : Nat}
    (k1 : Sl w1 9 1 (some ⟨g, 0, none⟩) (ks.length + 1) c1 (strs ks ++ [.string s])) (hf : Fr (fun b => blk ak = some b) w w1) (hg : blk ak = some g ∨ w.heap.size ≤ g) (hH : H ≤ w.heap.size) :
    Z H bm bx (w1.setCell ⟨bm, 1, none⟩ (.slice (some ⟨g, 0, none⟩) (ks.length + 1) c1)) (ks ++ [s]) src (some ⟨g, 0, none⟩) c1 as' cs := by
  have hbm : ¬ blk ak = some bm := fun q => by have := h.fk bm q; have := h.hb; omega
  have hbx : ¬ blk ak = some bx := fun q => by have := h.fk bx q; have := h.hb; omega
  have hgH : H ≤ g := by
    rcases hg with q | q
    · exact h.fk g q
    · omega
  have hb := h.hb
  refine ⟨?_, ?_, ?_, ?_, fun g' hg' => ?_, h.fs, fun g' hg' q => ?_, h.hb⟩
  · have := (h.st.fr hf hbm).set 1 (.slice (some ⟨g, 0, none⟩) (ks.length + 1) c1)
    simpa using this
  · rw [strs_snoc]
    simpa using k1.setOther (p := ⟨bm, 1, none⟩) (by simp [blk]; omega) _
  · refine (h.s.fr hf (fun b hb q => h.ap b q hb)).setOther (p := ⟨bm, 1, none⟩) (fun q => ?_) _
    have := h.fs _ q
    simp at this
    omega
  · refine h.m.of_block ?_
    exact (Below.heap_setCell w1 ⟨bm, 1, none⟩ _ bx (by simp; omega)).trans (hf.block bx h.m.lt hbx)
  · simp [blk] at hg'; omega
  · simp [blk] at hg'
    subst hg'
    rcases hg with r | r
    · exact h.ap g r q
    · have := h.s.lt q; omega

theorem Z.srcApp {H bm bx : Nat} {w w1 : World} {ks : List ByteArray} {src : List Nat} {ak : Option Addr} {ck : Nat} {as' : Option Addr} {cs : Nat} (h : Z H bm bx w ks src ak ck as' cs) {i g c1 : Nat}
    (k1 : Sl w1 3 1 (some ⟨g, 0, none⟩) (src.length + 1) c1 (ints src ++ [.int .i64 (i : Int)])) (hf : Fr (fun b => blk as' = some b) w w1) (hg : blk as' = some g ∨ w.heap.size ≤ g) (hH : H ≤ w.heap.size) :
    Z H bm bx (w1.setCell ⟨bm, 2, none⟩ (.slice (some ⟨g, 0, none⟩) (src.length + 1) c1)) ks (src ++ [i]) ak ck (some ⟨g, 0, none⟩) c1 := by
  have hbm : ¬ blk as' = some bm := fun q => by have := h.fs bm q; have := h.hb; omega
  have hbx : ¬ blk as' = some bx := fun q => by have := h.fs bx q; have := h.hb; omega
  have hgH : H ≤ g := by
    rcases hg with q | q
    · exact h.fs g q
    · omega
  have hb := h.hb
  refine ⟨?_, ?_, ?_, ?_, h.fk, fun g' hg' => ?_, fun g' hg' q => ?_, h.hb⟩
  · have := (h.st.fr hf hbm).set 2 (.slice (some ⟨g, 0, none⟩) (src.length + 1) c1)
    simpa using this
  · refine (h.k.fr hf (fun b hb q => h.ap b hb q)).setOther (p := ⟨bm, 2, none⟩) (fun q => ?_) _
    have := h.fk _ q
    simp at this
    omega
  · rw [ints_snoc]
    simpa using k1.setOther (p := ⟨bm, 2, none⟩) (by simp [blk]; omega) _
  · refine h.m.of_block ?_
    exact (Below.heap_setCell w1 ⟨bm, 2, none⟩ _ bx (by simp; omega)).trans (hf.block bx h.m.lt hbx)
  · simp [blk] at hg'; omega
  · simp [blk] at q
    subst q
    rcases hg with r | r
    · exact h.ap g hg' r
    · have := h.k.lt hg'; omega

theorem Z.setKey {H bm bx : Nat} {w : World} {ks : List ByteArray} {src : List Nat} {g ck : Nat} {as' : Option Addr} {cs : Nat} (h : Z H bm bx w ks src (some ⟨g, 0, none⟩) ck as' cs) (j : Nat) (s : ByteArray) :
    Z H bm bx (w.setCell ⟨g, j, none⟩ (.string s)) (ks.set j s) src (some ⟨g, 0, none⟩) ck as' cs := by
  have hg := h.fk g rfl
  have hb := h.hb
  refine ⟨?_, ?_, ?_, ?_, h.fk, h.fs, h.ap, h.hb⟩
  · simpa using h.st.setOther (p := ⟨g, j, none⟩) (by simp; omega) _
  · have := h.k.set j (.string s)
    rw [show strs (ks.set j s) = (strs ks).set j (.string s) by simp [strs, List.map_set]]
    simpa using this
  · exact h.s.setOther (p := ⟨g, j, none⟩) (fun q => h.ap g rfl q) _
  · exact h.m.of_block (Below.heap_setCell w ⟨g, j, none⟩ _ bx (by simp; omega))

theorem Z.setSrc {H bm bx : Nat} {w : World} {ks : List ByteArray} {src : List Nat} {ak : Option Addr} {ck g cs : Nat} (h : Z H bm bx w ks src ak ck (some ⟨g, 0, none⟩) cs) (j i : Nat) :
    Z H bm bx (w.setCell ⟨g, j, none⟩ (.int .i64 (i : Int))) ks (src.set j i) ak ck (some ⟨g, 0, none⟩) cs := by
  have hg := h.fs g rfl
  have hb := h.hb
  refine ⟨?_, ?_, ?_, ?_, h.fk, h.fs, h.ap, h.hb⟩
  · simpa using h.st.setOther (p := ⟨g, j, none⟩) (by simp; omega) _
  · exact h.k.setOther (p := ⟨g, j, none⟩) (fun q => h.ap g q rfl) _
  · have := h.s.set j (.int .i64 (i : Int))
    rw [show ints (src.set j i) = (ints src).set j (.int .i64 (i : Int)) by simp [ints, List.map_set]]
    simpa using this
  · exact h.m.of_block (Below.heap_setCell w ⟨g, j, none⟩ _ bx (by simp; omega))

theorem Z.drew {H bm bx : Nat} {w : World} {ks : List ByteArray} {src : List Nat} {ak : Option Addr} {ck : Nat} {as' : Option Addr} {cs : Nat} (h : Z H bm bx w ks src ak ck as' cs) : Z H bm bx w.drew ks src ak ck as' cs :=
  ⟨h.st, h.k, h.s, h.m, h.fk, h.fs, h.ap, h.hb⟩
theorem Z.drewN {H bm bx : Nat} {w : World} {ks : List ByteArray} {src : List Nat} {ak : Option Addr} {ck : Nat} {as' : Option Addr} {cs : Nat} (h : Z H bm bx w ks src ak ck as' cs) (k : Nat) : Z H bm bx (w.drewN k) ks src ak ck as' cs :=
  ⟨h.st, h.k, h.s, h.m, h.fk, h.fs, h.ap, h.hb⟩

/-! ### single operations -/
theorem ld9 (w : World) (b off : Nat) (v : Value) (hc : w.cell? ⟨b, off, none⟩ = some v) : (Instr.loadAt 9 (.pointer (some ⟨b, off, none⟩))).run Try.prog w = .ok v w := by
  simp [go_sem, hc]
theorem ld22 (w : World) (b off : Nat) (v : Value) (hc : w.cell? ⟨b, off, none⟩ = some v) : (Instr.loadAt 22 (.pointer (some ⟨b, off, none⟩))).run Try.prog w = .ok v w := by
  simp [go_sem, hc]
theorem ld34 (w : World) (b off : Nat) (v : Value) (hc : w.cell? ⟨b, off, none⟩ = some v) : (Instr.loadAt 34 (.pointer (some ⟨b, off, none⟩))).run Try.prog w = .ok v w := by
  simp [go_sem, hc]
theorem idx22 (w : World) (b off len cap i : Nat) (hi : i < len) : (Instr.indexAt 22 (.slice (some ⟨b, off, none⟩) len cap) (.int .i64 i)).run Try.prog w = .ok (.pointer (some ⟨b, off + i, none⟩)) w := by
  have h : (i : Int) < len := by omega
  simp [go_sem, h]
theorem idx34 (w : World) (b len cap i : Nat) (hi : i < len) : (Instr.indexAt 34 (.slice (some ⟨b, 0, none⟩) len cap) (.int .i64 i)).run Try.prog w = .ok (.pointer (some ⟨b, i, none⟩)) w := by
  have h : (i : Int) < len := by omega
  simp [go_sem, h]
theorem st22 (w : World) (b off : Nat) (v0 : Value) (ao : Option Addr) (n c : Nat) (hc : w.cell? ⟨b, off, none⟩ = some v0) (hf : w.frozen? ⟨b, off, none⟩ = false) : (Instr.storeAt 22 (.pointer (some ⟨b, off, none⟩)) (.slice ao n c)).run Try.prog w = .ok () (w.setCell ⟨b, off, none⟩ (.slice ao n c)) := by
  simp [go_sem, hc, hf]

section
variable {ops : Array Oper} {S : World → Prop} {a : Act} {o : Oper} {w w' : World} {K : Act → World → Prop} {Q : Exit → Act → World → Prop}
theorem y_idx22 (x i : Operand) (ho : o.op = Op.indexAddr 22 x i) (hg : o.guard = none) (b off len cap k : Nat) (hx : a.eval x = .slice (some ⟨b, off, none⟩) len cap) (hi : a.eval i = .int .i64 k) (hk : k < len) : YieldsIf Try.prog ops S o (.pointer (some ⟨b, off + k, none⟩)) a :=
  y_run hg _ fun w _ => by
    have h := idx22 w b off len cap k hk
    simp only [execOp, ho, hx, hi, Sem.run_bind, h, Result.andThen]
    rfl
theorem wp_bslice22 (x : Operand) (ho : o.op = Op.buildSlice 22 1 #[(0, x)]) (s : ByteArray) (hx : a.eval x = .string s)
    {d : Option Nat} (hd : o.dst = d) (hK : K (a.put d (.slice (some ⟨w.heap.size, 0, none⟩) 1 1)) (w.alloc (.cells #[.string s] 9))) : o.wp Try.prog a w K Q :=
  wp_val _ _ (by
    have h : (Instr.buildSlice 22 1 #[(0, .string s)]).run Try.prog w = .ok (.slice (some ⟨w.heap.size, 0, none⟩) 1 1) (w.alloc (.cells #[.string s] 9)) := by kernel_rfl
    simp only [execOp, ho, List.map_toArray, List.map_cons, List.map_nil, hx, Sem.run_bind, h, Result.andThen]
    rfl) hd hK
theorem wp_bslice33 (x : Operand) (ho : o.op = Op.buildSlice 33 1 #[(0, x)]) (p : Int) (hx : a.eval x = .int .i64 p)
    {d : Option Nat} (hd : o.dst = d) (hK : K (a.put d (.slice (some ⟨w.heap.size, 0, none⟩) 1 1)) (w.alloc (.cells #[.int .i64 p] 3))) : o.wp Try.prog a w K Q :=
  wp_val _ _ (by
    have h : (Instr.buildSlice 33 1 #[(0, .int .i64 p)]).run Try.prog w = .ok (.slice (some ⟨w.heap.size, 0, none⟩) 1 1) (w.alloc (.cells #[.int .i64 p] 3)) := by kernel_rfl
    simp only [execOp, ho, List.map_toArray, List.map_cons, List.map_nil, hx, Sem.run_bind, h, Result.andThen]
    rfl) hd hK
theorem r_idx34 (x i : Operand) (ho : o.op = Op.indexAddr 34 x i) (b len cap k : Nat) (hx : a.eval x = .slice (some ⟨b, 0, none⟩) len cap) (hi : a.eval i = .int .i64 k) (hk : k < len) : (execOp a.eval o).run Try.prog w = .ok (.value (.pointer (some ⟨b, k, none⟩))) w := by
  have h := idx34 w b len cap k hk
  simp only [execOp, ho, hx, hi, Sem.run_bind, h, Result.andThen]; rfl
end

end Go.Proofs.Qxb6615025a
