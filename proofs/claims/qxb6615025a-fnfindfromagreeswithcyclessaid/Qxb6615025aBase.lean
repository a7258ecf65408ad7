/-
  The ground of the walks: what a block of integers holds, what a call may turn.
-/
import Derived.WalkKit
import Derived.WalkSpells
import Derived.WalkLawsBesides
import Derived.Deep.QuietTactic
import Derived.BigQuiet
import Derived.Deep.DeepCutAuto
import Derived.Deep.LoopGhost
import Derived.Deep.RegionHeld3
import Derived.Deep.AppendLies
namespace Go.Proofs.Qxb6615025a
open Go.RowKit

theorem hid {p : Prop} (h : p) : Hid p := h

/-! ### What a call may turn -/

/-- From w to w' nothing that was there has turned but blocks that M allows. -/
structure Fr (M : Nat → Prop) (w w' : World) : Prop where
  os : w'.os = w.os
  tape : w'.tape = w.tape
  output : w'.output = w.output
  size : w.heap.size ≤ w'.heap.size
  block : ∀ k, k < w.heap.size → ¬ M k → w'.heap[k]? = w.heap[k]?

/-- Nothing that was there has turned. -/
def Nothing : Nat → Prop := fun _ => False

theorem Fr.refl (M : Nat → Prop) (w : World) : Fr M w w := ⟨rfl, rfl, rfl, Nat.le_refl _, fun _ _ _ => rfl⟩

theorem Fr.trans {M N : Nat → Prop} {a b c : World} (h : Fr M a b) (k : Fr N b c) (hMN : ∀ i, i < a.heap.size → N i → M i) : Fr M a c :=
  ⟨k.os.trans h.os, k.tape.trans h.tape, k.output.trans h.output, Nat.le_trans h.size k.size,
    fun i hi hm => (k.block i (Nat.lt_of_lt_of_le hi h.size) (fun q => hm (hMN i hi q))).trans (h.block i hi hm)⟩

theorem Fr.mono {M N : Nat → Prop} {w w' : World} (h : Fr M w w') (hMN : ∀ i, i < w.heap.size → M i → N i) : Fr N w w' :=
  ⟨h.os, h.tape, h.output, h.size, fun i hi hn => h.block i hi (fun q => hn (hMN i hi q))⟩

theorem Fr.drew {M : Nat → Prop} {a w : World} (h : Fr M a w) : Fr M a w.drew := ⟨h.os, h.tape, h.output, h.size, h.block⟩

theorem Fr.drewN {M : Nat → Prop} {a w : World} (h : Fr M a w) (n : Nat) : Fr M a (w.drewN n) := ⟨h.os, h.tape, h.output, h.size, h.block⟩

theorem Fr.alloc {M : Nat → Prop} {a w : World} (h : Fr M a w) (o : Obj) : Fr M a (w.alloc o) :=
  ⟨h.os, h.tape, h.output, Nat.le_trans h.size (by simp), fun k hk hm => (Below.heap_alloc w o k (Nat.lt_of_lt_of_le hk h.size)).trans (h.block k hk hm)⟩

theorem Fr.setCell {M : Nat → Prop} {a w : World} (h : Fr M a w) {p : Addr} (hp : p.block < a.heap.size → M p.block) (u : Value) : Fr M a (w.setCell p u) :=
  ⟨h.os, h.tape, h.output, by rw [World.size_setCell]; exact h.size, fun k hk hm => (Below.heap_setCell w p u k (fun e => hm (e ▸ hp (e ▸ hk)))).trans (h.block k hk hm)⟩

theorem Fr.grown {M : Nat → Prop} {a w w' : World} {row : Option Nat} (h : Fr M a w) (hg : w.grownBy w' row) (hr : ∀ k, row = some k → k < a.heap.size → M k) : Fr M a w' :=
  h.trans ⟨hg.os, hg.tape, hg.output, hg.size, fun k hk hm => hg.block k hk (fun e => hm e.symm)⟩ (fun i hi q => hr i q hi)

theorem Fr.below {M : Nat → Prop} {w w' : World} {B : Nat} (h : Fr M w w') (hB : ∀ i, i < B → i < w.heap.size ∧ ¬ M i) : Below B w w' :=
  ⟨h.os, h.tape, h.output, h.size, fun k hk => h.block k (hB k hk).1 (hB k hk).2⟩

theorem Fr.of_below {w w' : World} (h : Below w.heap.size w w') : Fr Nothing w w' := ⟨h.os, h.tape, h.output, h.size, fun k hk _ => h.block k hk⟩

theorem Fr.to_below {w w' : World} (h : Fr Nothing w w') : Below w.heap.size w w' := ⟨h.os, h.tape, h.output, h.size, fun k hk => h.block k hk (fun q => q)⟩

theorem Fr.cell {M : Nat → Prop} {w w' : World} (h : Fr M w w') {b o : Nat} {v : Value} (hc : w.cell? ⟨b, o, none⟩ = some v) (hm : ¬ M b) : w'.cell? ⟨b, o, none⟩ = some v :=
  (World.cell?_of_block (w := w) (a := ⟨b, o, none⟩) (h.block b (World.block_lt_of_cell? _ _ hc) hm)).trans hc

theorem lt_of_heap {w : World} {b : Nat} {o : Obj} (h : w.heap[b]? = some o) : b < w.heap.size := by
  rcases Nat.lt_or_ge b w.heap.size with q | q
  · exact q
  · rw [Array.getElem?_eq_none q] at h; cases h

theorem Fr.heap {M : Nat → Prop} {w w' : World} (h : Fr M w w') {b : Nat} {o : Obj} (hc : w.heap[b]? = some o) (hm : ¬ M b) : w'.heap[b]? = some o :=
  (h.block b (lt_of_heap hc) hm).trans hc

/-! ### A block of n cells, told by a function -/

/-- Block b holds n cells of the type T, the i-th is f i. -/
def Arr (w : World) (b : Nat) (T : TypeId) (n : Nat) (f : Nat → Value) : Prop :=
  w.heap[b]? = some (.cells (Array.ofFn fun i : Fin n => f i) T (0, 0))

def upd {α : Type} (f : Nat → α) (i : Nat) (v : α) : Nat → α := fun j => if j = i then v else f j

@[simp] theorem upd_same {α : Type} (f : Nat → α) (i : Nat) (v : α) : upd f i v i = v := by simp [upd]
theorem upd_other {α : Type} (f : Nat → α) {i j : Nat} (v : α) (h : j ≠ i) : upd f i v j = f j := by simp [upd, h]

theorem Arr.lt {w : World} {b T n : Nat} {f : Nat → Value} (h : Arr w b T n f) : b < w.heap.size := lt_of_heap h

theorem Arr.cell {w : World} {b T n : Nat} {f : Nat → Value} (h : Arr w b T n f) {i : Nat} (hi : i < n) : w.cell? ⟨b, i, none⟩ = some (f i) := by
  unfold Arr at h
  simp [World.cell?, h, hi]

theorem Arr.frozen {w : World} {b T n : Nat} {f : Nat → Value} (h : Arr w b T n f) (i : Nat) : w.frozen? ⟨b, i, none⟩ = false := by
  unfold Arr at h
  simp only [World.frozen?, h]
  simp

theorem Arr.set {w : World} {b T n : Nat} {f : Nat → Value} (h : Arr w b T n f) (i : Nat) (v : Value) : Arr (w.setCell ⟨b, i, none⟩ v) b T n (upd f i v) := by
  unfold Arr at *
  have hl := lt_of_heap h
  simp only [World.setCell, Array.getElem?_modify, if_true, h, Option.map_some]
  congr 2
  apply Array.ext
  · simp
  · intro j h1 h2
    simp only [Array.size_ofFn] at h2
    simp only [Option.isSome_none, Bool.false_eq_true, if_false]
    rw [Array.getElem_setIfInBounds (by simpa using h2)]
    by_cases e : i = j
    · subst e; simp
    · simp [e, upd_other f v (fun q => e q.symm)]

theorem Arr.of_heap {w w' : World} {b T n : Nat} {f : Nat → Value} (h : Arr w b T n f) (hb : w'.heap[b]? = w.heap[b]?) : Arr w' b T n f := hb.trans h

theorem Arr.fr {M : Nat → Prop} {w w' : World} {b T n : Nat} {f : Nat → Value} (h : Arr w b T n f) (hf : Fr M w w') (hm : ¬ M b) : Arr w' b T n f := hf.heap h hm

theorem Arr.alloc {w : World} {b T n : Nat} {f : Nat → Value} (h : Arr w b T n f) (o : Obj) : Arr (w.alloc o) b T n f := h.of_heap (Below.heap_alloc w o b h.lt)

theorem Arr.setOther {w : World} {b T n : Nat} {f : Nat → Value} (h : Arr w b T n f) {p : Addr} (hp : b ≠ p.block) (u : Value) : Arr (w.setCell p u) b T n f := h.of_heap (Below.heap_setCell w p u b hp)

theorem Arr.congr {w : World} {b T n : Nat} {f g : Nat → Value} (h : Arr w b T n f) (he : ∀ i, i < n → f i = g i) : Arr w b T n g := by
  unfold Arr at *
  rw [h]
  congr 3
  funext i
  exact he i i.isLt

/-- Integers. -/
def Ints (w : World) (b n : Nat) (f : Nat → Int) : Prop := Arr w b 3 n fun i => .int .i64 (f i)
/-- Bools. -/
def Bools (w : World) (b n : Nat) (f : Nat → Bool) : Prop := Arr w b 4 n fun i => .bool (f i)

theorem Ints.cell {w : World} {b n : Nat} {f : Nat → Int} (h : Ints w b n f) {i : Nat} (hi : i < n) : w.cell? ⟨b, i, none⟩ = some (.int .i64 (f i)) := Arr.cell h hi
theorem Ints.frozen {w : World} {b n : Nat} {f : Nat → Int} (h : Ints w b n f) (i : Nat) : w.frozen? ⟨b, i, none⟩ = false := Arr.frozen h i
theorem Ints.set {w : World} {b n : Nat} {f : Nat → Int} (h : Ints w b n f) (i : Nat) (v : Int) : Ints (w.setCell ⟨b, i, none⟩ (.int .i64 v)) b n (upd f i v) :=
  (Arr.set h i (.int .i64 v)).congr fun j _ => by by_cases e : j = i <;> simp [upd, e]
theorem Bools.set {w : World} {b n : Nat} {f : Nat → Bool} (h : Bools w b n f) (i : Nat) (v : Bool) : Bools (w.setCell ⟨b, i, none⟩ (.bool v)) b n (upd f i v) :=
  (Arr.set h i (.bool v)).congr fun j _ => by by_cases e : j = i <;> simp [upd, e]

/-- What 'make' lays. -/
theorem madeCells_one (z : Value) (n : Nat) : madeCells #[z] n = Array.ofFn fun _ : Fin n => z := by
  apply Array.ext
  · simp [madeCells]
  · intro i h1 h2
    simp [madeCells, Nat.mod_one]

/-! ### A block whose cells are known -/

/-- Block b holds the cells cs. -/
def Rec (w : World) (b : Nat) (T : TypeId) (cs : Array Value) : Prop := w.heap[b]? = some (.cells cs T (0, 0))

theorem Rec.lt {w : World} {b T : Nat} {cs : Array Value} (h : Rec w b T cs) : b < w.heap.size := lt_of_heap h
theorem Rec.cell {w : World} {b T : Nat} {cs : Array Value} (h : Rec w b T cs) (o : Nat) : w.cell? ⟨b, o, none⟩ = cs[o]? := by
  unfold Rec at h
  simp [World.cell?, h]
theorem Rec.frozen {w : World} {b T : Nat} {cs : Array Value} (h : Rec w b T cs) (o : Nat) : w.frozen? ⟨b, o, none⟩ = false := by
  unfold Rec at h
  simp only [World.frozen?, h]
  simp
theorem Rec.set {w : World} {b T : Nat} {cs : Array Value} (h : Rec w b T cs) (o : Nat) (v : Value) : Rec (w.setCell ⟨b, o, none⟩ v) b T (cs.setIfInBounds o v) := by
  unfold Rec at *
  simp only [World.setCell, Array.getElem?_modify, if_true, h, Option.map_some]
  rfl
theorem Rec.of_heap {w w' : World} {b T : Nat} {cs : Array Value} (h : Rec w b T cs) (hb : w'.heap[b]? = w.heap[b]?) : Rec w' b T cs := hb.trans h
theorem Rec.fr {M : Nat → Prop} {w w' : World} {b T : Nat} {cs : Array Value} (h : Rec w b T cs) (hf : Fr M w w') (hm : ¬ M b) : Rec w' b T cs := hf.heap h hm
theorem Rec.alloc {w : World} {b T : Nat} {cs : Array Value} (h : Rec w b T cs) (o : Obj) : Rec (w.alloc o) b T cs := h.of_heap (Below.heap_alloc w o b h.lt)
theorem Rec.setOther {w : World} {b T : Nat} {cs : Array Value} (h : Rec w b T cs) {p : Addr} (hp : b ≠ p.block) (u : Value) : Rec (w.setCell p u) b T cs := h.of_heap (Below.heap_setCell w p u b hp)
theorem Rec.new (w : World) (T : Nat) (cs : Array Value) : Rec (w.alloc (.cells cs T)) w.heap.size T cs := by
  unfold Rec World.alloc; simp

/-! ### A slice of the call's own -/

/-- The slice value 'ao, n, c' owns a row that begins with xs (size cells an element). -/
def Sl (w : World) (T size : Nat) (ao : Option Addr) (n c : Nat) (xs : List Value) : Prop := w.ownsRow 0 T size (.slice ao n c) n xs

theorem Sl.nil (w : World) (T size : Nat) : Sl w T size none 0 0 [] := World.ownsRow_nil _ _ _ _

theorem Sl.length {w : World} {T size n c : Nat} {ao : Option Addr} {xs : List Value} (h : Sl w T size ao n c xs) : xs.length = n * size := h.1

/-- The slice's block. -/
def blk : Option Addr → Option Nat
  | some a => some a.block
  | none => none

theorem ownBlock_slice (ao : Option Addr) (n c : Nat) : (Value.slice ao n c).ownBlock = blk ao := by cases ao <;> rfl

theorem Sl.form {w : World} {T size n c : Nat} {ao : Option Addr} {xs : List Value} (h : Sl w T size ao n c xs) :
    (ao = none ∧ n = 0 ∧ c = 0 ∧ xs = []) ∨ ∃ g cur, ao = some ⟨g, 0, none⟩ ∧ w.heap[g]? = some (.cells cur T (0, 0)) ∧ n ≤ c ∧ c ≤ maxLen ∧ cur.size = c * size ∧ cur.toList.take (n * size) = xs := by
  obtain ⟨h1, h2⟩ := h
  rcases h2 with ⟨h2, h3⟩ | ⟨g, cap, cur, hv, _, hh, a1, a2, a3, a4⟩
  · simp only [Value.slice.injEq] at h2
    obtain ⟨rfl, rfl, rfl⟩ := h2
    exact .inl ⟨rfl, rfl, rfl, List.eq_nil_of_length_eq_zero (by simpa using h1)⟩
  · simp only [Value.slice.injEq] at hv
    obtain ⟨rfl, _, rfl⟩ := hv
    exact .inr ⟨g, cur, rfl, hh, a1, a2, a3, a4⟩

theorem Sl.mk {w : World} {T size n c g : Nat} {cur : Array Value} {xs : List Value} (hh : w.heap[g]? = some (.cells cur T (0, 0))) (a1 : n ≤ c) (a2 : c ≤ maxLen) (a3 : cur.size = c * size) (a4 : cur.toList.take (n * size) = xs) :
    Sl w T size (some ⟨g, 0, none⟩) n c xs := by
  refine ⟨?_, .inr ⟨g, c, cur, rfl, Nat.zero_le _, hh, a1, a2, a3, a4⟩⟩
  rw [← a4, List.length_take, Array.length_toList, a3]
  exact Nat.min_eq_left (Nat.mul_le_mul_right _ a1)

theorem Sl.of_heap {w w' : World} {T size n c : Nat} {ao : Option Addr} {xs : List Value} (h : Sl w T size ao n c xs) (hb : ∀ g, blk ao = some g → w'.heap[g]? = w.heap[g]?) : Sl w' T size ao n c xs := by
  rcases h.form with ⟨rfl, rfl, rfl, rfl⟩ | ⟨g, cur, rfl, hh, a1, a2, a3, a4⟩
  · exact Sl.nil _ _ _
  · exact Sl.mk ((hb g rfl).trans hh) a1 a2 a3 a4

theorem Sl.lt {w : World} {T size n c : Nat} {ao : Option Addr} {xs : List Value} (h : Sl w T size ao n c xs) {g : Nat} (hg : blk ao = some g) : g < w.heap.size := by
  rcases h.form with ⟨rfl, rfl, rfl, rfl⟩ | ⟨g', cur, rfl, hh, _⟩
  · cases hg
  · cases hg; exact lt_of_heap hh

theorem Sl.fr {M : Nat → Prop} {w w' : World} {T size n c : Nat} {ao : Option Addr} {xs : List Value} (h : Sl w T size ao n c xs) (hf : Fr M w w') (hm : ∀ g, blk ao = some g → ¬ M g) : Sl w' T size ao n c xs :=
  h.of_heap fun g hg => hf.block g (h.lt hg) (hm g hg)

theorem Sl.alloc {w : World} {T size n c : Nat} {ao : Option Addr} {xs : List Value} (h : Sl w T size ao n c xs) (o : Obj) : Sl (w.alloc o) T size ao n c xs :=
  h.of_heap fun g hg => Below.heap_alloc w o g (h.lt hg)

theorem Sl.drew {w : World} {T size n c : Nat} {ao : Option Addr} {xs : List Value} (h : Sl w T size ao n c xs) : Sl w.drew T size ao n c xs := h
theorem Sl.drewN {w : World} {T size n c : Nat} {ao : Option Addr} {xs : List Value} (h : Sl w T size ao n c xs) (k : Nat) : Sl (w.drewN k) T size ao n c xs := h

theorem Sl.setOther {w : World} {T size n c : Nat} {ao : Option Addr} {xs : List Value} (h : Sl w T size ao n c xs) {p : Addr} (hp : blk ao ≠ some p.block) (u : Value) : Sl (w.setCell p u) T size ao n c xs :=
  h.of_heap fun g hg => Below.heap_setCell w p u g (fun e => hp (hg.trans (congrArg some e)))

/-- Its cells. -/
theorem Sl.cell {w : World} {T size n c : Nat} {ao : Option Addr} {xs : List Value} (h : Sl w T size ao n c xs) {j : Nat} {v : Value} (hj : xs[j]? = some v) : ∃ g, ao = some ⟨g, 0, none⟩ ∧ w.cell? ⟨g, j, none⟩ = some v := by
  rcases h.form with ⟨rfl, rfl, rfl, rfl⟩ | ⟨g, cur, rfl, hh, a1, a2, a3, a4⟩
  · simp at hj
  · refine ⟨g, rfl, ?_⟩
    have hlt : j < n * size := by
      have h1 := h.length
      have h2 := (List.getElem?_eq_some_iff.1 hj).1
      omega
    rw [← a4, List.getElem?_take_of_lt hlt] at hj
    simp only [World.cell?, hh]
    simpa using hj

theorem Sl.frozen {w : World} {T size n c g : Nat} {xs : List Value} (h : Sl w T size (some ⟨g, 0, none⟩) n c xs) (j : Nat) : w.frozen? ⟨g, j, none⟩ = false := by
  rcases h.form with ⟨h0, _⟩ | ⟨g', cur, h0, hh, _⟩
  · cases h0
  · cases h0
    simp only [World.frozen?, hh]
    simp

/-- A store into it. -/
theorem Sl.set {w : World} {T size n c g : Nat} {xs : List Value} (h : Sl w T size (some ⟨g, 0, none⟩) n c xs) (j : Nat) (v : Value) : Sl (w.setCell ⟨g, j, none⟩ v) T size (some ⟨g, 0, none⟩) n c (xs.set j v) := by
  rcases h.form with ⟨h0, _⟩ | ⟨g', cur, h0, hh, a1, a2, a3, a4⟩
  · cases h0
  · cases h0
    refine Sl.mk (cur := cur.setIfInBounds j v) ?_ a1 a2 (by simpa using a3) ?_
    · simp only [World.setCell, Array.getElem?_modify, if_true, hh, Option.map_some]
      rfl
    · rw [← a4, Array.toList_setIfInBounds, List.take_set]

/-- A shorter prefix. -/
theorem Sl.pre {w : World} {T size n c g : Nat} {xs : List Value} (h : Sl w T size (some ⟨g, 0, none⟩) n c xs) {m : Nat} (hm : m ≤ n) : Sl w T size (some ⟨g, 0, none⟩) m c (xs.take (m * size)) := by
  rcases h.form with ⟨h0, _⟩ | ⟨g', cur, h0, hh, a1, a2, a3, a4⟩
  · cases h0
  · cases h0
    refine Sl.mk hh (by omega) a2 a3 ?_
    rw [← a4, List.take_take, Nat.min_eq_left (Nat.mul_le_mul_right _ hm)]

/-! ### Drawing turns no block -/
@[simp] theorem rec_drew (w : World) (b T : Nat) (cs : Array Value) : Rec w.drew b T cs ↔ Rec w b T cs := Iff.rfl
@[simp] theorem rec_drewN (w : World) (k b T : Nat) (cs : Array Value) : Rec (w.drewN k) b T cs ↔ Rec w b T cs := Iff.rfl
@[simp] theorem sl_drew (w : World) (T size : Nat) (ao : Option Addr) (n c : Nat) (xs : List Value) : Sl w.drew T size ao n c xs ↔ Sl w T size ao n c xs := Iff.rfl
@[simp] theorem sl_drewN (w : World) (k T size : Nat) (ao : Option Addr) (n c : Nat) (xs : List Value) : Sl (w.drewN k) T size ao n c xs ↔ Sl w T size ao n c xs := Iff.rfl
@[simp] theorem arr_drew (w : World) (b T n : Nat) (f : Nat → Value) : Arr w.drew b T n f ↔ Arr w b T n f := Iff.rfl
@[simp] theorem arr_drewN (w : World) (k b T n : Nat) (f : Nat → Value) : Arr (w.drewN k) b T n f ↔ Arr w b T n f := Iff.rfl
@[simp] theorem ints_drew (w : World) (b n : Nat) (f : Nat → Int) : Ints w.drew b n f ↔ Ints w b n f := Iff.rfl
@[simp] theorem ints_drewN (w : World) (k b n : Nat) (f : Nat → Int) : Ints (w.drewN k) b n f ↔ Ints w b n f := Iff.rfl

end Go.Proofs.Qxb6615025a
