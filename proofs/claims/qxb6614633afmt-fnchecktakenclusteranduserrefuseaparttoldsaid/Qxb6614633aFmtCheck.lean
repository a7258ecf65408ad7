/-
  checkTaken (10): nil where no setting is asked, an error where one is.
-/

import Derived.Test.Qxb6614633aFmtRows
import Derived.Test.Qxb6614633aFmtShelf
import Derived.Test.Qxb6614633aFmtFacts
import Derived.WalkKit
import Derived.WalkSpells
import Derived.WalkLawsBesides
import Derived.Deep.DeepCutAuto
import Derived.Deep.LoopGhost
import Derived.Deep.RegionHeld3
namespace Go.Proofs.Qxb6614633aFmt
open Go.RowKit Go.Extern.Stop Go.Stop Go.Extern

theorem hid {p : Prop} (h : p) : Hid p := h

/-- Which setting is asked. -/
def bbOf (v0 v1 u0 u1 u2 u3 : Bool) : Nat → Nat → Bool
  | 0, 0 => v0
  | 1, 0 => v1
  | 2, 0 => u0
  | 2, 1 => u1
  | 2, 2 => u2
  | 2, 3 => u3
  | _, _ => false
def snOf : Nat → Nat
  | 2 => 4
  | _ => 1

def sbOf (B : Nat) : Nat → Nat
  | 0 => B
  | 1 => B + 1
  | _ => B + 1 + 1

def NoneAsked (bb : Nat → Nat → Bool) : Prop := ∀ l, l < 3 → ∀ j, j < snOf l → bb l j = false

/-- The table of mends as the function lays it. -/
structure Mends (w : World) (M : Nat) (SB : Nat → Nat) (IN : Nat → ByteArray) (bb : Nat → Nat → Bool) (nm : Nat → Nat → ByteArray) : Prop where
  set : ∀ i, i < 3 → w.cell? ⟨M, i * 2, none⟩ = some (.slice (some ⟨SB i, 0, none⟩) (snOf i) (snOf i))
  ins : ∀ i, i < 3 → w.cell? ⟨M, i * 2 + 1, none⟩ = some (.string (IN i))
  ask : ∀ i, i < 3 → ∀ j, j < snOf i → w.cell? ⟨SB i, j * 2, none⟩ = some (.bool (bb i j))
  nam : ∀ i, i < 3 → ∀ j, j < snOf i → w.cell? ⟨SB i, j * 2 + 1, none⟩ = some (.string (nm i j))
  insz : ∀ i, i < 3 → (IN i).size ≤ 300
  nmsz : ∀ i, i < 3 → ∀ j, j < snOf i → (nm i j).size ≤ 40

def inOf (I0 I1 I2 : ByteArray) : Nat → ByteArray
  | 0 => I0
  | 1 => I1
  | _ => I2
def nmOf (n0 n1 n2 n3 n4 n5 : ByteArray) : Nat → Nat → ByteArray
  | 0, _ => n0
  | 1, _ => n1
  | _, 0 => n2
  | _, 1 => n3
  | _, 2 => n4
  | _, _ => n5

theorem three {i : Nat} (h : i < 3) : i = 0 ∨ i = 1 ∨ i = 2 := by omega

/-- The four blocks that the table's literal lays. -/
theorem mends_laid {w2 : World} {B : Nat} (hB : w2.heap.size = B) (b0 b1 b2 b3 b4 b5 : Bool) (n0 n1 n2 n3 n4 n5 I0 I1 I2 : ByteArray)
    (hi : I0.size ≤ 300 ∧ I1.size ≤ 300 ∧ I2.size ≤ 300) (hn : n0.size ≤ 40 ∧ n1.size ≤ 40 ∧ n2.size ≤ 40 ∧ n3.size ≤ 40 ∧ n4.size ≤ 40 ∧ n5.size ≤ 40) :
    Mends ((((w2.alloc (.cells #[.bool b0, .string n0] 38)).alloc (.cells #[.bool b1, .string n1] 38)).alloc (.cells #[.bool b2, .string n2, .bool b3, .string n3, .bool b4, .string n4, .bool b5, .string n5] 38)).alloc
      (.cells #[.slice (some ⟨B, 0, none⟩) 1 1, .string I0, .slice (some ⟨B + 1, 0, none⟩) 1 1, .string I1, .slice (some ⟨B + 1 + 1, 0, none⟩) 4 4, .string I2] 40))
      (B + 1 + 1 + 1) (sbOf B) (inOf I0 I1 I2) (bbOf b0 b1 b2 b3 b4 b5) (nmOf n0 n1 n2 n3 n4 n5) := by
  subst hB
  have cell : ∀ (b o : Nat), ((((w2.alloc (.cells #[.bool b0, .string n0] 38)).alloc (.cells #[.bool b1, .string n1] 38)).alloc (.cells #[.bool b2, .string n2, .bool b3, .string n3, .bool b4, .string n4, .bool b5, .string n5] 38)).alloc
      (.cells #[.slice (some ⟨w2.heap.size, 0, none⟩) 1 1, .string I0, .slice (some ⟨w2.heap.size + 1, 0, none⟩) 1 1, .string I1, .slice (some ⟨w2.heap.size + 1 + 1, 0, none⟩) 4 4, .string I2] 40)).cell? ⟨w2.heap.size + b, o, none⟩ =
      (match b with
        | 0 => #[Value.bool b0, .string n0][o]?
        | 1 => #[Value.bool b1, .string n1][o]?
        | 2 => #[Value.bool b2, .string n2, .bool b3, .string n3, .bool b4, .string n4, .bool b5, .string n5][o]?
        | 3 => #[Value.slice (some ⟨w2.heap.size, 0, none⟩) 1 1, .string I0, .slice (some ⟨w2.heap.size + 1, 0, none⟩) 1 1, .string I1, .slice (some ⟨w2.heap.size + 1 + 1, 0, none⟩) 4 4, .string I2][o]?
        | _ => none) := by
    intro b o
    simp only [World.cell?, World.alloc, Array.getElem?_push, Array.size_push]
    match b with
    | 0 => simp [show ¬ (w2.heap.size = w2.heap.size + 1 + 1 + 1) by omega, show ¬ (w2.heap.size = w2.heap.size + 1 + 1) by omega]
    | 1 => simp
    | 2 => simp
    | 3 => simp
    | b + 4 =>
      simp [show ¬ (w2.heap.size + (b + 4) = w2.heap.size + 1 + 1 + 1) by omega, show ¬ (w2.heap.size + (b + 4) = w2.heap.size + 1 + 1) by omega]
  obtain ⟨h0, h1, h2⟩ := hi
  obtain ⟨g0, g1, g2, g3, g4, g5⟩ := hn
  constructor
  · intro i h
    rcases three h with rfl | rfl | rfl
    · exact cell 3 0
    · exact cell 3 2
    · exact cell 3 4
  · intro i h
    rcases three h with rfl | rfl | rfl
    · exact cell 3 1
    · exact cell 3 3
    · exact cell 3 5
  · intro i h j hj
    rcases three h with rfl | rfl | rfl
    · have : j = 0 := by simp only [snOf] at hj; omega
      subst this; exact cell 0 0
    · have : j = 0 := by simp only [snOf] at hj; omega
      subst this; exact cell 1 0
    · have : j = 0 ∨ j = 1 ∨ j = 2 ∨ j = 3 := by simp only [snOf] at hj; omega
      rcases this with rfl | rfl | rfl | rfl
      · exact cell 2 0
      · exact cell 2 2
      · exact cell 2 4
      · exact cell 2 6
  · intro i h j hj
    rcases three h with rfl | rfl | rfl
    · have : j = 0 := by simp only [snOf] at hj; omega
      subst this; exact cell 0 1
    · have : j = 0 := by simp only [snOf] at hj; omega
      subst this; exact cell 1 1
    · have : j = 0 ∨ j = 1 ∨ j = 2 ∨ j = 3 := by simp only [snOf] at hj; omega
      rcases this with rfl | rfl | rfl | rfl
      · exact cell 2 1
      · exact cell 2 3
      · exact cell 2 5
      · exact cell 2 7
  · intro i h
    rcases three h with rfl | rfl | rfl
    · exact h0
    · exact h1
    · exact h2
  · intro i h j hj
    rcases three h with rfl | rfl | rfl
    · exact g0
    · exact g1
    · have : j = 0 ∨ j = 1 ∨ j = 2 ∨ j = 3 := by simp only [snOf] at hj; omega
      rcases this with rfl | rfl | rfl | rfl
      · exact g2
      · exact g3
      · exact g4
      · exact g5

theorem mends_ex {w2 : World} {B : Nat} (hB : w2.heap.size = B) (b0 b1 b2 b3 b4 b5 : Bool) (n0 n1 n2 n3 n4 n5 I0 I1 I2 : ByteArray)
    (hi : I0.size ≤ 300 ∧ I1.size ≤ 300 ∧ I2.size ≤ 300) (hn : n0.size ≤ 40 ∧ n1.size ≤ 40 ∧ n2.size ≤ 40 ∧ n3.size ≤ 40 ∧ n4.size ≤ 40 ∧ n5.size ≤ 40) :
    ∃ M SB IN nm, Value.slice (some ⟨B + 1 + 1 + 1, 0, none⟩) 3 3 = .slice (some ⟨M, 0, none⟩) 3 3 ∧
    Mends ((((w2.alloc (.cells #[.bool b0, .string n0] 38)).alloc (.cells #[.bool b1, .string n1] 38)).alloc (.cells #[.bool b2, .string n2, .bool b3, .string n3, .bool b4, .string n4, .bool b5, .string n5] 38)).alloc
      (.cells #[.slice (some ⟨B, 0, none⟩) 1 1, .string I0, .slice (some ⟨B + 1, 0, none⟩) 1 1, .string I1, .slice (some ⟨B + 1 + 1, 0, none⟩) 4 4, .string I2] 40))
      M SB IN (bbOf b0 b1 b2 b3 b4 b5) nm :=
  ⟨_, _, _, _, rfl, mends_laid hB b0 b1 b2 b3 b4 b5 n0 n1 n2 n3 n4 n5 I0 I1 I2 hi hn⟩

theorem below6 (w : World) (o1 o2 o3 o4 o5 o6 : Obj) : Below w.heap.size w ((((((w.alloc o1).alloc o2).alloc o3).alloc o4).alloc o5).alloc o6) := by
  have h : ∀ {w' : World} (o : Obj), Below w.heap.size w w' → Below w.heap.size w (w'.alloc o) := fun o hb => hb.alloc hb.size o
  exact h _ (h _ (h _ (h _ (h _ (h _ (Below.refl _ _))))))

/-- A slice of short strings of the call's own. -/
def Strs (w : World) (base : Nat) (ao : Option Addr) (n c k : Nat) : Prop :=
  ∃ xs : List ByteArray, xs.length = n ∧ (∀ x ∈ xs, x.size ≤ k) ∧ w.ownsRow base 9 1 (.slice ao n c) n (xs.map Value.string)

theorem Strs.nil (w : World) (base k : Nat) : Strs w base none 0 0 k := ⟨[], rfl, by simp, World.ownsRow_nil _ _ _ _⟩

/-- Behind an append. -/
theorem strs_snoc {w : World} {base n k : Nat} {xs : List ByteArray} {x : ByteArray} {v : Value} (hn : xs.length = n) (hk : ∀ y ∈ xs, y.size ≤ k) (hx : x.size ≤ k)
    (h : w.ownsRow base 9 1 v (n + 1) (xs.map Value.string ++ [.string x])) : ∃ ao c, v = .slice ao (n + 1) c ∧ Strs w base ao (n + 1) c k := by
  rcases h.2 with ⟨_, q⟩ | ⟨g, cap, cur, q, _⟩
  · omega
  · refine ⟨some ⟨g, 0, none⟩, cap, q, xs ++ [x], by simp [hn], ?_, ?_⟩
    · intro y hy
      simp at hy
      rcases hy with hy | rfl
      · exact hk y hy
      · exact hx
    · rw [List.map_append, ← q]; exact h

theorem Strs.alloc {w : World} {base n c k : Nat} {ao : Option Addr} (h : Strs w base ao n c k) (o : Obj) : Strs (w.alloc o) base ao n c k := by
  obtain ⟨xs, h1, h2, h3⟩ := h
  exact ⟨xs, h1, h2, h3.alloc _⟩

theorem Strs.drew {w : World} {base n c k : Nat} {ao : Option Addr} (h : Strs w base ao n c k) : Strs w.drew base ao n c k := h

theorem Strs.lt {w : World} {base n c k : Nat} {ao : Option Addr} (h : Strs w base ao n c k) (q : Nat) (hq : (Value.slice ao n c).ownBlock = some q) : base ≤ q ∧ q < w.heap.size := by
  obtain ⟨xs, h1, h2, h3⟩ := h
  exact h3.lt q hq

theorem Strs.kept {w w' : World} {B base n c k : Nat} {ao : Option Addr} (h : Strs w base ao n c k) (hb : Below B w w') (hB : w.heap.size ≤ B) : Strs w' base ao n c k := by
  obtain ⟨xs, h1, h2, h3, h4⟩ := h
  refine ⟨xs, h1, h2, h3, ?_⟩
  rcases h4 with h4 | ⟨g, cap, cur, hv, hg, hh, r⟩
  · exact Or.inl h4
  · have hl : g < w.heap.size := by
      rcases Nat.lt_or_ge g w.heap.size with q | q
      · exact q
      · rw [Array.getElem?_eq_none q] at hh; cases hh
    exact Or.inr ⟨g, cap, cur, hv, hg, (hb.block g (by omega)).trans hh, r⟩

/-- append of one string to such a slice. -/
theorem wpList_append_strs {ops : Array Oper} {rest : List Oper} {o : Oper} {a : Act} {w : World} {Q : Exit → Act → World → Prop} (hgd : o.guard = none) (s x : Operand)
    (ho : o.op = .call { callee := .builtin .append, args := #[s, x], argTypes := #[36, 36] })
    (base n c k : Nat) (ao : Option Addr) (hs : a.eval s = .slice ao n c) (hS : Strs w base ao n c k)
    (blk : Nat) (y : ByteArray) (hx : a.eval x = .slice (some ⟨blk, 0, none⟩) 1 1) (hc : w.cell? ⟨blk, 0, none⟩ = some (.string y)) (hy : y.size ≤ k) (hn : n ≤ 1000) (hbase : base ≤ w.heap.size)
    (h : ∀ ao' c' w', Strs w' base ao' (n + 1) c' k → w.grownBy w' (Value.slice ao n c).ownBlock → wpList Tryf.prog ops Q rest (a.put o.dst (.slice ao' (n + 1) c')) w') : wpList Tryf.prog ops Q (o :: rest) a w := by
  obtain ⟨i0, hi, hz0, hz1, hz2⟩ := info_parts (show (Tryf.prog.info? 9).map (fun i => (i.zero, i.size, i.bytes)) = some (some (.string ByteArray.empty), 1, 16) by kernel_rfl)
  obtain ⟨xs, h1, h2, h3⟩ := hS
  refine wpList_append_own w hgd s x 36 ho base 9 i0 (.string ByteArray.empty) 1 16 Tryf.underlying36 hi hz0 hz1 hz2 rfl (by decide) _ n _ hs h3 ⟨blk, 0, none⟩ 1 1 [.string y] hx rfl ?_ (fun u hu => by simp at hu; subst hu; rfl) (by unfold maxLen; omega) (by omega) hbase ?_
  · intro j u hj
    cases j with
    | zero => simp at hj; subst hj; exact hc
    | succ j => simp at hj
  · intro v' w' hown hgrow _
    obtain ⟨ao', c', rfl, hS'⟩ := strs_snoc h1 h2 hy hown
    exact h ao' c' w' hS' hgrow

/-- The same as a step of a region that draws its order. -/
theorem step_append_strs {ops : Array Oper} {o : Oper} {a : Act} {w : World} {K : Act → World → Prop} {Q : Exit → Act → World → Prop} {E : Prop} (hgd : o.guard = none) (s x : Operand)
    (ho : o.op = .call { callee := .builtin .append, args := #[s, x], argTypes := #[36, 36] })
    (base n c k : Nat) (ao : Option Addr) (hs : a.eval s = .slice ao n c) (hS : Strs w base ao n c k)
    (blk : Nat) (y : ByteArray) (hx : a.eval x = .slice (some ⟨blk, 0, none⟩) 1 1) (hc : w.cell? ⟨blk, 0, none⟩ = some (.string y)) (hy : y.size ≤ k) (hn : n ≤ 1000) (hbase : base ≤ w.heap.size)
    (h : ∀ ao' c' w', Strs w' base ao' (n + 1) c' k → w.grownBy w' (Value.slice ao n c).ownBlock → K (a.put o.dst (.slice ao' (n + 1) c')) w') :
    if Region.wanted o (yielded ops a.tmps) = true then Oper.wp Tryf.prog o a w K Q else E := by
  rw [if_pos (by simp [Region.wanted, hgd])]
  obtain ⟨i0, hi, hz0, hz1, hz2⟩ := info_parts (show (Tryf.prog.info? 9).map (fun i => (i.zero, i.size, i.bytes)) = some (some (.string ByteArray.empty), 1, 16) by kernel_rfl)
  obtain ⟨xs, h1, h2, h3⟩ := hS
  refine wp_append_own w s x 36 ho base 9 i0 (.string ByteArray.empty) 1 16 Tryf.underlying36 hi hz0 hz1 hz2 rfl (by decide) _ n _ hs h3 ⟨blk, 0, none⟩ 1 1 [.string y] hx rfl ?_ (fun u hu => by simp at hu; subst hu; rfl) (by unfold maxLen; omega) (by omega) hbase ?_
  · intro j u hj
    cases j with
    | zero => simp at hj; subst hj; exact hc
    | succ j => simp at hj
  · intro v' w' hown hgrow _
    obtain ⟨ao', c', rfl, hS'⟩ := strs_snoc h1 h2 hy hown
    exact h ao' c' w' hS' hgrow

/-- fmt.Sprintf as such a step. -/
theorem step_sprintf {ops : Array Oper} {o : Oper} {a : Act} {w : World} {K : Act → World → Prop} {Q : Exit → Act → World → Prop} {E : Prop} (hgd : o.guard = none) (x0 x1 : Operand) (ts : Array TypeId)
    (ho : o.op = .call { callee := .value (.func 11), args := #[x0, x1], argTypes := ts }) (h0 : a.eval x0 = .string frm)
    (F : Interp) (s t : ByteArray) (blk : Nat) (h1 : a.eval x1 = .slice (some ⟨blk, 0, none⟩) 2 2) (hF : F.answers w.tape) (c0 : w.cell? ⟨blk, 0, none⟩ = some (.iface 9 (.string s))) (c1 : w.cell? ⟨blk, 1, none⟩ = some (.iface 9 (.string t)))
    (h : K (a.put o.dst (.string (tx F s t))) w.drew) :
    if Region.wanted o (yielded ops a.tmps) = true then Oper.wp Tryf.prog o a w K Q else E := by
  rw [if_pos (by simp [Region.wanted, hgd])]
  have hr := run_sprintf F s t blk w hF c0 c1
  have e : a.eval (.func 11) = .func (.func 11) #[] #[] := rfl
  have hx : (execOp a.eval o).run Tryf.prog w = .ok (.value (.string (tx F s t))) w.drew := by
    generalize a.eval = ρ at h0 h1 e
    simp [execOp, go_sem, ho, e, h0, h1, hr]
  unfold Oper.wp
  rw [hx]
  exact h

theorem cell_after {w5 w6 : World} {A B : Obj} {row : Option Nat} {b o : Nat} {v : Value} (hg : ((w5.alloc A).alloc B).drew.grownBy w6 row) (hrow : ∀ q, row = some q → q < b) (h : w5.cell? ⟨b, o, none⟩ = some v) : w6.cell? ⟨b, o, none⟩ = some v := by
  have hl : b < w5.heap.size := World.block_lt_of_cell? _ _ h
  have h1 : w6.heap[b]? = ((w5.alloc A).alloc B).drew.heap[b]? := hg.block b (by simp; omega) (fun q => by have := hrow b q.symm; omega)
  have h2 : ((w5.alloc A).alloc B).drew.heap[b]? = w5.heap[b]? := (Below.heap_alloc (w5.alloc A) B b (by simp; omega)).trans (Below.heap_alloc w5 A b hl)
  exact (World.cell?_of_block (w := w5) (a := ⟨b, o, none⟩) (h1.trans h2)).trans h

theorem answers_of {F : Interp} {w w' : World} (h : F.answers w.tape) (e : w'.tape = w.tape) : F.answers w'.tape := by rw [e]; exact h

theorem Strs.one {w : World} {base n c k : Nat} {ao : Option Addr} (h : Strs w base ao n c k) (hn : 0 < n) : ∃ (g : Nat) (xs : List ByteArray), ao = some ⟨g, 0, none⟩ ∧ xs.length = n ∧ n ≤ c ∧ g < w.heap.size ∧ (∀ x ∈ xs, x.size ≤ k) ∧ ∀ (j : Nat) x, xs[j]? = some x → w.cell? ⟨g, 0 + j, none⟩ = some (.string x) := by
  obtain ⟨xs, h1, h2, h3⟩ := h
  rcases h3.2 with ⟨_, q⟩ | ⟨g, cap, cur, q, _, hb, hc, _⟩
  · omega
  · simp only [Value.slice.injEq] at q
    obtain ⟨rfl, _, rfl⟩ := q
    have hl : g < w.heap.size := by
      rcases Nat.lt_or_ge g w.heap.size with q | q
      · exact q
      · rw [Array.getElem?_eq_none q] at hb; cases hb
    refine ⟨g, xs, rfl, h1, hc, hl, h2, fun j x hj => ?_⟩
    have hjl := (List.getElem?_eq_some_iff.1 hj).1
    rw [Nat.zero_add, h3.cellAt j (by omega), List.getElem?_map, hj]
    rfl

theorem join_le (sep : List UInt8) (k : Nat) : ∀ (xs : List (List UInt8)), (∀ x ∈ xs, x.length ≤ k) → (Lib.join xs sep).length ≤ xs.length * (k + sep.length)
  | [], _ => by simp [Lib.join]
  | [x], h => by
    have := h x (by simp)
    simp [Lib.join]; omega
  | x :: y :: l, h => by
    have h0 := h x (by simp)
    have ih := join_le sep k (y :: l) (fun z hz => h z (by simp at hz ⊢; right; exact hz))
    have e : Lib.join (x :: y :: l) sep = x ++ (sep ++ Lib.join (y :: l) sep) := by simp [Lib.join, List.intercalate]
    rw [e]
    simp only [List.length_append, List.length_cons] at ih ⊢
    rw [Nat.add_mul (l.length + 1) 1]
    omega

set_option maxRecDepth 100000 in
set_option maxHeartbeats 1000000 in
theorem check_any (F : Interp) (c0 c1 c2 c3 px t0 t1 t2 t3 t4 t5 us pw asx : ByteArray) (b : Bool) (m1 m2 : Option Nat) (w : World) (hF : F.answers w.tape)
    (hsm : ∀ s t : ByteArray, s.size ≤ 300 → t.size ≤ 300 → (tx F s t).size ≤ 1000) :
    Calls Tryf.prog 10 #[.agg #[.string c0, .string c1, .string c2, .string c3, .bool b, .string px], .agg #[.string t0, .string t1, .string t2, .string t3, .string t4, .string t5, .string us, .string pw, .map m1, .map m2, .string asx]] w
      fun e w' => Below w.heap.size w w' ∧ ((e = .returned .nilIface ∧ NoneAsked (bbOf b (!px.toList.isEmpty) (!us.toList.isEmpty || !pw.toList.isEmpty) m1.isSome m2.isSome (!asx.toList.isEmpty))) ∨
        ((∃ t v, e = .returned (.iface t v)) ∧ ¬ NoneAsked (bbOf b (!px.toList.isEmpty) (!us.toList.isEmpty || !pw.toList.isEmpty) m1.isSome m2.isSome (!asx.toList.isEmpty)))) := by
  have hq := fun w r => run_neq_map_nil (P := Tryf.prog) w 32 _ _ r Tryf.underlying32
  have H0 := hid hF
  have H1 := hid hsm
  clear hF hsm
  go_enter Tryf.func10, Tryf.ntmps10
  go_upto_region 2 with fail
  go_cut [5, 45, 46, 47] (fun s5 s45 s46 s47 wc => Below w.heap.size w wc ∧ s5 = .slice none 0 0 ∧ s46 = .int .i64 3 ∧ s47 = .int .i64 0 ∧ ∃ M SB IN nm, s45 = .slice (some ⟨M, 0, none⟩) 3 3 ∧
    Mends wc M SB IN (bbOf b (!px.toList.isEmpty) (!us.toList.isEmpty || !pw.toList.isEmpty) m1.isSome m2.isSome (!asx.toList.isEmpty)) nm)
  case first =>
    by_cases hu : us.toList.isEmpty = true
    · go_wp2
      go_meet
      case rel =>
        refine ⟨below6 _ _ _ _ _ _ _, rfl, rfl, rfl, ?_⟩
        rw [hu]
        exact mends_ex (by simp) _ _ _ _ _ _ _ _ _ _ _ _ _ _ _ (by decide +kernel) (by decide +kernel)
    · have hu' : us.toList.isEmpty = false := by simpa using hu
      clear hu
      go_wp2
      go_meet
      case rel =>
        refine ⟨below6 _ _ _ _ _ _ _, rfl, rfl, rfl, ?_⟩
        rw [hu']
        exact mends_ex (by simp) _ _ _ _ _ _ _ _ _ _ _ _ _ _ _ (by decide +kernel) (by decide +kernel)
  case rest =>
    obtain ⟨bel, rfl, rfl, rfl, M, SB, IN, nm, rfl, hM⟩ := hcut
    obtain ⟨bb, HBF⟩ : ∃ bb, Hid (bb = bbOf b (!px.toList.isEmpty) (!us.toList.isEmpty || !pw.toList.isEmpty) m1.isSome m2.isSome (!asx.toList.isEmpty)) := ⟨_, rfl⟩
    rw [← HBF.out] at hM
    obtain ⟨i0, hi, hz0, hz1, hz2⟩ := info_parts (show (Tryf.prog.info? 9).map (fun i => (i.zero, i.size, i.bytes)) = some (some (.string ByteArray.empty), 1, 16) by kernel_rfl)
    have HM := hid hM
    have HB := hid bel
    clear hM bel
    go_wp2_with fail
    go_loopg [5, 7, 8, 10, 47] 3 (fun g s5 s7 s8 s10 s47 wr => ∃ i : Nat, g + i = 3 ∧ s47 = .int .i64 i ∧ Below wc.heap.size wc wr ∧ ∃ n ao c, n ≤ i ∧ (n = 0 ↔ ∀ l, l < i → ∀ j, j < snOf l → bb l j = false) ∧ s5 = .slice ao n c ∧ Strs wr wc.heap.size ao n c 1000)
    case atStart => exact ⟨0, rfl, rfl, Below.refl _ _, 0, none, 0, Nat.le_refl _, ⟨fun _ l hl => by omega, fun _ => rfl⟩, rfl, Strs.nil _ _ _⟩
    case round =>
      obtain ⟨i, hg, rfl, hbel, n, ao, c, hn, hno, rfl, hstr⟩ := hrel
      have hsz := hbel.size
      by_cases hi3 : i < 3
      · have e1 : wr.cell? ⟨M, i * 2, none⟩ = some (.slice (some ⟨SB i, 0, none⟩) (snOf i) (snOf i)) := by
          have h := HM.out.set i hi3
          rw [← h]; exact hbel.cell (World.block_lt_of_cell? _ _ h)
        have e2 : wr.cell? ⟨M, i * 2 + 1, none⟩ = some (.string (IN i)) := by
          have h := HM.out.ins i hi3
          rw [← h]; exact hbel.cell (World.block_lt_of_cell? _ _ h)
        have hMl : M < wr.heap.size := World.block_lt_of_cell? _ _ e1
        have HS := hid hstr
        have HN := hid hno
        have HBB := hid hbel
        clear hstr hno hbel
        have hd3 : decide ((i : Int) < 3) = true := by simp; omega
        have hsn : snOf i ≤ 4 := by unfold snOf; split <;> omega
        go_wp2
        go_loopg [8, 10, 54] (snOf i) (fun g s8 s10 s54 w3 => ∃ j : Nat, g + j = snOf i ∧ s54 = .int .i64 j ∧ Below (wr.heap.size + 1) (wr.alloc (Obj.cells #[Value.slice (some ⟨SB i, 0, none⟩) (snOf i) (snOf i), Value.string (IN i)] 40)) w3 ∧
          ∃ n2 ao2 c2, n2 ≤ j ∧ (n2 = 0 ↔ ∀ l, l < j → bb i l = false) ∧ s8 = .slice ao2 n2 c2 ∧ Strs w3 (wr.heap.size + 1) ao2 n2 c2 40)
        case atStart => exact ⟨0, by omega, rfl, Below.refl _ _, 0, none, 0, Nat.le_refl _, ⟨fun _ l hl => by omega, fun _ => rfl⟩, rfl, Strs.nil _ _ _⟩
        case round =>
          rename World => w3
          obtain ⟨j, hgj, rfl, hb3, n2, ao2, c2, hn2, hno2, rfl, hstr2⟩ := hrel
          have hsz3 := hb3.size
          simp only [World.size_alloc] at hsz3
          by_cases hj : j < snOf i
          · have f1 : w3.cell? ⟨SB i, j * 2, none⟩ = some (.bool (bb i j)) := by
              have h := HM.out.ask i hi3 j hj
              have hl := World.block_lt_of_cell? _ _ h
              rw [← h, hb3.cell (p := ⟨SB i, j * 2, none⟩) (by have : SB i < wc.heap.size := hl; show SB i < _; omega), World.cell?_alloc_lt _ _ _ (by have : SB i < wc.heap.size := hl; show SB i < _; omega)]
              exact HBB.out.cell hl
            have f2 : w3.cell? ⟨SB i, j * 2 + 1, none⟩ = some (.string (nm i j)) := by
              have h := HM.out.nam i hi3 j hj
              have hl := World.block_lt_of_cell? _ _ h
              rw [← h, hb3.cell (p := ⟨SB i, j * 2 + 1, none⟩) (by have : SB i < wc.heap.size := hl; show SB i < _; omega), World.cell?_alloc_lt _ _ _ (by have : SB i < wc.heap.size := hl; show SB i < _; omega)]
              exact HBB.out.cell hl
            have hSl : SB i < w3.heap.size := World.block_lt_of_cell? _ _ f1
            have HS2 := hid hstr2
            have HB3 := hid hb3
            have HN2 := hid hno2
            clear hstr2 hb3 hno2 e1 e2
            by_cases hbt : bb i j = true
            · go_wp2_with (at_builtin; refine wpList_append_strs rfl _ _ rfl (wr.heap.size + 1) _ _ 40 _ rfl ((HS2.out.alloc _).alloc _) (w3.heap.size + 1) (nm i j) rfl ?c1 (HM.out.nmsz i hi3 j hj) (by omega) ?c2 ?_; rotate_right; intro ao4 c4 w4 hS4 hgrow)
              case c1 => simp
              case c2 => simp; omega
              go_roundg (gk - 1)
              case measure => omega
              case rel =>
                refine ⟨j + 1, by omega, by go_num, ?_, n2 + 1, ao4, c4, by omega, ⟨by omega, fun q => ?_⟩, rfl, hS4⟩
                · exact ((HB3.out.alloc (by omega) _).alloc (by simp; omega) _).grown hgrow (by simp; omega) (fun q hq => (HS2.out.lt q hq).1)
                · have := q j (by omega); rw [hbt] at this; cases this
            · have hbf : bb i j = false := by simpa using hbt
              clear hbt
              go_wp2
              go_roundg (gk - 1)
              case measure => omega
              case rel =>
                refine ⟨j + 1, by omega, by go_num, HB3.out.alloc (by omega) _, n2, ao2, c2, by omega, ⟨fun q l hl => ?_, fun q => HN2.out.2 (fun l hl => q l (by omega))⟩, rfl, HS2.out.alloc _⟩
                rcases Nat.lt_or_ge l j with ql | ql
                · exact HN2.out.1 q l ql
                · have : l = j := by omega
                  subst this; exact hbf
          · have hj' : j = snOf i := by omega
            subst hj'
            clear e1 e2
            by_cases hn20 : n2 = 0
            · subst hn20
              have HS2 := hid hstr2
              have HB3 := hid hb3
              have HN2 := hid hno2
              clear hstr2 hb3 hno2
              go_wp2
              go_roundg (3 - (i + 1))
              case measure => omega
              case rel =>
                refine ⟨i + 1, by omega, by go_num, ?_, n, ao, c, by omega, ⟨fun q l hl => ?_, fun q => HN.out.2 (fun l hl => q l (by omega))⟩, rfl, ?_⟩
                · exact (HBB.out.alloc (by omega) _).trans (HB3.out.mono (by omega))
                · rcases Nat.lt_or_ge l i with ql | ql
                  · exact HN.out.1 q l ql
                  · have : l = i := by omega
                    subst this; exact HN2.out.1 (by simp)
                · exact (HS.out.alloc _).kept HB3.out (by simp)
            · have hn2p : 0 < n2 := by omega
              have hn2i : decide ((0 : Int) < (n2 : Int)) = true := by simp; omega
              obtain ⟨g2, xs, rfl, rfl, hc2, hg2, hxk, hcells⟩ := hstr2.one hn2p
              have hins : w3.cell? ⟨wr.heap.size, 1, none⟩ = some (.string (IN i)) := by
                rw [hb3.cell (p := ⟨wr.heap.size, 1, none⟩) (by simp)]
                have := World.cell?_alloc_new wr #[Value.slice (some ⟨SB i, 0, none⟩) (snOf i) (snOf i), Value.string (IN i)] 40 1
                rw [this]; rfl
              have hjl : (Lib.join (xs.map (·.data.toList)) [32, 97, 110, 100, 32]).length ≤ 200 := by
                have := join_le [32, 97, 110, 100, 32] 40 (xs.map (·.data.toList)) (by
                  intro x hx
                  obtain ⟨y, hy, rfl⟩ := List.mem_map.1 hx
                  rw [Array.length_toList]; exact hxk y hy)
                simp only [List.length_map, List.length_cons, List.length_nil] at this
                have : xs.length ≤ 4 := by omega
                omega
              have HJ := hid hjl
              have HC := hid hcells
              have HB3 := hid hb3
              have HN2 := hid hno2
              clear hjl hcells hstr2 hb3 hno2 hxk
              have hszw : wr.heap.size < w3.heap.size := World.block_lt_of_cell? _ _ hins
              have ht3 : w3.tape = w.tape := HB3.out.tape.trans (HBB.out.tape.trans HB.out.tape)
              have HT3 := hid ht3
              have HS3 := hid ((HS.out.alloc (Obj.cells #[Value.slice (some ⟨SB i, 0, none⟩) (snOf i) (snOf i), Value.string (IN i)] 40)).kept HB3.out (by simp))
              have HTX := hid (H1.out ⟨(Lib.join (xs.map (·.data.toList)) [32, 97, 110, 100, 32]).toArray⟩ (IN i) (by show (Lib.join _ _).toArray.size ≤ 300; simp only [List.size_toArray]; have := HJ.out; omega) (HM.out.insz i hi3))
              have hne : ∀ q, (Value.slice ao n c).ownBlock = some q → q < wr.heap.size := fun q hq => (HS.out.lt q hq).2
              have HNE := hid hne
              clear ht3 hne
              go_upto_region 13 with fail
              go_region_held3 (fun w' => w'.cell? ⟨wr.heap.size, 1, none⟩ = some (.string (IN i)))
                (((try simp only [World.cell?_drew]); first | with_reducible exact hins5 | with_reducible exact hins | (rw [World.cell?_alloc_lt _ _ _ (by simp only [World.size_alloc]; omega)]; first | with_reducible exact hins5 | (rw [World.cell?_alloc_lt _ _ _ (by show wr.heap.size < w5.heap.size; omega)]; with_reducible exact hins5))))
                (first
                  | (go_at_call 12; refine (Tryf.strings_Join g2 0 c2 xs ⟨#[32, 97, 110, 100, 32]⟩ w3.drew HC.out hg2 (by omega) hc2 (Nat.le_trans HJ.out (by decide))).mono ?_; rintro e w5 ⟨rfl, hb5⟩; have hins5 : w5.cell? ⟨wr.heap.size, 1, none⟩ = some (.string (IN i)) := (hb5.cell (p := ⟨wr.heap.size, 1, none⟩) hszw).trans hins; have hsz5 := hb5.size; simp only [World.size_drew] at hsz5)
                  | (have _t := tok2; have hy0 := HTX.out; refine step_append_strs rfl _ _ rfl wc.heap.size _ _ 1000 _ rfl ((((HS3.out.drew.kept (w' := w5) hb5 (Nat.le_refl _)).alloc _).alloc _).drew) (w5.heap.size + 1) _ rfl (by simp) hy0 (by omega) (by simp; omega) ?_; intro ao6 c6 w6 hS6 hgrow6; have hins5 : w6.cell? ⟨wr.heap.size, 1, none⟩ = some (.string (IN i)) := cell_after hgrow6 HNE.out hins5)
                  | (have _t := hb5; refine step_sprintf rfl _ _ _ rfl (by kernel_rfl) F ⟨(Lib.join (xs.map (·.data.toList)) [32, 97, 110, 100, 32]).toArray⟩ (IN i) w5.heap.size rfl (answers_of H0.out (hb5.tape.trans HT3.out)) (by simp) (by simp) ?_; have tok2 : True := trivial))
              go_wp2
              go_roundg (3 - (i + 1))
              case measure => omega
              case rel =>
                refine ⟨i + 1, by omega, by go_num, ?_, n + 1, ao6, c6, by omega, ⟨by omega, fun q => ?_⟩, rfl, hS6⟩
                · have k1 := (HBB.out.alloc (by omega) (Obj.cells #[Value.slice (some ⟨SB i, 0, none⟩) (snOf i) (snOf i), Value.string (IN i)] 40)).trans (HB3.out.mono (by omega))
                  have k2 := k1.drew.trans (hb5.mono (by simp; omega))
                  exact (((k2.alloc (by omega) _).alloc (by simp; omega) _).drew).grown hgrow6 (by simp; omega) (fun q hq => (HS.out.lt q hq).1)
                · exact absurd (HN2.out.2 (fun l hl => q i (by omega) l hl)) (by omega)
      · have hi3' : i = 3 := by omega
        subst hi3'
        by_cases hn0 : n = 0
        · subst hn0
          have HNO := hid hno
          have HBB := hid hbel
          clear hno hbel hstr
          go_wp2
          go_ret
          exact ⟨HB.out.trans (HBB.out.mono HB.out.size), .inl ⟨rfl, by rw [← HBF.out]; exact fun l hl j hj => HNO.out.1 (by simp) l hl j hj⟩⟩
        · have hnp : 0 < n := by omega
          have hni : ((n : Int) == 0) = false := by simp; omega
          obtain ⟨g2, xs, rfl, rfl, hc2, hg2, hxk, hcells⟩ := hstr.one hnp
          have hjl : (Lib.join (xs.map (·.data.toList)) [59, 32]).length ≤ 10000 := by
            have := join_le [59, 32] 1000 (xs.map (·.data.toList)) (by
              intro x hx
              obtain ⟨y, hy, rfl⟩ := List.mem_map.1 hx
              rw [Array.length_toList]; exact hxk y hy)
            simp only [List.length_map, List.length_cons, List.length_nil] at this
            have : xs.length ≤ 3 := by omega
            omega
          have HJ := hid hjl
          have HC := hid hcells
          have HNO := hid hno
          have HBB := hid hbel
          clear hno hbel hstr hjl hcells hxk
          go_wp2_with (first | (go_at_call 12; refine (Tryf.strings_Join g2 0 c xs ⟨#[59, 32]⟩ wr HC.out hg2 (by omega) hc2 (Nat.le_trans HJ.out (by decide))).mono ?_; rintro e w5 ⟨rfl, hb5⟩) | go_in)
          go_ret
          refine ⟨?_, .inr ⟨⟨_, _, rfl⟩, fun q => absurd (HNO.out.2 (by rw [← HBF.out] at q; exact q)) (by omega)⟩⟩
          exact ((HB.out.trans (HBB.out.mono HB.out.size)).trans (hb5.mono (by have := HB.out.size; omega))).alloc (by have := HB.out.size; have := hb5.size; omega) _
end Go.Proofs.Qxb6614633aFmt
