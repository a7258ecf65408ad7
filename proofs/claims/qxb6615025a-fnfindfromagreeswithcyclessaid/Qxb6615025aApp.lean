/-
  append of one element to a slice of the call's own; make.
-/
import Derived.Test.Qxb6615025aRows
import Derived.Test.Qxb6615025aBase
import Derived.Deep.OwnRows
namespace Go.Proofs.Qxb6615025a
open Go.RowKit

/-- A slice type of this program: its element's type, its size and its bytes. -/
structure El (t T size bytes : Nat) (z : Value) : Prop where
  under : Try.prog.underlying t = some (.slice T)
  info : (Try.prog.info? T).map (fun i => (i.zero, i.size, i.bytes)) = some (some z, size, bytes)
  zero : z.cells.size = size
  pos : 0 < size
  small : bytes ≤ 32

theorem el33 : El 33 3 1 8 (.int .i64 0) := ⟨Try.underlying33, by kernel_rfl, rfl, by decide, by decide⟩
theorem el22 : El 22 9 1 16 (.string ByteArray.empty) := ⟨Try.underlying22, by kernel_rfl, rfl, by decide, by decide⟩
theorem el72 : El 72 90 2 16 (.agg #[.int .i64 0, .int .i64 0]) := ⟨Try.underlying72, by kernel_rfl, rfl, by decide, by decide⟩

/-- append of one element that lies in a block of its own, at the operation. -/
theorem wp_app {o : Oper} {a : Act} {w : World} {K : Act → World → Prop} {Q : Exit → Act → World → Prop} {t T size bytes : Nat} {z : Value} (s x : Operand)
    (ho : o.op = .call { callee := .builtin .append, args := #[s, x], argTypes := #[t, t] }) (el : El t T size bytes z)
    (ao : Option Addr) (n c : Nat) (xs : List Value) (hs : a.eval s = .slice ao n c) (hS : Sl w T size ao n c xs)
    (B : Nat) (T' : TypeId) (cs : Array Value) (hx : a.eval x = .slice (some ⟨B, 0, none⟩) 1 1) (hB : Rec w B T' cs) (hcs : cs.size = size) (h1 : ∀ u ∈ cs.toList, u.oneCell' = true) (hn : n ≤ 2097152)
    (H : Nat) (hH : w.heap.size = H) {d : Option Nat} (hd : o.dst = d)
    (h : ∀ g c' w', Sl w' T size (some ⟨g, 0, none⟩) (n + 1) c' (xs ++ cs.toList) → w.grownBy w' (blk ao) → (blk ao = some g ∨ g = H) → g < w'.heap.size → K (a.put d (.slice (some ⟨g, 0, none⟩) (n + 1) c')) w') :
    o.wp Try.prog a w K Q := by
  subst hd
  obtain ⟨i0, hi, hz0, hz1, hz2⟩ := info_parts el.info
  have hb := el.small
  have hnb : (n + 1) * bytes ≤ (2097152 + 1) * 32 := Nat.mul_le_mul (by omega) hb
  refine wp_append_lies w s x t ho 0 T i0 z size bytes el.under hi hz0 hz1 hz2 el.zero el.pos (.slice ao n c) n xs hs hS ⟨B, 0, none⟩ 1 1 cs.toList hx (by simpa using hcs) (World.news_of_block hB) h1 (by omega) (by unfold maxLen; omega) (by omega) (Nat.zero_le _) H hH ?_
  intro g c' w' k1 k2 k3 k4
  rw [ownBlock_slice] at k2 k3
  exact h g c' w' k1 k2 k3 k4

theorem wpList_app {ops : Array Oper} {rest : List Oper} {o : Oper} {a : Act} {w : World} {Q : Exit → Act → World → Prop} {t T size bytes : Nat} {z : Value} (s x : Operand)
    (ho : o.op = .call { callee := .builtin .append, args := #[s, x], argTypes := #[t, t] }) (hgd : o.guard = none) (el : El t T size bytes z)
    (ao : Option Addr) (n c : Nat) (xs : List Value) (hs : a.eval s = .slice ao n c) (hS : Sl w T size ao n c xs)
    (B : Nat) (T' : TypeId) (cs : Array Value) (hx : a.eval x = .slice (some ⟨B, 0, none⟩) 1 1) (hB : Rec w B T' cs) (hcs : cs.size = size) (h1 : ∀ u ∈ cs.toList, u.oneCell' = true) (hn : n ≤ 2097152)
    (H : Nat) (hH : w.heap.size = H)
    (h : ∀ g c' w', Sl w' T size (some ⟨g, 0, none⟩) (n + 1) c' (xs ++ cs.toList) → w.grownBy w' (blk ao) → (blk ao = some g ∨ g = H) → g < w'.heap.size → wpList Try.prog ops Q rest (a.put o.dst (.slice (some ⟨g, 0, none⟩) (n + 1) c')) w') :
    wpList Try.prog ops Q (o :: rest) a w :=
  wpList_plain hgd fun _ hK => wp_app s x ho el ao n c xs hs hS B T' cs hx hB hcs h1 hn H hH rfl fun g c' w' k1 k2 k3 k4 => hK _ _ (h g c' w' k1 k2 k3 k4)

theorem step_app {ops : Array Oper} {o : Oper} {a : Act} {w : World} {K : Act → World → Prop} {Q : Exit → Act → World → Prop} {E : Prop} {t T size bytes : Nat} {z : Value} (s x : Operand)
    (ho : o.op = .call { callee := .builtin .append, args := #[s, x], argTypes := #[t, t] }) (hgd : o.guard = none) (el : El t T size bytes z)
    (ao : Option Addr) (n c : Nat) (xs : List Value) (hs : a.eval s = .slice ao n c) (hS : Sl w T size ao n c xs)
    (B : Nat) (T' : TypeId) (cs : Array Value) (hx : a.eval x = .slice (some ⟨B, 0, none⟩) 1 1) (hB : Rec w B T' cs) (hcs : cs.size = size) (h1 : ∀ u ∈ cs.toList, u.oneCell' = true) (hn : n ≤ 2097152)
    (H : Nat) (hH : w.heap.size = H)
    (h : ∀ g c' w', Sl w' T size (some ⟨g, 0, none⟩) (n + 1) c' (xs ++ cs.toList) → w.grownBy w' (blk ao) → (blk ao = some g ∨ g = H) → g < w'.heap.size → K (a.put o.dst (.slice (some ⟨g, 0, none⟩) (n + 1) c')) w') :
    if Region.wanted o (yielded ops a.tmps) = true then Oper.wp Try.prog o a w K Q else E := by
  rw [if_pos (by simp [Region.wanted, hgd])]
  exact wp_app s x ho el ao n c xs hs hS B T' cs hx hB hcs h1 hn H hH rfl h

/-- make([]T, n), n a variable, one cell an element. -/
theorem run_make1 {t T bytes : Nat} {z : Value} (el : El t T 1 bytes z) (hz : z.cells = #[z]) (w : World) (n : Nat) (hn : n ≤ 2097152) :
    (Instr.makeSlice t (.int .i64 (n : Int)) (.int .i64 (n : Int))).run Try.prog w = .ok (.slice (some ⟨w.heap.size, 0, none⟩) n n) (w.alloc (.cells (Array.ofFn fun _ : Fin n => z) T)) := by
  have hb := el.small
  have hnb : bytes * n ≤ 32 * 2097152 := Nat.mul_le_mul hb hn
  have h := run_make_row' (P := Try.prog) t T z bytes el.under el.info hz .i64 .i64 n (by omega) (by omega) w
  rw [madeCells_one] at h
  exact h

end Go.Proofs.Qxb6615025a
