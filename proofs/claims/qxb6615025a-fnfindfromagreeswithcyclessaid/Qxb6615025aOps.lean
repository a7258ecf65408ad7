/-
  Single operations: what each yields; for regions that draw their order.
-/
import Derived.Test.Qxb6615025aApp
import Derived.Test.Qxb6615025aTail
namespace Go.Proofs.Qxb6615025a
open Go.RowKit
theorem load3 (w : World) (b off : Nat) (v : Value) (hc : w.cell? ⟨b, off, none⟩ = some v) : (Instr.loadAt 3 (.pointer (some ⟨b, off, none⟩))).run Try.prog w = .ok v w := by
  simp [go_sem, hc]
theorem load33 (w : World) (b off : Nat) (v : Value) (hc : w.cell? ⟨b, off, none⟩ = some v) : (Instr.loadAt 33 (.pointer (some ⟨b, off, none⟩))).run Try.prog w = .ok v w := by
  simp [go_sem, hc]
theorem load58 (w : World) (b off : Nat) (v : Value) (hc : w.cell? ⟨b, off, none⟩ = some v) : (Instr.loadAt 58 (.pointer (some ⟨b, off, none⟩))).run Try.prog w = .ok v w := by
  simp [go_sem, hc]
theorem idx33 (w : World) (b len cap i : Nat) (hi : i < len) : (Instr.indexAt 33 (.slice (some ⟨b, 0, none⟩) len cap) (.int .i64 i)).run Try.prog w = .ok (.pointer (some ⟨b, i, none⟩)) w := by
  have h : (i : Int) < len := by omega
  simp [go_sem, h]
theorem store72 (w : World) (b off : Nat) (v0 : Value) (ao : Option Addr) (n c : Nat) (hc : w.cell? ⟨b, off, none⟩ = some v0) (hf : w.frozen? ⟨b, off, none⟩ = false) : (Instr.storeAt 72 (.pointer (some ⟨b, off, none⟩)) (.slice ao n c)).run Try.prog w = .ok () (w.setCell ⟨b, off, none⟩ (.slice ao n c)) := by
  simp [go_sem, hc, hf]
theorem load72 (w : World) (b off : Nat) (v : Value) (hc : w.cell? ⟨b, off, none⟩ = some v) : (Instr.loadAt 72 (.pointer (some ⟨b, off, none⟩))).run Try.prog w = .ok v w := by
  simp [go_sem, hc]

section
variable {ops : Array Oper} {S : World → Prop} {a : Act} {o : Oper}
theorem y_run (hg : o.guard = none) (v : Value) (h : ∀ w, S w → (execOp a.eval o).run Try.prog w = .ok (.value v) w) : YieldsIf Try.prog ops S o v a :=
  .inl ⟨by simp [Region.wanted, hg], h⟩
theorem y_move (x : Operand) (ho : o.op = Op.move x) (hg : o.guard = none) : YieldsIf Try.prog ops S o (a.eval x) a :=
  y_run hg _ fun w _ => by simp [execOp, ho]
theorem y_load (T : TypeId) (x : Operand) (ho : o.op = Op.load T x) (hg : o.guard = none) (b off : Nat) (hx : a.eval x = .pointer (some ⟨b, off, none⟩)) (v : Value)
    (hld : ∀ w b off v, w.cell? ⟨b, off, none⟩ = some v → (Instr.loadAt T (.pointer (some ⟨b, off, none⟩))).run Try.prog w = .ok v w) (hc : ∀ w, S w → w.cell? ⟨b, off, none⟩ = some v) : YieldsIf Try.prog ops S o v a :=
  y_run hg v fun w hw => by
    have h := hld w b off v (hc w hw)
    simp only [execOp, ho, hx, Sem.run_bind, h, Result.andThen]
    rfl
theorem y_nil (x : Operand) (ho : o.op = Op.nilCheck x) (hg : o.guard = none) (p : Addr) (hx : a.eval x = .pointer (some p)) : YieldsIf Try.prog ops S o (.pointer (some p)) a :=
  y_run hg _ fun w _ => by simp [execOp, ho, hx]
theorem y_field (s : TypeId) (x : Operand) (f : Nat) (ho : o.op = Op.fieldAddr s x f) (hg : o.guard = none) (p q : Addr) (hx : a.eval x = .pointer (some p)) (h : ∀ w, (Instr.fieldAt s (.pointer (some p)) f).run Try.prog w = .ok (.pointer (some q)) w) : YieldsIf Try.prog ops S o (.pointer (some q)) a :=
  y_run hg _ fun w _ => by
    simp only [execOp, ho, hx, Sem.run_bind, h, Result.andThen]
    rfl
theorem y_idx (x i : Operand) (T : TypeId) (ho : o.op = Op.indexAddr T x i) (hg : o.guard = none) (b len cap k : Nat) (q : Addr) (hx : a.eval x = .slice (some ⟨b, 0, none⟩) len cap) (hi : a.eval i = .int .i64 k)
    (h : ∀ w, (Instr.indexAt T (.slice (some ⟨b, 0, none⟩) len cap) (.int .i64 k)).run Try.prog w = .ok (.pointer (some q)) w) : YieldsIf Try.prog ops S o (.pointer (some q)) a :=
  y_run hg _ fun w _ => by
    simp only [execOp, ho, hx, hi, Sem.run_bind, h, Result.andThen]
    rfl
end

section
variable {ops : Array Oper} {S : World → Prop} {a : Act} {o : Oper} {w w' : World} {K : Act → World → Prop} {Q : Exit → Act → World → Prop}
theorem y_build90 (x y : Operand) (ho : o.op = Op.build 90 #[(0, x), (1, y)]) (hg : o.guard = none) (p q : Int) (hx : a.eval x = .int .i64 p) (hy : a.eval y = .int .i64 q) : YieldsIf Try.prog ops S o (.agg #[.int .i64 p, .int .i64 q]) a :=
  y_run hg _ fun w _ => by
    have h : (Instr.build 90 #[(0, .int .i64 p), (1, .int .i64 q)]).run Try.prog w = .ok (.agg #[.int .i64 p, .int .i64 q]) w := by kernel_rfl
    simp only [execOp, ho, List.map_toArray, List.map_cons, List.map_nil, hx, hy, Sem.run_bind, h, Result.andThen]
    rfl
theorem wp_val (v : Value) (w' : World) (h : (execOp a.eval o).run Try.prog w = .ok (.value v) w') {d : Option Nat} (hd : o.dst = d) (hK : K (a.put d v) w') : o.wp Try.prog a w K Q := by
  subst hd; unfold Oper.wp; rw [h]; exact hK
theorem wp_nil (x : Operand) (ho : o.op = Op.nilCheck x) (p : Addr) (hx : a.eval x = .pointer (some p)) {d : Option Nat} (hd : o.dst = d) (hK : K (a.put d (.pointer (some p))) w) : o.wp Try.prog a w K Q :=
  wp_val _ _ (by simp [execOp, ho, hx]) hd hK
theorem wp_field (s : TypeId) (x : Operand) (f : Nat) (ho : o.op = Op.fieldAddr s x f) (p q : Addr) (hx : a.eval x = .pointer (some p)) (h : ∀ w, (Instr.fieldAt s (.pointer (some p)) f).run Try.prog w = .ok (.pointer (some q)) w) {d : Option Nat} (hd : o.dst = d) (hK : K (a.put d (.pointer (some q))) w) : o.wp Try.prog a w K Q :=
  wp_val _ _ (by simp only [execOp, ho, hx, Sem.run_bind, h, Result.andThen]; rfl) hd hK
theorem wp_bslice72 (x : Operand) (ho : o.op = Op.buildSlice 72 1 #[(0, x)]) (p q : Int) (hx : a.eval x = .agg #[.int .i64 p, .int .i64 q])
    {d : Option Nat} (hd : o.dst = d) (hK : K (a.put d (.slice (some ⟨w.heap.size, 0, none⟩) 1 1)) (w.alloc (.cells #[.int .i64 p, .int .i64 q] 90))) : o.wp Try.prog a w K Q :=
  wp_val _ _ (by
    have h : (Instr.buildSlice 72 1 #[(0, .agg #[.int .i64 p, .int .i64 q])]).run Try.prog w = .ok (.slice (some ⟨w.heap.size, 0, none⟩) 1 1) (w.alloc (.cells #[.int .i64 p, .int .i64 q] 90)) := by kernel_rfl
    simp only [execOp, ho, List.map_toArray, List.map_cons, List.map_nil, hx, Sem.run_bind, h, Result.andThen]
    rfl) hd hK
theorem wp_store (T : TypeId) (x y : Operand) (ho : o.op = Op.store T x y) (hd : o.dst = none) (p v : Value) (hx : a.eval x = p) (hy : a.eval y = v) (h : (Instr.storeAt T p v).run Try.prog w = .ok () w') (hK : K a w') : o.wp Try.prog a w K Q := by
  unfold Oper.wp
  have e : (execOp a.eval o).run Try.prog w = .ok .skip w' := by
    simp only [execOp, ho, hx, hy, Sem.run_bind, h, Result.andThen]
    rfl
  rw [e]
  show K (a.put o.dst undef) w'
  rw [hd]
  exact hK
end

/-! ### One operation alone may come up; said of the region (the elaborator never sees Oper.wp as a goal) -/
section
variable {ops : Array Oper} {S : World → Prop} {L : Nat} {md : Region.Mode} {a : Act} {o : Oper} {w w' : World} {Q : Exit → Act → World → Prop} {fuel : Nat} {listed : Array Bool}
theorem T_val (i : Nat) (d : Option Nat) (hi : ops[i]? = some o) (hd : o.dst = d) (hr : Region.ready md ops listed = [i]) (hg : o.guard = none) (v : Value) (w' : World)
    (hrun : (execOp a.eval o).run Try.prog w = .ok (.value v) w') (hS : (listed.setIfInBounds i true).getD L true = false → S w')
    (h : wpAnyT Try.prog md ops Q S L fuel (listed.setIfInBounds i true) (a.put d v) w') : wpAnyT Try.prog md ops Q S L (fuel + 1) listed a w :=
  wpAnyT_one hi hr (by simp [Region.wanted, hg]) (wp_val v w' hrun hd ⟨hS, h⟩)
theorem T_store (i : Nat) (hi : ops[i]? = some o) (hd : o.dst = none) (hr : Region.ready md ops listed = [i]) (hg : o.guard = none) (T : TypeId) (x y : Operand) (ho : o.op = Op.store T x y) (p v : Value)
    (hx : a.eval x = p) (hy : a.eval y = v) (w' : World) (hrun : (Instr.storeAt T p v).run Try.prog w = .ok () w') (hS : (listed.setIfInBounds i true).getD L true = false → S w')
    (h : wpAnyT Try.prog md ops Q S L fuel (listed.setIfInBounds i true) a w') : wpAnyT Try.prog md ops Q S L (fuel + 1) listed a w :=
  wpAnyT_one hi hr (by simp [Region.wanted, hg]) (wp_store T x y ho hd p v hx hy hrun ⟨hS, h⟩)
theorem T_app (i : Nat) (d : Option Nat) (hi : ops[i]? = some o) (hd : o.dst = d) (hr : Region.ready md ops listed = [i]) (hg : o.guard = none) {t T size bytes : Nat} {z : Value} (s x : Operand)
    (ho : o.op = .call { callee := .builtin .append, args := #[s, x], argTypes := #[t, t] }) (el : El t T size bytes z)
    (ao : Option Addr) (n c : Nat) (xs : List Value) (hs : a.eval s = .slice ao n c) (hSl : Sl w T size ao n c xs)
    (B : Nat) (T' : TypeId) (cs : Array Value) (hx : a.eval x = .slice (some ⟨B, 0, none⟩) 1 1) (hB : Rec w B T' cs) (hcs : cs.size = size) (h1 : ∀ u ∈ cs.toList, u.oneCell' = true) (hn : n ≤ 2097152)
    (H : Nat) (hH : w.heap.size = H)
    (h : ∀ g c' w', Sl w' T size (some ⟨g, 0, none⟩) (n + 1) c' (xs ++ cs.toList) → w.grownBy w' (blk ao) → (blk ao = some g ∨ g = H) → g < w'.heap.size →
      ((listed.setIfInBounds i true).getD L true = false → S w') ∧ wpAnyT Try.prog md ops Q S L fuel (listed.setIfInBounds i true) (a.put d (.slice (some ⟨g, 0, none⟩) (n + 1) c')) w') : wpAnyT Try.prog md ops Q S L (fuel + 1) listed a w :=
  wpAnyT_one hi hr (by simp [Region.wanted, hg]) (wp_app s x ho el ao n c xs hs hSl B T' cs hx hB hcs h1 hn H hH hd h)
theorem r_nil (x : Operand) (ho : o.op = Op.nilCheck x) (p : Addr) (hx : a.eval x = .pointer (some p)) : (execOp a.eval o).run Try.prog w = .ok (.value (.pointer (some p))) w := by
  simp [execOp, ho, hx]
theorem r_field (s : TypeId) (x : Operand) (f : Nat) (ho : o.op = Op.fieldAddr s x f) (p q : Addr) (hx : a.eval x = .pointer (some p)) (h : ∀ w, (Instr.fieldAt s (.pointer (some p)) f).run Try.prog w = .ok (.pointer (some q)) w) : (execOp a.eval o).run Try.prog w = .ok (.value (.pointer (some q))) w := by
  simp only [execOp, ho, hx, Sem.run_bind, h, Result.andThen]; rfl
end

/-! ### Slots behind puts, the frame a variable -/
theorem ev_same {a : Act} {d : Nat} {v : Value} (h : d < a.tmps.size) : (a.put (some d) v).eval (.tmp d) = v := by
  simp [Act.put, Act.eval, h]
theorem ev_other {a : Act} {d t : Nat} {v : Value} (h : t ≠ d) : (a.put (some d) v).eval (.tmp t) = a.eval (.tmp t) := by
  simp [Act.put, Act.eval, Ne.symm h]
theorem sz_put {a : Act} {d : Option Nat} {v : Value} : (a.put d v).tmps.size = a.tmps.size := by
  cases d <;> simp [Act.put]

end Go.Proofs.Qxb6615025a
