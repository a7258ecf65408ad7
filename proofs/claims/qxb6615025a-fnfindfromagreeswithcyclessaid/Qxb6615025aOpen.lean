/- The arguments of a law opened. -/
import Derived.Test.Qxb6615025aArgs
import Derived.OpenShut
import Derived.WalkKit
import Derived.ProofKit
import Derived.ShutString
import Derived.ChangeOld
import Derived.Below
namespace Go.Proofs.Qxb6615025a
open Go.ChangeShapes Go.WideShapes Go.ChangeAt Go.RowKit

theorem cells9 : Try.prog.cellsOf 9 = 1 := by kernel_rfl
theorem cells22 : Try.prog.cellsOf 22 = 1 := by kernel_rfl

theorem cells_one {W : World} {x : Addr} {cs : List Value} (h : W.cells? 0 x 1 = some cs) : ∃ c, cs = [c] ∧ W.cell? x = some c := by
  have e0 : x.add 0 = x := by simp [Addr.add]
  simp [World.cells?, List.range_succ, e0] at h
  cases hc : W.cell? x with
  | none => simp [hc] at h
  | some c =>
    simp [hc] at h
    exact ⟨c, h.symm, rfl⟩

/-- What lies at the places of a slice whose elements are one cell wide. -/
theorem open_row {H : Type} {enc : TypeId × Value → H} {W : World} {sp : Nat → Bool} {held : Bool} {fuel : Nat} {t e : TypeId} {cs : List Value} {x : DataW H × List MemPlace} (ht : Try.prog.underlying t = some (.slice e)) (he : Try.prog.cellsOf e = 1)
    (h : DataW.trod enc Try.prog W 0 sp held fuel t cs = some x) :
    cs = [.slice none 0 0] ∨ ∃ a len cap, cs = [.slice a len cap] ∧ ∀ i, i < len → ∃ b off n y c, a = some ⟨b, off, none⟩ ∧ W.cell? ⟨b, off + i, none⟩ = some c ∧ DataW.trod enc Try.prog W 0 sp held n e [c] = some y := by
  rcases DataW.trod_slice ht h with ⟨hcs, _⟩ | ⟨a, len, cap, elems, rest, n, rfl, hcs, _, _, hl, hm, hlen, hel, _, _⟩
  · exact .inl hcs
  · refine .inr ⟨some a, len, cap, hcs, fun i hi => ?_⟩
    have hget : ∀ i, i < len → ∃ y c, W.cell? (a.add i) = some c ∧ DataW.trod enc Try.prog W 0 sp held n e [c] = some y := fun i hi => by
      have hE := hel i hi
      rw [he, Nat.mul_one, List.getElem?_eq_getElem (by omega)] at hE
      simp only [Option.bind_eq_some_iff] at hE
      obtain ⟨cs1, hc1, hy1⟩ := hE
      obtain ⟨c, rfl, hcc⟩ := cells_one hc1
      exact ⟨_, c, hcc, hy1⟩
    obtain ⟨b, off, spot⟩ := a
    obtain ⟨y0, c0, h0, _⟩ := hget 0 (by omega)
    have hs1 : spot = none := by simpa [Addr.add] using World.cell?_spot h0
    subst hs1
    obtain ⟨y, c, h1, h2⟩ := hget i hi
    rw [add_plain] at h1
    exact ⟨b, off, n, y, c, rfl, h1, h2⟩

theorem open_strs {H : Type} {enc : TypeId × Value → H} {W : World} {sp : Nat → Bool} {held : Bool} {fuel : Nat} {a : Option Addr} {len cap : Nat} {x : DataW H × List MemPlace}
    (h : DataW.trod enc Try.prog W 0 sp held fuel 22 [.slice a len cap] = some x) : ∃ ids : List ByteArray, ids.length = len ∧ Str W a ids := by
  rcases open_row Try.underlying22 cells9 h with hcs | ⟨a', len', cap', hcs, hrow⟩
  · simp at hcs
    obtain ⟨rfl, rfl, rfl⟩ := hcs
    exact ⟨[], rfl, fun j s hj => by simp at hj⟩
  · simp at hcs
    obtain ⟨rfl, rfl, rfl⟩ := hcs
    have key : ∀ i, ∃ s, i < len → ∃ b off, a = some ⟨b, off, none⟩ ∧ W.cell? ⟨b, off + i, none⟩ = some (.string s) := fun i => by
      by_cases hi : i < len
      · obtain ⟨b, off, n, y, c, h1, h2, h3⟩ := hrow i hi
        obtain ⟨s, hs, _⟩ := DataW.trod_string Try.underlying9 h3
        simp at hs
        subst hs
        exact ⟨s, fun _ => ⟨b, off, h1, h2⟩⟩
      · exact ⟨ByteArray.empty, fun q => absurd q hi⟩
    obtain ⟨f, hf⟩ := Classical.axiomOfChoice key
    refine ⟨(List.range len).map f, by simp, fun j s hj => ?_⟩
    have hjl : j < len := by have := (List.getElem?_eq_some_iff.1 hj).1; simpa using this
    rw [List.getElem?_map, List.getElem?_range hjl] at hj
    simp at hj
    subst hj
    exact hf j hjl

theorem open_rows {H : Type} {enc : TypeId × Value → H} {W : World} {sp : Nat → Bool} {held : Bool} {fuel : Nat} {a : Option Addr} {len cap : Nat} {x : DataW H × List MemPlace}
    (h : DataW.trod enc Try.prog W 0 sp held fuel 23 [.slice a len cap] = some x) : ∃ (rl : List (List ByteArray)) (ra : Nat → Option Addr) (rc : Nat → Nat), rl.length = len ∧ Edg W a ra rc rl := by
  rcases open_row Try.underlying23 cells22 h with hcs | ⟨a', len', cap', hcs, hrow⟩
  · simp at hcs
    obtain ⟨rfl, rfl, rfl⟩ := hcs
    exact ⟨[], fun _ => none, fun _ => 0, rfl, fun j s hj => by simp at hj⟩
  · simp at hcs
    obtain ⟨rfl, rfl, rfl⟩ := hcs
    have key : ∀ i, ∃ p : List ByteArray × Option Addr × Nat, i < len → (∃ b off, a = some ⟨b, off, none⟩ ∧ W.cell? ⟨b, off + i, none⟩ = some (.slice p.2.1 p.1.length p.2.2)) ∧ Str W p.2.1 p.1 := fun i => by
      by_cases hi : i < len
      · obtain ⟨b, off, n, y, c, h1, h2, h3⟩ := hrow i hi
        rcases open_row Try.underlying22 cells9 h3 with hcs | ⟨a2, len2, cap2, hcs, _⟩
        · simp at hcs
          subst hcs
          exact ⟨([], none, 0), fun _ => ⟨⟨b, off, h1, h2⟩, fun j s hj => by simp at hj⟩⟩
        · simp at hcs
          subst hcs
          obtain ⟨ids, hl, hS⟩ := open_strs h3
          exact ⟨(ids, a2, cap2), fun _ => ⟨⟨b, off, h1, by rw [hl]; exact h2⟩, hS⟩⟩
      · exact ⟨([], none, 0), fun q => absurd q hi⟩
    obtain ⟨f, hf⟩ := Classical.axiomOfChoice key
    refine ⟨(List.range len).map fun i => (f i).1, fun i => (f i).2.1, fun i => (f i).2.2, by simp, fun j l hj => ?_⟩
    have hjl : j < len := by have := (List.getElem?_eq_some_iff.1 hj).1; simpa using this
    rw [List.getElem?_map, List.getElem?_range hjl] at hj
    simp at hj
    subst hj
    exact hf j hjl
end Go.Proofs.Qxb6615025a
