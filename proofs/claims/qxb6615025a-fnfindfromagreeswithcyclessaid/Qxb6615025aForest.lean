/-
  A forest in memory; newForest (26).
-/
import Derived.Test.Qxb6615025aLast
namespace Go.Proofs.Qxb6615025a
open Go.RowKit

/-- A forest in memory: block bf is the struct, b0 from, b1 depth, b2 size, b3 pos. -/
structure Fo (w : World) (bf b0 b1 b2 b3 n : Nat) (from' depth size pos : Nat → Int) : Prop where
  str : Rec w bf 71 #[.slice (some ⟨b0, 0, none⟩) n n, .slice (some ⟨b1, 0, none⟩) n n, .slice (some ⟨b2, 0, none⟩) n n, .slice (some ⟨b3, 0, none⟩) n n]
  i0 : Ints w b0 n from'
  i1 : Ints w b1 n depth
  i2 : Ints w b2 n size
  i3 : Ints w b3 n pos
  nd : [bf, b0, b1, b2, b3].Nodup

theorem Ints.newAt (w : World) (k B : Nat) (h : w.heap.size = B) : Ints (w.alloc (Obj.cells (Array.ofFn fun _ : Fin k => Value.int IntKind.i64 0) 3)) B k (fun _ => 0) := by
  subst h
  exact Rec.new w 3 _
theorem Rec.newAt (w : World) (T B : Nat) (cs : Array Value) (h : w.heap.size = B) : Rec (w.alloc (.cells cs T)) B T cs := by
  subst h
  exact Rec.new w T cs

theorem fo_new {w wr : World} {k : Nat} (hi : Ints wr w.heap.size k (fun i => if i < k then -2 else 0)) (hf : Fr Nothing w wr) (B1 B2 B3 : Nat)
    (h1 : wr.heap.size ≤ B1 ∧ B1 ≤ wr.heap.size + 2) (h2 : wr.heap.size ≤ B2 ∧ B2 ≤ wr.heap.size + 2) (h3 : wr.heap.size ≤ B3 ∧ B3 ≤ wr.heap.size + 2) (d1 : B1 ≠ B2) (d2 : B1 ≠ B3) (d3 : B2 ≠ B3) {x : Value} (hx : x = .pointer (some ⟨wr.heap.size + 1 + 1 + 1, 0, none⟩) := by rfl) :
    ∃ bf b0 b1 b2 b3, Ending.returned x = .returned (.pointer (some ⟨bf, 0, none⟩)) ∧ Fo ((((wr.alloc (Obj.cells (Array.ofFn fun _ : Fin k => Value.int IntKind.i64 0) 3)).alloc (Obj.cells (Array.ofFn fun _ : Fin k => Value.int IntKind.i64 0) 3)).alloc (Obj.cells (Array.ofFn fun _ : Fin k => Value.int IntKind.i64 0) 3)).alloc
      (Obj.cells #[.slice (some ⟨w.heap.size, 0, none⟩) k k, .slice (some ⟨B1, 0, none⟩) k k, .slice (some ⟨B2, 0, none⟩) k k, .slice (some ⟨B3, 0, none⟩) k k] 71)).drew bf b0 b1 b2 b3 k (fun _ => -2) (fun _ => 0) (fun _ => 0) (fun _ => 0) ∧
      Fr Nothing w ((((wr.alloc (Obj.cells (Array.ofFn fun _ : Fin k => Value.int IntKind.i64 0) 3)).alloc (Obj.cells (Array.ofFn fun _ : Fin k => Value.int IntKind.i64 0) 3)).alloc (Obj.cells (Array.ofFn fun _ : Fin k => Value.int IntKind.i64 0) 3)).alloc
      (Obj.cells #[.slice (some ⟨w.heap.size, 0, none⟩) k k, .slice (some ⟨B1, 0, none⟩) k k, .slice (some ⟨B2, 0, none⟩) k k, .slice (some ⟨B3, 0, none⟩) k k] 71)).drew ∧
      w.heap.size ≤ bf ∧ w.heap.size ≤ b0 ∧ w.heap.size ≤ b1 ∧ w.heap.size ≤ b2 ∧ w.heap.size ≤ b3 := by
  subst hx
  have hsz := hf.size
  have hl := Arr.lt hi
  have key : ∀ (B : Nat) (o : Obj), wr.heap.size ≤ B ∧ B ≤ wr.heap.size + 2 → Ints ((((wr.alloc (Obj.cells (Array.ofFn fun _ : Fin k => Value.int IntKind.i64 0) 3)).alloc (Obj.cells (Array.ofFn fun _ : Fin k => Value.int IntKind.i64 0) 3)).alloc (Obj.cells (Array.ofFn fun _ : Fin k => Value.int IntKind.i64 0) 3)).alloc o) B k (fun _ => 0) := by
    intro B o hB
    refine Arr.alloc ?_ _
    rcases (show B = wr.heap.size ∨ B = wr.heap.size + 1 ∨ B = wr.heap.size + 2 by omega) with rfl | rfl | rfl
    · exact Arr.alloc (Arr.alloc (Ints.newAt wr k _ rfl) _) _
    · exact Arr.alloc (Ints.newAt (wr.alloc _) k _ (World.size_alloc _ _)) _
    · exact Ints.newAt ((wr.alloc _).alloc _) k _ (by rw [World.size_alloc, World.size_alloc])
  refine ⟨wr.heap.size + 1 + 1 + 1, w.heap.size, B1, B2, B3, rfl, ⟨?_, ?_, key B1 _ h1, key B2 _ h2, key B3 _ h3, ?_⟩, ((((hf.alloc _).alloc _).alloc _).alloc _).drew, by omega, by omega, by omega, by omega, by omega⟩
  · exact Rec.newAt _ 71 _ _ (by simp)
  · rw [ints_drew]
    refine Arr.congr (Arr.alloc (Arr.alloc (Arr.alloc (Arr.alloc hi _) _) _) _) fun i hi => ?_
    simp [hi]
  · simp
    omega

set_option maxRecDepth 100000 in
set_option maxHeartbeats 1000000 in
theorem newForest_any (n : Nat) (w : World) (hn : n ≤ 1024) :
    Calls Try.prog 26 #[.int .i64 n] w fun e w' => ∃ bf b0 b1 b2 b3, e = .returned (.pointer (some ⟨bf, 0, none⟩)) ∧ Fo w' bf b0 b1 b2 b3 n (fun _ => -2) (fun _ => 0) (fun _ => 0) (fun _ => 0) ∧ Fr Nothing w w' ∧
      w.heap.size ≤ bf ∧ w.heap.size ≤ b0 ∧ w.heap.size ≤ b1 ∧ w.heap.size ≤ b2 ∧ w.heap.size ≤ b3 := by
  have hmk := fun w => run_make1 el33 rfl w n (by omega)
  go_enter Try.func26, Try.ntmps26
  go_wp2
  have HA := hid (show Ints (w.alloc (Obj.cells (Array.ofFn fun _ : Fin n => Value.int IntKind.i64 0) 3)) w.heap.size n (fun _ => 0) from Rec.new w 3 _)
  have HF := hid (show Fr Nothing w (w.alloc (Obj.cells (Array.ofFn fun _ : Fin n => Value.int IntKind.i64 0) 3)) from (Fr.refl _ w).alloc _)
  generalize hB : w.alloc (Obj.cells (Array.ofFn fun _ : Fin n => Value.int IntKind.i64 0) 3) = w0 at *
  clear hB
  go_loopg [4, 9] n (fun g s4 s9 wr => ∃ k : Nat, g + k = n ∧ s9 = .int .i64 k ∧ Ints wr w.heap.size n (fun i => if i < k then -2 else 0) ∧ Fr Nothing w wr)
  case atStart => exact ⟨0, by omega, rfl, by simpa using HA.out, HF.out⟩
  case round =>
    obtain ⟨k, hg, rfl, hi, hf⟩ := hrel
    have HI := hid hi
    have HFr := hid hf
    clear hi hf
    by_cases hk : k < n
    · have e1 := HI.out.cell hk
      have e2 := HI.out.frozen k
      go_wp2
      go_roundg (gk - 1)
      case measure => omega
      case rel =>
        refine ⟨k + 1, by omega, by go_num, ?_, ?_⟩
        · refine Arr.congr (Ints.set HI.out k (-2)) fun i _ => ?_
          by_cases q : i = k
          · subst q; simp
          · rw [upd_other _ _ q]
            by_cases q2 : i < k
            · simp [q2, show i < k + 1 by omega]
            · simp [q2, show ¬ i < k + 1 by omega]
        · exact HFr.out.setCell (p := ⟨w.heap.size, k, none⟩) (fun q => by simp at q) _
    · have hk' : k = n := by omega
      subst hk'
      go_wp2
      go_region
      all_goals go_wp2
      all_goals go_ret
      all_goals exact fo_new HI.out HFr.out _ _ _ (by omega) (by omega) (by omega) (by omega) (by omega) (by omega)
end Go.Proofs.Qxb6615025a
