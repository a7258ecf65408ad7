/-
  The interval stack: last (42), newIntervalStack (27).
-/
import Derived.Test.Qxb6615025aPop
namespace Go.Proofs.Qxb6615025a
open Go.RowKit

/-- The tree nodes above x, x itself first. -/
def ups : Nat → Nat → List Nat
  | 0, _ => []
  | k + 1, x => if x = 0 then [] else x :: ups k (x / 2)

theorem ups_zero (k : Nat) : ups k 0 = [] := by cases k <;> simp [ups]

/-- The latest entry at a place. -/
def latest (top : Nat → Int) (l : List Nat) (a : Int) : Int := l.foldl (fun a y => max a (top y)) a

/-- What 'last' answers. -/
def lastV (top : Nat → Int) (held : List (Int × Int)) (x : Nat) : Int :=
  if latest top (ups (x + 1) x) (-1) < 0 then -1 else ((held[(latest top (ups (x + 1) x) (-1)).toNat]?).map (·.1)).getD 0

set_option maxRecDepth 100000 in
set_option maxHeartbeats 1000000 in
theorem last_any (bs bt n : Nat) (ao : Option Addr) (c : Nat) (top : Nat → Int) (held : List (Int × Int)) (place : Nat) (w : World)
    (hI : Iv w bs bt n ao c top held) (hn : n ≤ 1024) (hp : place < n) (hh : held.length ≤ 1048576) (hv : ∀ y, y < 2 * n → -1 ≤ top y ∧ top y < held.length) :
    Calls Try.prog 42 #[.pointer (some ⟨bs, 0, none⟩), .int .i64 place] w fun e w' => e = .returned (.int .i64 (lastV top held (place + n))) ∧ ∃ k, w' = w.drewN k := by
  have f0 := hI.str.cell 0
  have f1 := hI.str.cell 1
  have f2 := hI.str.cell 2
  simp at f0 f1 f2
  have HT := hid hI.top
  have HH := hid hI.held
  have HV := hid hv
  clear hI hv
  go_enter Try.func42, Try.ntmps42
  go_wp2
  go_loopg [5, 6] (place + n + 1) (fun g s5 s6 wr => ∃ (x : Nat) (a : Int), s6 = .int .i64 x ∧ s5 = .int .i64 a ∧ x < 2 * n ∧ x < g ∧ -1 ≤ a ∧ a < held.length ∧ latest top (ups g x) a = latest top (ups (place + n + 1) (place + n)) (-1) ∧ ∃ k, wr = w.drewN k)
  case atStart => exact ⟨place + n, -1, by go_num, rfl, by omega, by omega, by omega, by omega, rfl, 0, rfl⟩
  case round =>
    obtain ⟨x, a, rfl, rfl, hx, hg, ha1, ha2, hl, k, rfl⟩ := hrel
    have HL := hid hl
    clear hl
    by_cases h0 : 0 < x
    · obtain ⟨g, rfl⟩ : ∃ g, gk = g + 1 := ⟨gk - 1, by omega⟩
      have e := HT.out.cell hx
      have b := HV.out x hx
      obtain ⟨b1, b2⟩ := b
      by_cases hm : a < top x
      · go_wp2
        go_roundg g
        case measure => omega
        case rel =>
          refine ⟨x / 2, max a (top x), by go_num, ?_, by omega, by omega, by omega, by omega, ?_, _, rfl⟩
          · rw [Int.max_eq_right (by omega)]
          · rw [← HL.out]
            simp [ups, latest, show x ≠ 0 by omega]
      · go_wp2
        go_roundg g
        case measure => omega
        case rel =>
          refine ⟨x / 2, max a (top x), by go_num, ?_, by omega, by omega, by omega, by omega, ?_, _, rfl⟩
          · rw [Int.max_eq_left (by omega)]
          · rw [← HL.out]
            simp [ups, latest, show x ≠ 0 by omega]
    · have hx0 : x = 0 := by omega
      subst hx0
      have hl := HL.out
      rw [ups_zero] at hl
      have HL' := hid (show a = latest top (ups (place + n + 1) (place + n)) (-1) from hl)
      clear hl
      by_cases hneg : a < 0
      · go_wp2
        go_ret
        exact ⟨by unfold lastV; rw [← HL'.out, if_pos hneg]; rfl, _, rfl⟩
      · obtain ⟨t, rfl⟩ : ∃ t : Nat, a = t := ⟨a.toNat, by omega⟩
        have ht : t < held.length := by omega
        obtain ⟨g, rfl, f5⟩ := HH.out.cell (pairs_get held t ht).1
        rw [show 2 * t = t * 2 by omega] at f5
        clear hneg
        go_wp2
        go_ret
        exact ⟨by unfold lastV; rw [← HL'.out, if_neg (by omega)]; simp [ht], _, rfl⟩

set_option maxRecDepth 100000 in
set_option maxHeartbeats 1000000 in
theorem newIv_any (n : Nat) (w : World) (hn : n ≤ 1024) :
    Calls Try.prog 27 #[.int .i64 n] w fun e w' => ∃ bs bt, e = .returned (.pointer (some ⟨bs, 0, none⟩)) ∧ Iv w' bs bt n none 0 (fun _ => -1) [] ∧ Fr Nothing w w' ∧ w.heap.size ≤ bs ∧ w.heap.size ≤ bt := by
  have hmk := run_make1 el33 rfl w (2 * n) (by omega)
  rw [show ((2 * n : Nat) : Int) = 2 * (n : Int) by omega] at hmk
  go_enter Try.func27, Try.ntmps27
  go_wp2
  have HA := hid (show Ints (w.alloc (Obj.cells (Array.ofFn fun _ : Fin (2 * n) => Value.int IntKind.i64 0) 3)) w.heap.size (2 * n) (fun _ => 0) from Rec.new w 3 _)
  have HF := hid (show Fr Nothing w (w.alloc (Obj.cells (Array.ofFn fun _ : Fin (2 * n) => Value.int IntKind.i64 0) 3)) from (Fr.refl _ w).alloc _)
  generalize hB : w.alloc (Obj.cells (Array.ofFn fun _ : Fin (2 * n) => Value.int IntKind.i64 0) 3) = w0 at *
  go_loopg [4, 10] (2 * n) (fun g s4 s10 wr => ∃ k : Nat, g + k = 2 * n ∧ s10 = .int .i64 k ∧ Ints wr w.heap.size (2 * n) (fun i => if i < k then -1 else 0) ∧ Fr Nothing w wr)
  case atStart => exact ⟨0, by omega, rfl, by simpa using HA.out, HF.out⟩
  case round =>
    obtain ⟨k, hg, rfl, hi, hf⟩ := hrel
    have HI := hid hi
    have HFr := hid hf
    clear hi hf
    by_cases hk : k < 2 * n
    · have e1 := HI.out.cell hk
      have e2 := HI.out.frozen k
      go_wp2
      go_roundg (gk - 1)
      case measure => omega
      case rel =>
        refine ⟨k + 1, by omega, by go_num, ?_, ?_⟩
        · refine Arr.congr (Ints.set HI.out k (-1)) fun i _ => ?_
          by_cases q : i = k
          · subst q; simp
          · rw [upd_other _ _ q]
            by_cases q2 : i < k
            · simp [q2, show i < k + 1 by omega]
            · simp [q2, show ¬ i < k + 1 by omega]
        · exact HFr.out.setCell (p := ⟨w.heap.size, k, none⟩) (fun q => by simp at q) _
    · have hk' : k = 2 * n := by omega
      subst hk'
      go_wp2
      go_ret
      have hsz := (HFr.out).size
      refine ⟨wr.heap.size, w.heap.size, rfl, ⟨Rec.new wr 74 _, ?_, Sl.nil _ _ _, ?_, by simp [blk], by simp [blk]⟩, HFr.out.alloc _, hsz, Nat.le_refl _⟩
      · refine Arr.congr (Arr.alloc HI.out _) fun i hi => ?_
        simp [hi]
      · have := Arr.lt HI.out
        omega
end Go.Proofs.Qxb6615025a
