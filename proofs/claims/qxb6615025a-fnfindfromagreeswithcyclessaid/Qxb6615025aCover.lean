/-
  The interval stack: cover (48), and what is built on it.
-/

import Derived.Test.Qxb6615025aRows
import Derived.Test.Qxb6615025aBase
namespace Go.Proofs.Qxb6615025a
open Go.RowKit

/-- The tree nodes that cover the places from lo up to hi (in the tree's own numbers), in the order of the visits. -/
def coverL : Nat → Nat → Nat → List Nat
  | 0, _, _ => []
  | k + 1, lo, hi =>
    if lo < hi then
      (if lo % 2 = 1 then [lo] else []) ++ ((if hi % 2 = 1 then [hi - 1] else []) ++ coverL k ((lo + lo % 2) / 2) ((hi - hi % 2) / 2))
    else []

theorem coverL_stop {k lo hi : Nat} (h : ¬ lo < hi) : coverL k lo hi = [] := by
  cases k <;> simp [coverL, h]

set_option maxRecDepth 100000 in
set_option maxHeartbeats 1000000 in
theorem cover_any (bs n f : Nat) (cap : Array Value) (lo hi : Nat) (w : World) (hlo : lo ≤ 1048576) (hhi : hi ≤ 1048576) (hn : n ≤ 1048576)
    (hcf : ∀ args w', (callFunc f args).run Try.prog w' = .ok (.enter f args) w') (c0 : w.cell? ⟨bs, 0, none⟩ = some (.int .i64 n)) (I : List Nat → World → Prop) (h0 : I [] w) (hdr : ∀ l w' k, I l w' → I l (w'.drewN k))
    (hv : ∀ l x w', (l ++ [x]) <+: coverL (hi + n) (lo + n) (hi + n) → I l w' → Calls Try.prog f (#[.int .i64 x] ++ cap) w' fun e w'' => e = .returned (.tuple #[]) ∧ I (l ++ [x]) w'') :
    Calls Try.prog 48 #[.pointer (some ⟨bs, 0, none⟩), .int .i64 lo, .int .i64 hi, .func (.func f) #[] cap] w fun e w' => e = .returned (.tuple #[]) ∧ I (coverL (hi + n) (lo + n) (hi + n)) w' := by
  have H0 := hid h0
  have HD := hid hdr
  have HV := hid hv
  clear h0 hdr hv
  go_enter Try.func48, Try.ntmps48
  go_wp2
  go_quiet (fail)
  go_wp2
  go_loopg [1, 2] (hi + n) (fun g s1 s2 wr => ∃ (a b : Nat) (l : List Nat), s1 = .int .i64 a ∧ s2 = .int .i64 b ∧ a ≤ 2097152 ∧ b ≤ 2097152 ∧ b ≤ g ∧ I l wr ∧ l ++ coverL g a b = coverL (hi + n) (lo + n) (hi + n))
  case atStart => exact ⟨lo + n, hi + n, [], by go_num, by go_num, by omega, by omega, by omega, HD.out _ _ _ H0.out, rfl⟩
  case round =>
    obtain ⟨a, b, l, rfl, rfl, ha, hb, hbg, hI, hl⟩ := hrel
    by_cases hab : a < b
    · obtain ⟨g, rfl⟩ : ∃ g, gk = g + 1 := ⟨gk - 1, by omega⟩
      have HI := hid hI
      have HL := hid hl
      clear hI hl
      by_cases ea : a % 2 = 1 <;> by_cases eb : b % 2 = 1
      · have ta : ((a : Int) % 2 == 1) = true := by simp; omega
        have tb : ((b : Int) % 2 == 1) = true := by simp; omega
        have hc : coverL (g + 1) a b = a :: (b - 1) :: coverL g ((a + 1) / 2) ((b - 1) / 2) := by simp [coverL, hab, ea, eb]
        have HC := hid hc
        clear hc ea eb
        go_wp2_with fail
        refine (HV.out l a wr ⟨(b - 1) :: coverL g ((a + 1) / 2) ((b - 1) / 2), by rw [← HL.out, HC.out]; simp⟩ HI.out).mono ?_
        rintro e w1 ⟨rfl, hI1⟩
        have HI1 := hid hI1
        clear hI1
        go_wp2_with fail
        rw [show ((b : Int) - 1) = ((b - 1 : Nat) : Int) by omega]
        refine (HV.out (l ++ [a]) (b - 1) w1 ⟨coverL g ((a + 1) / 2) ((b - 1) / 2), by rw [← HL.out, HC.out]; simp⟩ HI1.out).mono ?_
        rintro e w2 ⟨rfl, hI2⟩
        have HI2 := hid hI2
        clear hI2
        go_wp2
        go_roundg g
        case measure => omega
        case rel =>
          refine ⟨(a + 1) / 2, (b - 1) / 2, l ++ [a] ++ [b - 1], by go_num, by go_num, by omega, by omega, by omega, HI2.out, ?_⟩
          rw [← HL.out, HC.out]; simp
      · have ta : ((a : Int) % 2 == 1) = true := by simp; omega
        have tb : ((b : Int) % 2 == 1) = false := by simp; omega
        have hc : coverL (g + 1) a b = a :: coverL g ((a + 1) / 2) (b / 2) := by simp [coverL, hab, ea, show b % 2 = 0 by omega]
        have HC := hid hc
        clear hc
        go_wp2_with fail
        refine (HV.out l a wr ⟨coverL g ((a + 1) / 2) (b / 2), by rw [← HL.out, HC.out]; simp⟩ HI.out).mono ?_
        rintro e w1 ⟨rfl, hI1⟩
        have HI1 := hid hI1
        clear hI1
        go_wp2
        go_roundg g
        case measure => omega
        case rel =>
          refine ⟨(a + 1) / 2, b / 2, l ++ [a], by go_num, by go_num, by omega, by omega, by omega, HI1.out, ?_⟩
          rw [← HL.out, HC.out]; simp
      · have ta : ((a : Int) % 2 == 1) = false := by simp; omega
        have tb : ((b : Int) % 2 == 1) = true := by simp; omega
        have hc : coverL (g + 1) a b = (b - 1) :: coverL g (a / 2) ((b - 1) / 2) := by simp [coverL, hab, eb, show a % 2 = 0 by omega]
        have HC := hid hc
        clear hc
        go_wp2_with fail
        rw [show ((b : Int) - 1) = ((b - 1 : Nat) : Int) by omega]
        refine (HV.out l (b - 1) wr ⟨coverL g (a / 2) ((b - 1) / 2), by rw [← HL.out, HC.out]; simp⟩ HI.out).mono ?_
        rintro e w1 ⟨rfl, hI1⟩
        have HI1 := hid hI1
        clear hI1
        go_wp2
        go_roundg g
        case measure => omega
        case rel =>
          refine ⟨a / 2, (b - 1) / 2, l ++ [b - 1], by go_num, by go_num, by omega, by omega, by omega, HI1.out, ?_⟩
          rw [← HL.out, HC.out]; simp
      · have ta : ((a : Int) % 2 == 1) = false := by simp; omega
        have tb : ((b : Int) % 2 == 1) = false := by simp; omega
        have hc : coverL (g + 1) a b = coverL g (a / 2) (b / 2) := by simp [coverL, hab, show a % 2 = 0 by omega, show b % 2 = 0 by omega]
        have HC := hid hc
        clear hc
        go_wp2
        go_roundg g
        case measure => omega
        case rel =>
          refine ⟨a / 2, b / 2, l, by go_num, by go_num, by omega, by omega, by omega, HI.out, ?_⟩
          rw [← HL.out, HC.out]
    · have HI := hid hI
      have HL := hid hl
      clear hI hl
      go_wp2
      go_end0
      have := HL.out
      rw [coverL_stop hab] at this
      exact ⟨rfl, by rw [← this]; simpa using HI.out⟩
end Go.Proofs.Qxb6615025a
