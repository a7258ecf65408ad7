/-
  FnCheckTakenClusterAndUserRefuseApart (4): the walk.
-/

import Derived.Test.Qxb6614633aFmtRefused
namespace Go.Proofs.Qxb6614633aFmt
open Go.RowKit Go.Extern.Stop Go.Stop Go.Extern
set_option maxRecDepth 100000 in
set_option maxHeartbeats 2000000 in
theorem small_any (c0 c1 c2 c3 px t0 t1 t2 t3 t4 t5 us pw asx : ByteArray) (b he ha : Bool) (w : World) :
    Calls Tryf.prog 6 #[.agg #[.string c0, .string c1, .string c2, .string c3, .bool b, .string px], .agg #[.string t0, .string t1, .string t2, .string t3, .string t4, .string t5, .string us, .string pw, .bool he, .bool ha, .string asx]] w
      fun e w' => (∃ r, e = .returned (.bool r)) ∧ Below w.heap.size w w' := by
  go_enter Tryf.func6, Tryf.ntmps6
  go_wp2
  all_goals
    go_ret
    exact ⟨⟨_, rfl⟩, ((Below.refl _ _).alloc (Nat.le_refl _) _).alloc (by simp) _⟩
set_option maxRecDepth 100000 in
set_option maxHeartbeats 2000000 in
theorem bytes_any (c0 c1 c2 c3 px t0 t1 t2 t3 t4 t5 us pw asx : ByteArray) (b he ha : Bool) (w : World) :
    Calls Tryf.prog 8 #[.agg #[.string c0, .string c1, .string c2, .string c3, .bool b, .string px], .agg #[.string t0, .string t1, .string t2, .string t3, .string t4, .string t5, .string us, .string pw, .bool he, .bool ha, .string asx]] w
      fun e w' => (∃ r, e = .returned (.bool r)) ∧ Below w.heap.size w w' := by
  go_enter Tryf.func8, Tryf.ntmps8
  go_wp2
  all_goals
    go_ret
    exact ⟨⟨_, rfl⟩, ((Below.refl _ _).alloc (Nat.le_refl _) _).alloc (by simp) _⟩

theorem bcell {W w1 : World} (hb : Below W.heap.size W w1) : (∀ b o, b < W.heap.size → w1.cell? ⟨b, o, none⟩ = W.cell? ⟨b, o, none⟩) :=
  fun b o h => hb.cell (p := ⟨b, o, none⟩) h

set_option maxRecDepth 100000 in
set_option maxHeartbeats 2000000 in
theorem law_any (F : Interp) (c0 c1 c2 c3 px t0 t1 t2 t3 t4 t5 us pw asx : ByteArray) (b he ha : Bool) (w : World) (hF : F.answers w.tape)
    (hsm : ∀ s t : ByteArray, s.size ≤ 300 → t.size ≤ 300 → (tx F s t).size ≤ 1000) (pe ub : Bool) (hpe : px.toList.isEmpty = pe) (hub : asked false ByteArray.empty us pw he ha asx = ub) :
    Calls Tryf.prog 4 #[.agg #[.string c0, .string c1, .string c2, .string c3, .bool b, .string px], .agg #[.string t0, .string t1, .string t2, .string t3, .string t4, .string t5, .string us, .string pw, .bool he, .bool ha, .string asx]] w
      fun e w' => e = .returned (.bool true) ∧ Below w.heap.size w w' := by
  have e0 : ByteArray.empty.toList = [] := by decide +kernel
  have e1 : asked b px us pw he ha asx = (b || !pe || ub) := by
    rw [← hub, ← hpe]; unfold asked
    cases b <;> simp [Bool.or_assoc, e0]
  have e2 : asked b px ByteArray.empty ByteArray.empty false false ByteArray.empty = (b || !pe) := by
    rw [← hpe]; unfold asked; simp [e0]
  have e3 : asked false ByteArray.empty ByteArray.empty ByteArray.empty false false ByteArray.empty = false := by
    unfold asked; simp [e0]
  have R1 := fun w' h => refused_any F c0 c1 c2 c3 px t0 t1 t2 t3 t4 t5 us pw asx b he ha w' h hsm
  have R2 := fun w' h => refused_any F c0 c1 c2 c3 px .empty .empty .empty .empty .empty .empty .empty .empty .empty b false false w' h hsm
  have R3 := fun w' h => refused_any F .empty .empty .empty .empty .empty t0 t1 t2 t3 t4 t5 us pw asx false he ha w' h hsm
  have R4 := fun w' h => refused_any F .empty .empty .empty .empty .empty .empty .empty .empty .empty .empty .empty .empty .empty .empty false false false w' h hsm
  rw [e1] at R1
  rw [e2] at R2
  rw [hub] at R3
  rw [e3] at R4
  have H1 := hid R1
  have H2 := hid R2
  have H3 := hid R3
  have H4 := hid R4
  have HF := hid hF
  clear R1 R2 R3 R4 hF hsm e0 e1 e2 e3 hub
  cases b <;> cases pe <;> cases ub
  all_goals
    go_enter Tryf.func4, Tryf.ntmps4
    go_wp2_with fail
    refine (bytes_any _ _ _ _ _ _ _ _ _ _ _ _ _ _ _ _ _ _).mono ?_
    rintro e w1 ⟨⟨r, rfl⟩, hb1⟩
    have B1 := hid ((((Below.refl w.heap.size w).alloc (Nat.le_refl _) _).alloc (by simp) _).trans (hb1.mono (by simp; omega)))
    have hc1 := bcell hb1
    have hs1 := hb1.size
    simp only [World.size_alloc] at hc1 hs1
    have z1 : w.heap.size < w1.heap.size := by omega
    have z1' : w.heap.size + 1 < w1.heap.size := by omega
    clear hs1 hb1
    cases r
    · go_wp2
      go_ret
      exact ⟨rfl, B1.out⟩
    go_wp2_with fail
    refine (small_any _ _ _ _ _ _ _ _ _ _ _ _ _ _ _ _ _ _).mono ?_
    rintro e w2 ⟨⟨r, rfl⟩, hb2⟩
    have B2 := hid (B1.out.trans (hb2.mono (Nat.le_of_lt z1)))
    have hc2 := bcell hb2
    have hs2 := hb2.size
    have z2 : w.heap.size < w2.heap.size := by omega
    have z2' : w.heap.size + 1 < w2.heap.size := by omega
    clear hs2 hb2
    cases r
    · go_wp2
      go_ret
      exact ⟨rfl, B2.out⟩
    go_wp2_with fail
    refine (H1.out _ (answers_of HF.out B2.out.tape)).mono ?_
    rintro e w3 ⟨rfl, hb3⟩
    have B3 := hid (B2.out.trans (hb3.mono (Nat.le_of_lt z2)))
    have hc3 := bcell hb3
    have hs3 := hb3.size
    have z3 : w.heap.size < w3.heap.size := by omega
    have z3' : w.heap.size + 1 < w3.heap.size := by omega
    clear hs3 hb3
    go_wp2_with fail
    refine (H2.out _ (answers_of HF.out B3.out.tape)).mono ?_
    rintro e w4 ⟨rfl, hb4⟩
    have B4 := hid (B3.out.trans (hb4.mono (Nat.le_of_lt z3)))
    have hc4 := bcell hb4
    have hs4 := hb4.size
    have z4 : w.heap.size < w4.heap.size := by omega
    have z4' : w.heap.size + 1 < w4.heap.size := by omega
    clear hs4 hb4
    go_wp2_with fail
    refine (H3.out _ (answers_of HF.out B4.out.tape)).mono ?_
    rintro e w5 ⟨rfl, hb5⟩
    have B5 := hid (B4.out.trans (hb5.mono (Nat.le_of_lt z4)))
    have hc5 := bcell hb5
    have hs5 := hb5.size
    have z5 : w.heap.size < w5.heap.size := by omega
    have z5' : w.heap.size + 1 < w5.heap.size := by omega
    clear hs5 hb5
    go_wp2_with fail
    refine (H4.out _ (answers_of HF.out B5.out.tape)).mono ?_
    rintro e w6 ⟨rfl, hb6⟩
    have B6 := hid (B5.out.trans (hb6.mono (Nat.le_of_lt z5)))
    clear hb6
    go_wp2
    go_ret
    exact ⟨rfl, B6.out⟩
end Go.Proofs.Qxb6614633aFmt
