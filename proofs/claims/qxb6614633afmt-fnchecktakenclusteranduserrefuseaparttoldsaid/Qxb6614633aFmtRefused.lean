/-
  ZZcheckTaken (9), zzRefused (7): refused just where something is asked.
-/

import Derived.Test.Qxb6614633aFmtCheck
namespace Go.Proofs.Qxb6614633aFmt
open Go.RowKit Go.Extern.Stop Go.Stop Go.Extern

/-- Is anything asked? -/
def asked (b : Bool) (px us pw : ByteArray) (he ha : Bool) (asx : ByteArray) : Bool := b || !px.toList.isEmpty || (!us.toList.isEmpty || !pw.toList.isEmpty) || he || ha || !asx.toList.isEmpty

theorem none_iff (v0 v1 u0 u1 u2 u3 : Bool) : NoneAsked (bbOf v0 v1 u0 u1 u2 u3) ↔ (v0 || v1 || u0 || u1 || u2 || u3) = false := by
  constructor
  · intro h
    have a0 := h 0 (by omega) 0 (by decide)
    have a1 := h 1 (by omega) 0 (by decide)
    have a2 := h 2 (by omega) 0 (by decide)
    have a3 := h 2 (by omega) 1 (by decide)
    have a4 := h 2 (by omega) 2 (by decide)
    have a5 := h 2 (by omega) 3 (by decide)
    simp only [bbOf] at a0 a1 a2 a3 a4 a5
    simp [a0, a1, a2, a3, a4, a5]
  · intro h
    simp at h
    obtain ⟨⟨⟨⟨⟨rfl, rfl⟩, rfl⟩, rfl⟩, rfl⟩, rfl⟩ := h
    intro l hl j hj
    unfold bbOf
    split <;> rfl

set_option maxRecDepth 100000 in
set_option maxHeartbeats 1000000 in
theorem zz_any (F : Interp) (c0 c1 c2 c3 px t0 t1 t2 t3 t4 t5 us pw asx : ByteArray) (b he ha : Bool) (w : World) (hF : F.answers w.tape)
    (hsm : ∀ s t : ByteArray, s.size ≤ 300 → t.size ≤ 300 → (tx F s t).size ≤ 1000) :
    Calls Tryf.prog 9 #[.string c0, .string c1, .string c2, .string c3, .bool b, .string px, .string t0, .string t1, .string t2, .string t3, .string t4, .string t5, .string us, .string pw, .bool he, .bool ha, .string asx] w
      fun e w' => Below w.heap.size w w' ∧ ((e = .returned .nilIface ∧ asked b px us pw he ha asx = false) ∨ ((∃ t v, e = .returned (.iface t v)) ∧ asked b px us pw he ha asx = true)) := by
  have hmm := @run_makeMap Tryf.prog
  have H := hid (fun m1 m2 w' h => check_any F c0 c1 c2 c3 px t0 t1 t2 t3 t4 t5 us pw asx b m1 m2 w' h hsm)
  have HF := hid hF
  have fin : ∀ (m1 m2 : Bool) (e : Ending) (w2 w' : World), Below w.heap.size w w2 → (Below w2.heap.size w2 w' ∧ ((e = .returned .nilIface ∧ NoneAsked (bbOf b (!px.toList.isEmpty) (!us.toList.isEmpty || !pw.toList.isEmpty) m1 m2 (!asx.toList.isEmpty))) ∨
        ((∃ t v, e = .returned (.iface t v)) ∧ ¬ NoneAsked (bbOf b (!px.toList.isEmpty) (!us.toList.isEmpty || !pw.toList.isEmpty) m1 m2 (!asx.toList.isEmpty))))) →
      Below w.heap.size w w' ∧ ((e = .returned .nilIface ∧ asked b px us pw m1 m2 asx = false) ∨ ((∃ t v, e = .returned (.iface t v)) ∧ asked b px us pw m1 m2 asx = true)) := by
    intro m1 m2 e w2 w' hb ⟨hb2, h⟩
    refine ⟨hb.trans (hb2.mono hb.size), ?_⟩
    rcases h with ⟨h1, h2⟩ | ⟨h1, h2⟩
    · exact .inl ⟨h1, (none_iff _ _ _ _ _ _).1 h2⟩
    · refine .inr ⟨h1, ?_⟩
      rw [none_iff] at h2
      cases hx : asked b px us pw m1 m2 asx with
      | false => exact absurd hx h2
      | true => rfl
  have FIN := hid fin
  have hal : ∀ (w' : World) (o : Obj), Below w.heap.size w w' → Below w.heap.size w (w'.alloc o) := fun w' o hb => hb.alloc hb.size o
  have HAL := hid hal
  clear hsm hF fin hal
  cases he <;> cases ha
  · go_enter Tryf.func9, Tryf.ntmps9
    go_wp2_with fail
    refine (H.out none none _ (by exact HF.out)).mono ?_
    intro e w' he
    have hr := FIN.out false false e _ w' (HAL.out _ _ (HAL.out _ _ (Below.refl _ _))) he
    obtain ⟨hb, ⟨rfl, h2⟩ | ⟨⟨t, v, rfl⟩, h2⟩⟩ := hr
    all_goals
      have HR := hid hb
      have HR2 := hid h2
      clear hb h2 he
      go_wp2
      go_ret
    · exact ⟨HR.out, .inl ⟨rfl, HR2.out⟩⟩
    · exact ⟨HR.out, .inr ⟨⟨_, _, rfl⟩, HR2.out⟩⟩
  · go_enter Tryf.func9, Tryf.ntmps9
    go_wp2_with fail
    refine (H.out none (some _) _ (by exact HF.out)).mono ?_
    intro e w' he
    have hr := FIN.out false true e _ w' (HAL.out _ _ (HAL.out _ _ (HAL.out _ _ (Below.refl _ _)))) he
    obtain ⟨hb, ⟨rfl, h2⟩ | ⟨⟨t, v, rfl⟩, h2⟩⟩ := hr
    all_goals
      have HR := hid hb
      have HR2 := hid h2
      clear hb h2 he
      go_wp2
      go_ret
    · exact ⟨HR.out, .inl ⟨rfl, HR2.out⟩⟩
    · exact ⟨HR.out, .inr ⟨⟨_, _, rfl⟩, HR2.out⟩⟩
  · go_enter Tryf.func9, Tryf.ntmps9
    go_wp2_with fail
    refine (H.out (some _) none _ (by exact HF.out)).mono ?_
    intro e w' he
    have hr := FIN.out true false e _ w' (HAL.out _ _ (HAL.out _ _ (HAL.out _ _ (Below.refl _ _)))) he
    obtain ⟨hb, ⟨rfl, h2⟩ | ⟨⟨t, v, rfl⟩, h2⟩⟩ := hr
    all_goals
      have HR := hid hb
      have HR2 := hid h2
      clear hb h2 he
      go_wp2
      go_ret
    · exact ⟨HR.out, .inl ⟨rfl, HR2.out⟩⟩
    · exact ⟨HR.out, .inr ⟨⟨_, _, rfl⟩, HR2.out⟩⟩
  · go_enter Tryf.func9, Tryf.ntmps9
    go_wp2_with fail
    refine (H.out (some _) (some _) _ (by exact HF.out)).mono ?_
    intro e w' he
    have hr := FIN.out true true e _ w' (HAL.out _ _ (HAL.out _ _ (HAL.out _ _ (HAL.out _ _ (Below.refl _ _))))) he
    obtain ⟨hb, ⟨rfl, h2⟩ | ⟨⟨t, v, rfl⟩, h2⟩⟩ := hr
    all_goals
      have HR := hid hb
      have HR2 := hid h2
      clear hb h2 he
      go_wp2
      go_ret
    · exact ⟨HR.out, .inl ⟨rfl, HR2.out⟩⟩
    · exact ⟨HR.out, .inr ⟨⟨_, _, rfl⟩, HR2.out⟩⟩

set_option maxRecDepth 100000 in
set_option maxHeartbeats 1000000 in
theorem refused_any (F : Interp) (c0 c1 c2 c3 px t0 t1 t2 t3 t4 t5 us pw asx : ByteArray) (b he ha : Bool) (w : World) (hF : F.answers w.tape)
    (hsm : ∀ s t : ByteArray, s.size ≤ 300 → t.size ≤ 300 → (tx F s t).size ≤ 1000) :
    Calls Tryf.prog 7 #[.agg #[.string c0, .string c1, .string c2, .string c3, .bool b, .string px], .agg #[.string t0, .string t1, .string t2, .string t3, .string t4, .string t5, .string us, .string pw, .bool he, .bool ha, .string asx]] w
      fun e w' => e = .returned (.bool (asked b px us pw he ha asx)) ∧ Below w.heap.size w w' := by
  have H := hid (fun w' h => zz_any F c0 c1 c2 c3 px t0 t1 t2 t3 t4 t5 us pw asx b he ha w' h hsm)
  have HF := hid hF
  clear hsm hF
  go_enter Tryf.func7, Tryf.ntmps7
  go_wp2_with fail
  refine (H.out _ (by exact HF.out)).mono ?_
  rintro e w' ⟨hb, ⟨rfl, h2⟩ | ⟨⟨t, v, rfl⟩, h2⟩⟩
  all_goals
    have HR := hid hb
    have HR2 := hid h2
    clear hb h2
    go_wp2
    go_ret
    exact ⟨by rw [HR2.out]; rfl, (((Below.refl _ _).alloc (Nat.le_refl _) _).alloc (by simp) _).trans (HR.out.mono (by simp; omega))⟩
end Go.Proofs.Qxb6614633aFmt
