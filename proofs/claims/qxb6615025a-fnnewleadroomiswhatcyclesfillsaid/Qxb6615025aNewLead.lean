-- ZZnewLead (21).
import Derived.Test.Qxb6615025aSpec
import Derived.Test.Qxb6615025aCycles
namespace Go.Proofs.Qxb6615025a
open Go.RowKit Go.MapKept

set_option maxRecDepth 100000 in
set_option maxHeartbeats 1000000 in
theorem zzNewLead_any (lead length : Nat) (w : World) (hl : lead < 9223372036854775808) (hlen : length ≤ 1024) :
    Calls Try.prog 21 #[.int .i64 lead, .int .i64 length] w fun e w' => ∃ b, e = .returned (.slice (some ⟨b, 0, none⟩) 0 (min lead length)) ∧ Fr Nothing w w' := by
  have HL := hid hl
  have HN := hid hlen
  have hb : ∀ w : World, (Instr.build 61 #[(4, .int .i64 lead)]).run Try.prog w = .ok (.agg #[.slice none 0 0, .slice none 0 0, .slice none 0 0, .pointer none, .pointer none, .int .i64 lead, .map none, .slice none 0 0, .pointer none]) w := fun w => by kernel_rfl
  go_enter Try.func21, Try.ntmps21
  go_upto_region 2 with fail
  obtain ⟨w1, hw1⟩ : ∃ w1, w1 = w.alloc (Obj.cells #[Value.slice none 0 0, Value.slice none 0 0, Value.slice none 0 0, Value.pointer none, Value.pointer none, Value.int IntKind.i64 lead, Value.map none, Value.slice none 0 0, Value.pointer none] 61) := ⟨_, rfl⟩
  obtain ⟨bc, hbc⟩ : ∃ bc, bc = w.heap.size := ⟨_, rfl⟩
  have c5 : w1.cell? ⟨bc, 5, none⟩ = some (.int .i64 lead) := by
    rw [hw1, hbc]
    have := (Rec.new w 61 #[Value.slice none 0 0, Value.slice none 0 0, Value.slice none 0 0, Value.pointer none, Value.pointer none, Value.int IntKind.i64 lead, Value.map none, Value.slice none 0 0, Value.pointer none]).cell 5
    exact this
  have F1 := hid (show Fr Nothing w w1 by rw [hw1]; exact (Fr.refl _ w).alloc _)
  have H33 := hid (newLead_any bc lead length w1 hl hlen c5)
  rw [← hw1, ← hbc]
  clear hw1 hbc c5 hb hl hlen
  go_wp2_with (go_at_call 33; with_reducible refine H33.out.mono ?_; rintro e w2 ⟨rfl, hw2⟩; have F2 := hid (show Fr Nothing w w2 by rw [hw2]; exact F1.out.alloc _); clear hw2)
  go_ret
  exact ⟨_, rfl, F2.out⟩
end Go.Proofs.Qxb6615025a
