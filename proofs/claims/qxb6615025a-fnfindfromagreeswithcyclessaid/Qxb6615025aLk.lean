-- What the laws over Cycles share.
import Derived.Test.Qxb6615025aSpec
import Derived.Test.Qxb6615025aCycles
import Derived.Test.Qxb6615025aArgs2
import Derived.Test.Qxb6615025aBuild
namespace Go.Proofs.Qxb6615025a
open Go.RowKit Go.MapKept

theorem z39' (w : World) : (zeroValue 39).run Try.prog w = .ok (.agg #[.int .i64 0, .slice none 0 0]) w := by kernel_rfl

theorem MapAt.len28' {w : World} {b c : Nat} {f : Value → Option Value} (h : MapAt .string w b c f) : (Builtin.len_ #[28] 3 #[.map (some b)]).run Try.prog w = .ok (.int .i64 (c : Int)) w := by
  obtain ⟨es, cl, hb, hn, _⟩ := h
  rw [← hn]
  exact run_len_map w 28 3 b es cl (by kernel_rfl) hb

end Go.Proofs.Qxb6615025a
