/-
  The interval stack: the function that pop hands to cover (53).
-/
import Derived.Test.Qxb6615025aIv
namespace Go.Proofs.Qxb6615025a
open Go.RowKit

theorem pairs_get (l : List (Int × Int)) (i : Nat) (hi : i < l.length) : (pairs l)[2 * i]? = some (.int .i64 l[i].1) ∧ (pairs l)[2 * i + 1]? = some (.int .i64 l[i].2) := by
  induction l generalizing i with
  | nil => simp at hi
  | cons a t ih =>
    cases i with
    | zero => simp [pairs]
    | succ i =>
      have := ih i (by simpa using hi)
      have e : pairs (a :: t) = .int .i64 a.1 :: .int .i64 a.2 :: pairs t := by simp [pairs]
      rw [e, show 2 * (i + 1) = 2 * i + 1 + 1 by omega]
      simpa using this

theorem Iv.of_heap {w w' : World} {bs bt n : Nat} {ao : Option Addr} {c : Nat} {top : Nat → Int} {held : List (Int × Int)} (h : Iv w bs bt n ao c top held)
    (h1 : w'.heap[bs]? = w.heap[bs]?) (h2 : w'.heap[bt]? = w.heap[bt]?) (h3 : ∀ g, blk ao = some g → w'.heap[g]? = w.heap[g]?) : Iv w' bs bt n ao c top held :=
  ⟨h.str.of_heap h1, Arr.of_heap h.top h2, h.held.of_heap h3, h.ne, h.hs, h.ht⟩
theorem Iv.fr {M : Nat → Prop} {w w' : World} {bs bt n : Nat} {ao : Option Addr} {c : Nat} {top : Nat → Int} {held : List (Int × Int)} (h : Iv w bs bt n ao c top held) (hf : Fr M w w')
    (h1 : ¬ M bs) (h2 : ¬ M bt) (h3 : ∀ g, blk ao = some g → ¬ M g) : Iv w' bs bt n ao c top held :=
  h.of_heap (hf.block _ h.str.lt h1) (hf.block _ (Arr.lt h.top) h2) (fun g hg => hf.block _ (h.held.lt hg) (h3 g hg))
theorem Iv.setTop {w : World} {bs bt n : Nat} {ao : Option Addr} {c : Nat} {top : Nat → Int} {held : List (Int × Int)} (h : Iv w bs bt n ao c top held) (i : Nat) (v : Int) :
    Iv (w.setCell ⟨bt, i, none⟩ (.int .i64 v)) bs bt n ao c (upd top i v) held :=
  ⟨h.str.setOther h.ne _, Ints.set h.top i v, h.held.setOther h.ht _, h.ne, h.hs, h.ht⟩
theorem Iv.setOther {w : World} {bs bt n : Nat} {ao : Option Addr} {c : Nat} {top : Nat → Int} {held : List (Int × Int)} (h : Iv w bs bt n ao c top held) (p : Addr) (v : Value)
    (h1 : bs ≠ p.block) (h2 : bt ≠ p.block) (h3 : blk ao ≠ some p.block) : Iv (w.setCell p v) bs bt n ao c top held :=
  ⟨h.str.setOther h1 _, Arr.setOther h.top h2 _, h.held.setOther h3 _, h.ne, h.hs, h.ht⟩
theorem Iv.drew {w : World} {bs bt n : Nat} {ao : Option Addr} {c : Nat} {top : Nat → Int} {held : List (Int × Int)} (h : Iv w bs bt n ao c top held) : Iv w.drew bs bt n ao c top held :=
  h.of_heap rfl rfl (fun _ _ => rfl)

set_option maxRecDepth 100000 in
set_option maxHeartbeats 1000000 in
theorem pop1_any (bs bt n : Nat) (ao : Option Addr) (c : Nat) (top : Nat → Int) (held : List (Int × Int)) (p1 p2 node t : Nat) (kept : Nat) (w : World)
    (hI : Iv w bs bt n ao c top held) (hnode : node < 2 * n) (ht : top node = t) (hlt : t < held.length) (hk : 0 < kept) (hk2 : kept ≤ 1048576)
    (k1 : w.cell? ⟨p1, 0, none⟩ = some (.pointer (some ⟨bs, 0, none⟩))) (r2 : Rec w p2 3 #[.int .i64 kept])
    (d2 : p2 ≠ bs) (d4 : p2 ≠ bt) (d6 : blk ao ≠ some p2) :
    Calls Try.prog 53 #[.int .i64 node, .pointer (some ⟨p1, 0, none⟩), .pointer (some ⟨p2, 0, none⟩)] w fun e w' => e = .returned (.tuple #[]) ∧
      Iv w' bs bt n ao c (upd top node held[t].2) held ∧ Rec w' p2 3 #[.int .i64 (kept - 1 : Nat)] ∧ Fr (fun k => k = bt ∨ k = p2) w w' := by
  have f1 := hI.str.cell 1
  have f2 := hI.str.cell 2
  have f3 := hI.top.cell hnode
  have f4 := hI.top.frozen node
  have k2 := r2.cell 0
  have k3 := r2.frozen 0
  rw [ht] at f3
  simp at f1 f2 k2
  have hp := (pairs_get held t hlt).2
  obtain ⟨g, rfl, f5⟩ := hI.held.cell hp
  rw [show 2 * t + 1 = t * 2 + 1 by omega] at f5
  have HI := hid hI
  have R2 := hid r2
  clear hI r2 hp
  have hgp : g ≠ p2 := fun e => d6 (by simp [blk, e])
  clear d6
  go_enter Try.func53, Try.ntmps53
  go_upto_region 0 with fail
  go_region
  go_wp2
  go_end0
  rw [show (kept : Int) - 1 = (kept - 1 : Nat) by omega]
  refine ⟨rfl, ((HI.out.setTop node _).setOther ⟨p2, 0, none⟩ _ d2.symm d4.symm (by simpa [blk] using hgp)).drew, ?_, ?_⟩
  · exact ((R2.out.setOther (p := ⟨bt, node, none⟩) d4 _).set 0 _)
  · exact (((Fr.refl _ w).setCell (p := ⟨bt, node, none⟩) (fun _ => .inl rfl) _).setCell (p := ⟨p2, 0, none⟩) (fun _ => .inr rfl) _).drew
end Go.Proofs.Qxb6615025a
