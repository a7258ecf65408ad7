/-
  The interval stack: pop (47).
-/
import Derived.Test.Qxb6615025aPush
namespace Go.Proofs.Qxb6615025a
open Go.RowKit

/-- One entry taken away. -/
def popN (held : List (Int × Int)) (top : Nat → Int) (node : Nat) : Nat → Int := upd top node ((held[(top node).toNat]?).map (·.2) |>.getD 0)

theorem popN_eq {held : List (Int × Int)} {top : Nat → Int} {x t : Nat} (h : top x = (t : Int)) (ht : t < held.length) : popN held top x = upd top x held[t].2 := by
  unfold popN
  rw [h]
  simp [ht]

theorem pairs_length (l : List (Int × Int)) : (pairs l).length = 2 * l.length := by
  induction l with
  | nil => rfl
  | cons a t ih => simp [pairs] at ih ⊢; omega

theorem pairs_take (l : List (Int × Int)) (k : Nat) : (pairs l).take (k * 2) = pairs (l.take k) := by
  induction l generalizing k with
  | nil => simp [pairs]
  | cons a t ih =>
    cases k with
    | zero => simp [pairs]
    | succ k =>
      have e : pairs (a :: t) = .int .i64 a.1 :: .int .i64 a.2 :: pairs t := by simp [pairs]
      have e2 : pairs (a :: t.take k) = .int .i64 a.1 :: .int .i64 a.2 :: pairs (t.take k) := by simp [pairs]
      rw [List.take_succ_cons, e, e2, show (k + 1) * 2 = k * 2 + 1 + 1 by omega, List.take_succ_cons, List.take_succ_cons, ih]

set_option maxRecDepth 100000 in
set_option maxHeartbeats 1000000 in
theorem pop_any (bs bt n : Nat) (ao : Option Addr) (c : Nat) (top : Nat → Int) (held : List (Int × Int)) (lo hi : Nat) (w : World)
    (hI : Iv w bs bt n ao c top held) (hn : n ≤ 1024) (hlo : lo ≤ n) (hhi : hi ≤ n) (hh : held.length ≤ 524288) (h0 : 0 < held.length) (hc : (nodes n lo hi).length ≤ held.length)
    (hv : ∀ l x, (l ++ [x]) <+: nodes n lo hi → ∃ t : Nat, t < held.length ∧ (l.foldl (popN held) top) x = (t : Int)) :
    Calls Try.prog 47 #[.pointer (some ⟨bs, 0, none⟩), .int .i64 lo, .int .i64 hi] w fun e w' => e = .returned (.tuple #[]) ∧
      Iv w' bs bt n ao c ((nodes n lo hi).foldl (popN held) top) (held.take (held.length - (nodes n lo hi).length)) ∧ Fr (fun k => k = bs ∨ k = bt) w w' := by
  have HI := hid hI
  have hbs := hI.str.lt
  have hbt := Arr.lt hI.top
  obtain ⟨g, hao, hlc⟩ : ∃ g, ao = some ⟨g, 0, none⟩ ∧ held.length ≤ c := by
    rcases hI.held.form with ⟨_, h, _⟩ | ⟨g, cur, h1, _, h2, _⟩
    · omega
    · exact ⟨g, h1, h2⟩
  subst hao
  have hg := hI.held.lt rfl
  have HV := hid hv
  have HC := hid hc
  have f2 := hI.str.cell 2
  simp at f2
  have hne := hid hI.ne
  clear hI hv hc
  go_enter Try.func47, Try.ntmps47
  go_wp2_with fail
  have c0 : ((w.alloc (Obj.cells #[Value.pointer (some ⟨bs, 0, none⟩)] 58)).alloc (Obj.cells #[Value.int IntKind.i64 held.length] 3)).cell? ⟨bs, 0, none⟩ = some (.int .i64 n) := by
    rw [World.cell?_alloc_lt _ _ _ (by simp; omega), World.cell?_alloc_lt _ _ _ hbs]
    exact HI.out.str.cell 0
  refine (cover_any bs n 53 _ lo hi _ (by omega) (by omega) (by omega) (fun args w' => by kernel_rfl) c0
    (fun l w' => Iv w' bs bt n (some ⟨g, 0, none⟩) c (l.foldl (popN held) top) held ∧
      w'.cell? ⟨w.heap.size, 0, none⟩ = some (.pointer (some ⟨bs, 0, none⟩)) ∧ Rec w' (w.heap.size + 1) 3 #[.int .i64 (held.length - l.length : Nat)] ∧
      Fr (fun k => k = bs ∨ k = bt) w w') ?_ ?_ ?_).mono ?_
  · refine ⟨HI.out.fr (M := Nothing) (((Fr.refl _ w).alloc _).alloc _) (fun q => q) (fun q => q) (fun _ _ q => q), ?_, ?_, ((Fr.refl _ w).alloc _).alloc _⟩
    · rw [World.cell?_alloc_lt _ _ _ (by simp)]
      exact (Rec.new w 58 _).cell 0
    · have := (Rec.new (w.alloc (Obj.cells #[Value.pointer (some ⟨bs, 0, none⟩)] 58)) 3 #[Value.int IntKind.i64 held.length])
      simp only [World.size_alloc] at this
      exact this
  · rintro l w' k ⟨h1, h2, h3, h4⟩
    exact ⟨h1.fr (M := Nothing) ((Fr.refl _ w').drewN k) (fun q => q) (fun q => q) (fun _ _ q => q), h2, h3, h4.drewN k⟩
  · rintro l x w' hp ⟨h1, h2, h3, h4⟩
    have hx : x ∈ nodes n lo hi := hp.subset (by simp)
    have hl : l.length + 1 ≤ (nodes n lo hi).length := by
      have := hp.length_le
      unfold nodes
      simp at this
      omega
    have hl2 := HC.out
    obtain ⟨t, ht, hxt⟩ := HV.out l x hp
    refine (pop1_any bs bt n _ c _ _ w.heap.size (w.heap.size + 1) x t (held.length - l.length) w' h1 (nodes_lt hhi hx) hxt ht (by omega) (by omega) h2 h3 (by omega) (by omega) (by simp [blk]; omega)).mono ?_
    rintro e w2 ⟨rfl, g1, g2, g3⟩
    refine ⟨rfl, ?_, ?_, ?_, ?_⟩
    · rw [List.foldl_append]
      simp only [List.foldl_cons, List.foldl_nil]
      have e : popN held (l.foldl (popN held) top) x = upd (l.foldl (popN held) top) x held[t].2 := by
        exact popN_eq hxt ht
      rw [e]
      exact g1
    · exact g3.cell h2 (by rintro (q | q) <;> omega)
    · simpa [Nat.sub_sub] using g2
    · refine h4.trans g3 ?_
      rintro i hi (q | q)
      · exact .inr q
      · omega
  · rintro e w' ⟨rfl, h1, h2, h3, h4⟩
    have e3 := h3.cell 0
    have e1 := h1.str.cell 2
    have e4 := h1.str.frozen 2
    simp at e1 e3
    have X := hid h1
    have Y := hid h4
    clear h1 h3 h4
    generalize hm : held.length - (coverL (hi + n) (lo + n) (hi + n)).length = m at *
    have hmle : m ≤ held.length := by omega
    go_wp2_with fail
    go_region
    go_end0
    have x := X.out
    refine ⟨rfl, ⟨?_, ?_, ?_, x.ne, x.hs, x.ht⟩, ?_⟩
    · have := x.str.set 2 (.slice (some ⟨g, 0, none⟩) m c)
      rw [show nodes n lo hi = coverL (hi + n) (lo + n) (hi + n) from rfl, hm, List.length_take, Nat.min_eq_left hmle]
      exact this
    · exact Arr.setOther (p := ⟨bs, 2, none⟩) x.top x.ne.symm _
    · rw [show nodes n lo hi = coverL (hi + n) (lo + n) (hi + n) from rfl, hm, List.length_take, Nat.min_eq_left hmle, ← pairs_take]
      exact (x.held.setOther (p := ⟨bs, 2, none⟩) x.hs _).pre hmle
    · exact (Y.out.setCell (p := ⟨bs, 2, none⟩) (fun _ => .inl rfl) _).drew
end Go.Proofs.Qxb6615025a
