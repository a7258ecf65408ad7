/-
  The interval stack: push (43).
-/
import Derived.Test.Qxb6615025aIv2
namespace Go.Proofs.Qxb6615025a
open Go.RowKit

theorem coverL_lt : ∀ (k lo hi x : Nat), x ∈ coverL k lo hi → x < hi
  | 0, _, _, _, h => by simp [coverL] at h
  | k + 1, lo, hi, x, h => by
    simp only [coverL] at h
    split at h
    · rename_i hlt
      simp only [List.mem_append] at h
      rcases h with h | h | h
      · split at h <;> simp at h; omega
      · split at h <;> simp at h; omega
      · have := coverL_lt k _ _ x h
        omega
    · simp at h

theorem coverL_len : ∀ (j k lo hi : Nat), hi < 2 ^ j → (coverL k lo hi).length ≤ 2 * j
  | _, 0, _, _, _ => by simp [coverL]
  | 0, k + 1, lo, hi, h => by
    have : ¬ lo < hi := by simp at h; omega
    simp [coverL, this]
  | j + 1, k + 1, lo, hi, h => by
    have ih := coverL_len j k ((lo + lo % 2) / 2) ((hi - hi % 2) / 2) (by rw [Nat.pow_succ] at h; omega)
    simp only [coverL]
    split
    · simp only [List.length_append]
      have a1 : (if lo % 2 = 1 then [lo] else []).length ≤ 1 := by split <;> simp
      have a2 : (if hi % 2 = 1 then [hi - 1] else []).length ≤ 1 := by split <;> simp
      omega
    · simp

/-- One entry of an interval. -/
def pushN (val : Int) (s : (Nat → Int) × List (Int × Int)) (node : Nat) : (Nat → Int) × List (Int × Int) := (upd s.1 node s.2.length, s.2 ++ [(val, s.1 node)])

theorem pushN_len (val : Int) : ∀ (l : List Nat) (s : (Nat → Int) × List (Int × Int)), (l.foldl (pushN val) s).2.length = s.2.length + l.length
  | [], s => by simp
  | x :: l, s => by
    rw [List.foldl_cons, pushN_len val l]
    simp [pushN]; omega

def nodes (n lo hi : Nat) : List Nat := coverL (hi + n) (lo + n) (hi + n)

theorem nodes_lt {n lo hi x : Nat} (hhi : hi ≤ n) (h : x ∈ nodes n lo hi) : x < 2 * n := by
  have := coverL_lt _ _ _ _ h
  omega

theorem nodes_len {n lo hi : Nat} (hhi : hi ≤ n) (hn : n ≤ 1024) : (nodes n lo hi).length ≤ 24 :=
  coverL_len 12 _ _ _ (by omega)

set_option maxRecDepth 100000 in
set_option maxHeartbeats 1000000 in
theorem push_any (bs bt n : Nat) (ao : Option Addr) (c : Nat) (top : Nat → Int) (held : List (Int × Int)) (lo hi : Nat) (val : Int) (w : World)
    (hI : Iv w bs bt n ao c top held) (hn : n ≤ 1024) (hlo : lo ≤ n) (hhi : hi ≤ n) (hh : held.length ≤ 524288) :
    Calls Try.prog 43 #[.pointer (some ⟨bs, 0, none⟩), .int .i64 lo, .int .i64 hi, .int .i64 val] w fun e w' => e = .returned (.tuple #[]) ∧ ∃ ao' c',
      Iv w' bs bt n ao' c' ((nodes n lo hi).foldl (pushN val) (top, held)).1 ((nodes n lo hi).foldl (pushN val) (top, held)).2 ∧ Fr (fun k => k = bs ∨ k = bt ∨ blk ao = some k) w w' ∧ (blk ao' = blk ao ∨ ∃ g, w.heap.size ≤ g ∧ blk ao' = some g) := by
  have HI := hid hI
  have hbs := hI.str.lt
  have hbt := Arr.lt hI.top
  have hao := fun g (hg : blk ao = some g) => hI.held.lt hg
  have HAO := hid hao
  have hne := hid hI.ne
  clear hI hao
  go_enter Try.func43, Try.ntmps43
  go_wp2_with fail
  have c0 : ((w.alloc (Obj.cells #[Value.pointer (some ⟨bs, 0, none⟩)] 58)).alloc (Obj.cells #[Value.int IntKind.i64 val] 3)).cell? ⟨bs, 0, none⟩ = some (.int .i64 n) := by
    rw [World.cell?_alloc_lt _ _ _ (by simp; omega), World.cell?_alloc_lt _ _ _ hbs]
    exact HI.out.str.cell 0
  refine (cover_any bs n 49 _ lo hi _ (by omega) (by omega) (by omega) (fun args w' => by kernel_rfl) c0
    (fun l w' => ∃ ao' c', Iv w' bs bt n ao' c' (l.foldl (pushN val) (top, held)).1 (l.foldl (pushN val) (top, held)).2 ∧
      w'.cell? ⟨w.heap.size, 0, none⟩ = some (.pointer (some ⟨bs, 0, none⟩)) ∧ w'.cell? ⟨w.heap.size + 1, 0, none⟩ = some (.int .i64 val) ∧
      Fr (fun k => k = bs ∨ k = bt ∨ blk ao = some k) w w' ∧ w.heap.size + 2 ≤ w'.heap.size ∧ (blk ao' = blk ao ∨ ∃ g, w.heap.size + 2 ≤ g ∧ blk ao' = some g)) ?_ ?_ ?_).mono ?_
  · refine ⟨ao, c, ?_, ?_, ?_, ((Fr.refl _ w).alloc _).alloc _, by simp, .inl rfl⟩
    · exact (HI.out.fr (M := Nothing) (((Fr.refl _ w).alloc _).alloc _) (fun q => q) (fun q => q) (fun _ _ q => q))
    · rw [World.cell?_alloc_lt _ _ _ (by simp)]
      exact (Rec.new w 58 _).cell 0
    · have := (Rec.new (w.alloc (Obj.cells #[Value.pointer (some ⟨bs, 0, none⟩)] 58)) 3 #[Value.int IntKind.i64 val]).cell 0
      simp only [World.size_alloc] at this
      exact this
  · rintro l w' k ⟨ao', c', h1, h2, h3, h4, h5, h6⟩
    exact ⟨ao', c', h1.fr (M := Nothing) ((Fr.refl _ w').drewN k) (fun q => q) (fun q => q) (fun _ _ q => q), h2, h3, h4.drewN k, h5, h6⟩
  · rintro l x w' hp ⟨ao', c', h1, h2, h3, h4, h5, h6⟩
    have hx : x ∈ nodes n lo hi := hp.subset (by simp)
    have hl : l.length + 1 ≤ 24 := by
      have := hp.length_le
      have h := nodes_len (lo := lo) hhi hn
      unfold nodes at h
      simp at this
      omega
    have hfar : ∀ b, b = w.heap.size ∨ b = w.heap.size + 1 → blk ao' ≠ some b := by
      intro b hb hq
      rcases h6 with q | ⟨g, hg, q⟩
      · have := HAO.out b (q.symm.trans hq); omega
      · rw [hq] at q; cases q; omega
    have hlen := pushN_len val l (top, held)
    simp only at hlen
    refine (push1_any bs bt n ao' c' _ _ w.heap.size (w.heap.size + 1) x val w' h1 (nodes_lt hhi hx) (by rw [hlen]; omega) h2 h3 (by omega) (hfar _ (.inl rfl)) (hfar _ (.inr rfl))).mono ?_
    rintro e w2 ⟨rfl, ao2, c2, g1, g2, g3⟩
    refine ⟨rfl, ao2, c2, ?_, ?_, ?_, ?_, ?_, ?_⟩
    · rw [List.foldl_append]; exact g1
    · exact g2.cell h2 (by rintro (q | q | q); · omega
                           · omega
                           · exact hfar _ (.inl rfl) q)
    · exact g2.cell h3 (by rintro (q | q | q); · omega
                           · omega
                           · exact hfar _ (.inr rfl) q)
    · refine h4.trans g2 ?_
      rintro i hi (q | q | q)
      · exact .inl q
      · exact .inr (.inl q)
      · rcases h6 with r | ⟨g, hg, r⟩
        · exact .inr (.inr (r ▸ q))
        · rw [q] at r; cases r; omega
    · have := g2.size; omega
    · rcases g3 with q | ⟨g, hg, q⟩
      · rw [q]; exact h6
      · exact .inr ⟨g, by omega, q⟩
  · rintro e w' ⟨rfl, ao', c', h1, h2, h3, h4, h5, h6⟩
    have X := hid (show Iv w' bs bt n ao' c' ((nodes n lo hi).foldl (pushN val) (top, held)).1 ((nodes n lo hi).foldl (pushN val) (top, held)).2 from h1)
    have Y := hid h4
    clear h1 h2 h3 h4 
    go_wp2
    go_end0
    refine ⟨rfl, ao', c', X.out, Y.out, ?_⟩
    rcases h6 with q | ⟨g, hg, q⟩
    · exact .inl q
    · exact .inr ⟨g, by omega, q⟩
end Go.Proofs.Qxb6615025a
