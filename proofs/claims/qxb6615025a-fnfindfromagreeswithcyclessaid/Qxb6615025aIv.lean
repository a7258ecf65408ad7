/-
  The interval stack in memory; the function that push hands to cover (49).
-/
import Derived.Test.Qxb6615025aCover
import Derived.Test.Qxb6615025aApp
import Derived.Test.Qxb6615025aOps
import Derived.BigRegion
namespace Go.Proofs.Qxb6615025a
open Go.RowKit

def pairs (l : List (Int × Int)) : List Value := l.flatMap fun p => [.int .i64 p.1, .int .i64 p.2]

theorem pairs_snoc (l : List (Int × Int)) (p : Int × Int) : pairs (l ++ [p]) = pairs l ++ [.int .i64 p.1, .int .i64 p.2] := by simp [pairs]

/-- The interval stack in memory: block bs is the struct, block bt its tops. -/
structure Iv (w : World) (bs bt n : Nat) (ao : Option Addr) (c : Nat) (top : Nat → Int) (held : List (Int × Int)) : Prop where
  str : Rec w bs 74 #[.int .i64 n, .slice (some ⟨bt, 0, none⟩) (2 * n) (2 * n), .slice ao held.length c]
  top : Ints w bt (2 * n) top
  held : Sl w 90 2 ao held.length c (pairs held)
  ne : bs ≠ bt
  hs : blk ao ≠ some bs
  ht : blk ao ≠ some bt

set_option maxRecDepth 100000 in
set_option maxHeartbeats 1000000 in
set_option linter.unusedSimpArgs false in
theorem push1_any (bs bt n : Nat) (ao : Option Addr) (c : Nat) (top : Nat → Int) (held : List (Int × Int)) (p1 p2 node : Nat) (val : Int) (w : World)
    (hI : Iv w bs bt n ao c top held) (hnode : node < 2 * n) (hh : held.length ≤ 1048576)
    (k1 : w.cell? ⟨p1, 0, none⟩ = some (.pointer (some ⟨bs, 0, none⟩))) (k2 : w.cell? ⟨p2, 0, none⟩ = some (.int .i64 val))
    (d1 : p1 ≠ bs) (d5 : blk ao ≠ some p1) (d6 : blk ao ≠ some p2) :
    Calls Try.prog 49 #[.int .i64 node, .pointer (some ⟨p1, 0, none⟩), .pointer (some ⟨p2, 0, none⟩)] w fun e w' => e = .returned (.tuple #[]) ∧ ∃ ao' c',
      Iv w' bs bt n ao' c' (upd top node held.length) (held ++ [(val, top node)]) ∧ Fr (fun k => k = bs ∨ k = bt ∨ blk ao = some k) w w' ∧ (blk ao' = blk ao ∨ ∃ g, w.heap.size ≤ g ∧ blk ao' = some g) := by
  have f1 := hI.str.cell 1
  have f2 := hI.str.cell 2
  have f3 := hI.top.cell hnode
  simp at f1 f2
  have hbs := hI.str.lt
  have hbt := Arr.lt hI.top
  have hp1 := World.block_lt_of_cell? _ _ k1
  have hp2 := World.block_lt_of_cell? _ _ k2
  have HS := hid hI.held
  go_enter Try.func49, Try.ntmps49
  go_upto_region 0 with fail
  generalize hA : Act.mk _ _ = a0
  have hs : a0.tmps.size = 34 := by rw [← hA]; rfl
  have e0 : a0.eval (.tmp 0) = .int .i64 node := by rw [← hA]; rfl
  have e1 : a0.eval (.tmp 1) = .pointer (some ⟨p1, 0, none⟩) := by rw [← hA]; rfl
  have e2 : a0.eval (.tmp 2) = .pointer (some ⟨p2, 0, none⟩) := by rw [← hA]; rfl
  refine wp_region_tailn (fun w' => w'.cell? ⟨p1, 0, none⟩ = some (.pointer (some ⟨bs, 0, none⟩)) ∧ w'.cell? ⟨p2, 0, none⟩ = some (.int .i64 val) ∧ w'.cell? ⟨bs, 1, none⟩ = some (.slice (some ⟨bt, 0, none⟩) (2 * n) (2 * n)) ∧ w'.cell? ⟨bt, node, none⟩ = some (.int .i64 (top node)) ∧ w'.cell? ⟨bs, 2, none⟩ = some (.slice ao held.length c)) 18 19 rfl (by kernel_rfl) ?_
  have S0 : (fun w' : World => w'.cell? ⟨p1, 0, none⟩ = some (.pointer (some ⟨bs, 0, none⟩)) ∧ w'.cell? ⟨p2, 0, none⟩ = some (.int .i64 val) ∧ w'.cell? ⟨bs, 1, none⟩ = some (.slice (some ⟨bt, 0, none⟩) (2 * n) (2 * n)) ∧ w'.cell? ⟨bt, node, none⟩ = some (.int .i64 (top node)) ∧ w'.cell? ⟨bs, 2, none⟩ = some (.slice ao held.length c)) w.drew := ⟨k1, k2, f1, f3, f2⟩
  refine wpAnyT_taked 0 (some 4) rfl rfl (by kernel_rfl) (fun _ _ _ h => h) S0 (y_load 58 _ rfl rfl p1 0 (by simp [ev_other, ev_same, sz_put, hs, e0, e1, e2]) _ load58 (fun w hw => hw.1)) ?_
  refine wpAnyT_taked 1 (some 5) rfl rfl (by kernel_rfl) (fun _ _ _ h => h) S0 (y_load 58 _ rfl rfl p1 0 (by simp [ev_other, ev_same, sz_put, hs, e0, e1, e2]) _ load58 (fun w hw => hw.1)) ?_
  refine wpAnyT_taked 2 (some 6) rfl rfl (by kernel_rfl) (fun _ _ _ h => h) S0 (y_nil _ rfl rfl ⟨bs, 0, none⟩ (by simp [ev_other, ev_same, sz_put, hs, e0, e1, e2])) ?_
  refine wpAnyT_taked 3 (some 7) rfl rfl (by kernel_rfl) (fun _ _ _ h => h) S0 (y_field 74 _ 2 rfl rfl ⟨bs, 0, none⟩ ⟨bs, 2, none⟩ (by simp [ev_other, ev_same, sz_put, hs, e0, e1, e2]) (fun w => by kernel_rfl)) ?_
  refine wpAnyT_taked 4 (some 8) rfl rfl (by kernel_rfl) (fun _ _ _ h => h) S0 (y_load 72 _ rfl rfl bs 2 (by simp [ev_other, ev_same, sz_put, hs, e0, e1, e2]) _ load72 (fun w hw => hw.2.2.2.2)) ?_
  refine wpAnyT_taked 5 (some 9) rfl rfl (by kernel_rfl) (fun _ _ _ h => h) S0 (y_load 3 _ rfl rfl p2 0 (by simp [ev_other, ev_same, sz_put, hs, e0, e1, e2]) _ load3 (fun w hw => hw.2.1)) ?_
  refine wpAnyT_taked 6 (some 10) rfl rfl (by kernel_rfl) (fun _ _ _ h => h) S0 (y_load 58 _ rfl rfl p1 0 (by simp [ev_other, ev_same, sz_put, hs, e0, e1, e2]) _ load58 (fun w hw => hw.1)) ?_
  refine wpAnyT_taked 7 (some 11) rfl rfl (by kernel_rfl) (fun _ _ _ h => h) S0 (y_nil _ rfl rfl ⟨bs, 0, none⟩ (by simp [ev_other, ev_same, sz_put, hs, e0, e1, e2])) ?_
  refine wpAnyT_taked 8 (some 12) rfl rfl (by kernel_rfl) (fun _ _ _ h => h) S0 (y_field 74 _ 1 rfl rfl ⟨bs, 0, none⟩ ⟨bs, 1, none⟩ (by simp [ev_other, ev_same, sz_put, hs, e0, e1, e2]) (fun w => by kernel_rfl)) ?_
  refine wpAnyT_taked 9 (some 13) rfl rfl (by kernel_rfl) (fun _ _ _ h => h) S0 (y_load 33 _ rfl rfl bs 1 (by simp [ev_other, ev_same, sz_put, hs, e0, e1, e2]) _ load33 (fun w hw => hw.2.2.1)) ?_
  refine wpAnyT_taked 10 (some 14) rfl rfl (by kernel_rfl) (fun _ _ _ h => h) S0 (y_move _ rfl rfl) ?_
  refine wpAnyT_taked 11 (some 15) rfl rfl (by kernel_rfl) (fun _ _ _ h => h) S0 (y_idx _ _ 33 rfl rfl bt (2 * n) (2 * n) node ⟨bt, node, none⟩ (by simp [ev_other, ev_same, sz_put, hs, e0, e1, e2]) (by simp [ev_other, ev_same, sz_put, hs, e0, e1, e2]) (fun w => idx33 w _ _ _ _ hnode)) ?_
  refine wpAnyT_taked 12 (some 16) rfl rfl (by kernel_rfl) (fun _ _ _ h => h) S0 (y_load 3 _ rfl rfl bt node (by simp [ev_other, ev_same, sz_put, hs, e0, e1, e2]) _ load3 (fun w hw => hw.2.2.2.1)) ?_
  refine wpAnyT_taked 13 (some 17) rfl rfl (by kernel_rfl) (fun _ _ _ h => h) S0 (y_build90 _ _ rfl rfl val (top node) (by simp [ev_other, ev_same, sz_put, hs, e0, e1, e2]) (by simp [ev_other, ev_same, sz_put, hs, e0, e1, e2])) ?_
  obtain ⟨q1, q2, q3, q4, q5⟩ := S0
  refine wpAnyT_one (i := 14) rfl (by kernel_rfl) rfl (wp_bslice72 _ rfl val (top node) (by simp [ev_other, ev_same, sz_put, hs, e0, e1, e2]) (d := some 18) rfl ⟨fun _ => ⟨?_, ?_, ?_, ?_, ?_⟩, ?_⟩)
  · exact (World.cell?_alloc_lt _ _ _ hp1).trans q1
  · exact (World.cell?_alloc_lt _ _ _ hp2).trans q2
  · exact (World.cell?_alloc_lt _ _ _ hbs).trans q3
  · exact (World.cell?_alloc_lt _ _ _ hbt).trans q4
  · exact (World.cell?_alloc_lt _ _ _ hbs).trans q5
  refine T_app 15 (some 19) rfl rfl (by kernel_rfl) rfl (.tmp 8) (.tmp 18) rfl el72 ao held.length c (pairs held) (by simp [ev_other, ev_same, sz_put, hs, e0, e1, e2]) (Sl.alloc (Sl.drew hI.held) _) w.heap.size 90 #[.int .i64 val, .int .i64 (top node)] (by simp [ev_other, ev_same, sz_put, hs, e0, e1, e2]) (Rec.new w.drew 90 _) rfl ?_ (by omega) (w.heap.size + 1) (by simp) ?_
  · intro u hu; simp at hu; rcases hu with rfl | rfl <;> rfl
  intro g c' w1 hS1 hg1 hat1 hlt1
  have far : ∀ b, b < w.heap.size → blk ao ≠ some b → w1.heap[b]? = w.heap[b]? := fun b hb hne =>
    (hg1.block b (by simp; omega) (fun q => hne q.symm)).trans (Below.heap_alloc w.drew _ b hb)
  have str1 : Rec w1 bs 74 _ := hI.str.of_heap (far bs hbs hI.hs)
  have top1 : Ints w1 bt _ _ := Arr.of_heap hI.top (far bt hbt hI.ht)
  have r1 : w1.cell? ⟨p1, 0, none⟩ = some (.pointer (some ⟨bs, 0, none⟩)) := (World.cell?_of_block (w := w) (a := ⟨p1, 0, none⟩) (far p1 hp1 d5)).trans k1
  have r2 : w1.cell? ⟨p2, 0, none⟩ = some (.int .i64 val) := (World.cell?_of_block (w := w) (a := ⟨p2, 0, none⟩) (far p2 hp2 d6)).trans k2
  have S1 : (fun w' : World => w'.cell? ⟨p1, 0, none⟩ = some (.pointer (some ⟨bs, 0, none⟩)) ∧ w'.cell? ⟨p2, 0, none⟩ = some (.int .i64 val) ∧ w'.cell? ⟨bs, 1, none⟩ = some (.slice (some ⟨bt, 0, none⟩) (2 * n) (2 * n)) ∧ w'.cell? ⟨bt, node, none⟩ = some (.int .i64 (top node)) ∧ w'.cell? ⟨bs, 2, none⟩ = some (.slice ao held.length c)) w1 := ⟨r1, r2, str1.cell 1, top1.cell hnode, str1.cell 2⟩
  refine ⟨fun _ => S1, ?_⟩
  refine T_val 16 (some 20) rfl rfl (by kernel_rfl) rfl _ w1 (r_nil (.tmp 4) rfl ⟨bs, 0, none⟩ (by simp [ev_other, ev_same, sz_put, hs, e0, e1, e2])) (fun _ => S1) ?_
  refine T_val 17 (some 21) rfl rfl (by kernel_rfl) rfl _ w1 (r_field 74 (.tmp 20) 2 rfl ⟨bs, 0, none⟩ ⟨bs, 2, none⟩ (by simp [ev_other, ev_same, sz_put, hs, e0, e1, e2]) (fun w => by kernel_rfl)) (fun _ => S1) ?_
  refine T_store 18 rfl rfl (by kernel_rfl) rfl 72 (.tmp 21) (.tmp 19) rfl (.pointer (some ⟨bs, 2, none⟩)) (.slice (some ⟨g, 0, none⟩) (held.length + 1) c') (by simp [ev_other, ev_same, sz_put, hs, e0, e1, e2]) (by simp [ev_other, ev_same, sz_put, hs, e0, e1, e2]) _ (store72 w1 bs 2 _ _ _ _ (str1.cell 2) (str1.frozen 2)) (fun q => Bool.noConfusion ((show true = _ by kernel_rfl).trans q)) ?_
  refine wpAnyT_done (by kernel_rfl) ?_ _
  subst hA
  have str2 := str1.set 2 (.slice (some ⟨g, 0, none⟩) (held.length + 1) c')
  have hgbs : g ≠ bs := by
    rcases hat1 with q | q
    · exact fun e => hI.hs (e ▸ q)
    · omega
  have hgbt : g ≠ bt := by
    rcases hat1 with q | q
    · exact fun e => hI.ht (e ▸ q)
    · omega
  have top2 : Ints (w1.setCell ⟨bs, 2, none⟩ (.slice (some ⟨g, 0, none⟩) (held.length + 1) c')) bt (2 * n) top := Arr.setOther top1 (by simpa using hI.ne.symm) _
  have sl2 := hS1.setOther (p := ⟨bs, 2, none⟩) (by simpa [blk] using hgbs) (.slice (some ⟨g, 0, none⟩) (held.length + 1) c')
  have x1 : (w1.setCell ⟨bs, 2, none⟩ (.slice (some ⟨g, 0, none⟩) (held.length + 1) c')).cell? ⟨p1, 0, none⟩ = some (.pointer (some ⟨bs, 0, none⟩)) := (World.cell?_setCell_far _ _ _ _ (by simpa using Ne.symm d1)).trans r1
  have fr2 : Fr (fun k => k = bs ∨ k = bt ∨ blk ao = some k) w (w1.setCell ⟨bs, 2, none⟩ (.slice (some ⟨g, 0, none⟩) (held.length + 1) c')) :=
    ((((Fr.refl _ w).drew).alloc _).grown hg1 (fun k hk _ => .inr (.inr hk))).setCell (fun _ => .inl rfl) _
  have x2 := str2.cell 1
  have x3 := str2.cell 2
  have x4 := top2.cell hnode
  have x5 := Arr.frozen top2 node
  simp at x2 x3
  have F2 := hid fr2
  have T2 := hid top2
  have S2 := hid sl2
  have ST2 := hid str2
  have hne := hI.ne
  clear fr2 top2 sl2 str2 S1 str1 top1 r1 r2 far f1 f2 f3 k1 k2 q1 q2 q3 q4 q5 hS1 hg1 hI HS
  generalize hW : w1.setCell ⟨bs, 2, none⟩ (.slice (some ⟨g, 0, none⟩) (held.length + 1) c') = w2 at *
  go_wp2_with fail
  go_region
  go_end0
  refine ⟨rfl, some ⟨g, 0, none⟩, c', ⟨?_, ?_, ?_, hne, by simpa [blk] using hgbs, by simpa [blk] using hgbt⟩, ?_, ?_⟩
  · simpa using ST2.out.setOther (p := ⟨bt, node, none⟩) hne _
  · exact Ints.set T2.out node _
  · rw [pairs_snoc]; simpa using S2.out.setOther (p := ⟨bt, node, none⟩) (by simpa [blk] using hgbt) _
  · exact (F2.out.setCell (p := ⟨bt, node, none⟩) (fun _ => .inr (.inl rfl)) _).drew
  · rcases hat1 with q | q
    · exact .inl q.symm
    · exact .inr ⟨g, by omega, rfl⟩
end Go.Proofs.Qxb6615025a
