-- components (28).

import Derived.Test.Qxb6615025aReach
namespace Go.Proofs.Qxb6615025a
open Go.RowKit

def pth (seg : List Fm) : List (Int × Int) := seg.reverse.map fun f => ((f.node : Int), (f.edge : Int))

theorem pth_cons (f : Fm) (r : List Fm) : pth (f :: r) = pth r ++ [((f.node : Int), (f.edge : Int))] := by simp [pth]

theorem pth_length (r : List Fm) : (pth r).length = r.length := by simp [pth]

theorem pth_cells (f : Fm) (r : List Fm) : (pairs (pth (f :: r)))[r.length * 2]? = some (.int .i64 f.node) ∧ (pairs (pth (f :: r)))[r.length * 2 + 1]? = some (.int .i64 f.edge) := by
  have hl : (pairs (pth r)).length = r.length * 2 := by rw [pairs_length, pth_length]; omega
  rw [pth_cons, pairs_snoc]
  constructor
  · rw [List.getElem?_append_right (by omega), hl, Nat.sub_self]; rfl
  · rw [List.getElem?_append_right (by omega), hl, show r.length * 2 + 1 - r.length * 2 = 1 by omega]; rfl

theorem pth_set (f : Fm) (r : List Fm) (e' : Nat) (fi : List Nat) : (pairs (pth (f :: r))).set (r.length * 2 + 1) (.int .i64 e') = pairs (pth (⟨f.node, e', fi⟩ :: r)) := by
  have hl : (pairs (pth r)).length = r.length * 2 := by rw [pairs_length, pth_length]; omega
  rw [pth_cons, pairs_snoc, pth_cons, pairs_snoc, List.set_append_right _ _ (by omega), hl, show r.length * 2 + 1 - r.length * 2 = 1 by omega]
  rfl

theorem lft_look {g : Nat → List Nat} {n : Nat} {S : TS} {f : Fm} {r : List Fm} (hs : S.seg = f :: r) (he : f.edge < (g f.node).length) : lft g n { S with seg := ⟨f.node, f.edge + 1, f.fin⟩ :: r } + 1 = lft g n S := by
  unfold lft
  rw [hs]
  simp only [List.map_cons, List.sum_cons]
  omega

theorem lft_in {g : Nat → List Nat} {n : Nat} {S : TS} {v : Nat} {o l : Nat → Int} {k : Nat → Bool} {a b : Nat} {c : Nat → Int} (hn : v < n) (hv : S.ord v = -1) (ho : o = upd S.ord v (S.rea : Int)) : lft g n ⟨o, l, c, k, ⟨v, 0, []⟩ :: S.seg, a, b⟩ + 1 = lft g n S := by
  subst ho
  have := lft_reach (g := g) (n := n) (ord := S.ord) (v := v) (a := S.rea) hn (by omega)
  unfold lft
  simp only [List.map_cons, List.sum_cons]
  omega

theorem take_upd {α : Type} (l : List Nat) (j : Nat) (hj : j < l.length) (f : Nat → α) (v : α) : upd (fun x => if x ∈ l.take j then v else f x) l[j] v = fun x => if x ∈ l.take (j + 1) then v else f x := by
  funext x
  rw [List.take_succ_eq_append_getElem hj]
  by_cases q : x = l[j]
  · subst q
    rw [upd_same, if_pos (List.mem_append.2 (.inr (List.mem_singleton.2 rfl)))]
  · rw [upd_other _ _ q]
    by_cases q2 : x ∈ l.take j
    · rw [if_pos q2, if_pos (List.mem_append.2 (.inl q2))]
    · rw [if_neg q2, if_neg (fun q3 => (List.mem_append.1 q3).elim q2 (fun q4 => q (List.mem_singleton.1 q4)))]

theorem stk_merge (f q : Fm) (r : List Fm) : stkT (⟨q.node, q.edge, f.all ++ q.fin⟩ :: r) = stkT (f :: q :: r) := by
  rw [stkT_cons, stkT_cons, stkT_cons]
  show ((f.all ++ q.fin) ++ [q.node]) ++ _ = f.all ++ ((q.fin ++ [q.node]) ++ _)
  simp only [List.append_assoc]

theorem lft_merge {g : Nat → List Nat} {n : Nat} {S : TS} {f q : Fm} {r : List Fm} {l : Nat → Int} (hs : S.seg = f :: q :: r) : lft g n { S with low := l, seg := ⟨q.node, q.edge, f.all ++ q.fin⟩ :: r } + 1 ≤ lft g n S := by
  unfold lft
  rw [hs]
  simp only [List.map_cons, List.sum_cons]
  omega

theorem lft_close {g : Nat → List Nat} {n : Nat} {S : TS} {f : Fm} {r : List Fm} {l c : Nat → Int} {o : Nat → Bool} {a b : Nat} (hs : S.seg = f :: r) : lft g n ⟨S.ord, l, c, o, r, a, b⟩ + 1 ≤ lft g n S := by
  unfold lft
  rw [hs]
  simp only [List.map_cons, List.sum_cons]
  omega

theorem el44 : El 44 4 1 1 (.bool false) := ⟨Try.underlying44, by kernel_rfl, rfl, by decide, by decide⟩

theorem Bools.newAt (w : World) (n B : Nat) (h : w.heap.size = B) : Bools (w.alloc (Obj.cells (Array.ofFn fun _ : Fin n => Value.bool false) 4)) B n (fun _ => false) := by
  subst h
  exact Rec.new w 4 _

theorem tm_new (w : World) (n B1 B2 B3 B4 B5 B6 B7 B8 : Nat) (h1 : w.heap.size + 1 = B1) (h2 : w.heap.size + 1 + 1 = B2) (h3 : w.heap.size + 1 + 1 + 1 = B3) (h4 : w.heap.size + 1 + 1 + 1 + 1 = B4) (h5 : w.heap.size + 1 + 1 + 1 + 1 + 1 = B5) (h6 : w.heap.size + 1 + 1 + 1 + 1 + 1 + 1 = B6)
    (h7 : w.heap.size + 1 + 1 + 1 + 1 + 1 + 1 + 1 = B7) (h8 : w.heap.size + 1 + 1 + 1 + 1 + 1 + 1 + 1 + 1 = B8) :
    TM ⟨n, w.heap.size, B1, B3, B6, B7, B8, w.heap.size, B2, B4, B5⟩ (((((((((w.alloc (Obj.cells (Array.ofFn fun _ : Fin n => Value.int IntKind.i64 0) 3)).alloc (Obj.cells #[Value.slice (some ⟨w.heap.size, 0, none⟩) n n] 33)).alloc (Obj.cells (Array.ofFn fun _ : Fin n => Value.int IntKind.i64 0) 3)).alloc
      (Obj.cells #[Value.slice (some ⟨B2, 0, none⟩) n n] 33)).alloc (Obj.cells (Array.ofFn fun _ : Fin n => Value.int IntKind.i64 0) 3)).alloc (Obj.cells (Array.ofFn fun _ : Fin n => Value.bool false) 4)).alloc (Obj.cells #[Value.slice (some ⟨B5, 0, none⟩) n n] 44)).alloc
      (Obj.cells #[Value.slice none 0 0] 33)).alloc (Obj.cells #[Value.int IntKind.i64 0] 3)) (fun _ => 0) (fun _ => 0) (fun _ => 0) (fun _ => false) [] 0 none 0 := by
  constructor
  · exact Rec.alloc (Rec.alloc (Rec.alloc (Rec.alloc (Rec.alloc (Rec.alloc (Rec.alloc (Rec.newAt _ 33 _ _ (by simp only [World.size_alloc]; omega)) _) _) _) _) _) _) _
  · exact Rec.alloc (Rec.alloc (Rec.alloc (Rec.alloc (Rec.alloc (Rec.newAt _ 33 _ _ (by simp only [World.size_alloc]; omega)) _) _) _) _) _
  · exact Rec.alloc (Rec.alloc (Rec.newAt _ 44 _ _ (by simp only [World.size_alloc]; omega)) _) _
  · exact Rec.alloc (Rec.newAt _ 33 _ _ (by simp only [World.size_alloc]; omega)) _
  · exact Rec.newAt _ 3 _ _ (by simp only [World.size_alloc]; omega)
  · exact Arr.alloc (Arr.alloc (Arr.alloc (Arr.alloc (Arr.alloc (Arr.alloc (Arr.alloc (Arr.alloc (Ints.newAt _ n _ rfl) _) _) _) _) _) _) _) _
  · exact Arr.alloc (Arr.alloc (Arr.alloc (Arr.alloc (Arr.alloc (Arr.alloc (Ints.newAt _ n _ (by simp only [World.size_alloc]; omega)) _) _) _) _) _) _
  · exact Arr.alloc (Arr.alloc (Arr.alloc (Arr.alloc (Ints.newAt _ n _ (by simp only [World.size_alloc]; omega)) _) _) _) _
  · exact Arr.alloc (Arr.alloc (Arr.alloc (Bools.newAt _ n _ (by simp only [World.size_alloc]; omega)) _) _) _
  · exact Sl.nil _ _ _
  · subst h1 h2 h3 h4 h5 h6 h7 h8
    simp [TE.bs]
    omega
  · intro b hb
    simp [blk] at hb
  · intro b hb
    simp only [TE.bs, List.mem_cons, List.not_mem_nil, or_false] at hb
    show w.heap.size ≤ b
    omega

set_option maxRecDepth 100000 in
set_option maxHeartbeats 8000000 in
theorem components_any (bn n : Nat) (ao : Nat → Option Addr) (c : Nat → Nat) (g : Nat → List Nat) (w : World) (hA : Adj w bn n ao c g) (hg : ∀ i, i < n → ∀ x ∈ g i, x < n) (hgl : ∀ i, i < n → (g i).length ≤ 1048576) (hn : n ≤ 1024) :
    Calls Try.prog 28 #[.slice (some ⟨bn, 0, none⟩) n n] w fun e w' => ∃ (b : Nat) (cmp : Nat → Int), e = .returned (.slice (some ⟨b, 0, none⟩) n n) ∧ Ints w' b n cmp ∧ w.heap.size ≤ b ∧ Fr Nothing w w' ∧ (∀ u, u < n → 0 ≤ cmp u ∧ cmp u < n) ∧
      ∀ u v, u < n → v < n → (cmp u = cmp v ↔ Rch g u v ∧ Rch g v u) := by
  have HA := hid hA
  have HG := hid hg
  have HGL := hid hgl
  clear hA hg hgl
  have hmk := fun w => run_make1 el33 rfl w n (by omega)
  have hmk2 := fun w => run_make1 el44 rfl w n (by omega)
  go_enter Try.func28, Try.ntmps28
  go_wp2
  generalize h8 : w.heap.size + 1 + 1 + 1 + 1 + 1 + 1 + 1 + 1 = B8
  generalize h7 : w.heap.size + 1 + 1 + 1 + 1 + 1 + 1 + 1 = B7
  generalize h6 : w.heap.size + 1 + 1 + 1 + 1 + 1 + 1 = B6
  generalize h5 : w.heap.size + 1 + 1 + 1 + 1 + 1 = B5
  generalize h4 : w.heap.size + 1 + 1 + 1 + 1 = B4
  generalize h3 : w.heap.size + 1 + 1 + 1 = B3
  generalize h2 : w.heap.size + 1 + 1 = B2
  generalize h1 : w.heap.size + 1 = B1
  have M0 := hid (tm_new w n B1 B2 B3 B4 B5 B6 B7 B8 h1 h2 h3 h4 h5 h6 h7 h8)
  have F0 := hid (show Fr Nothing w (((((((((w.alloc (Obj.cells (Array.ofFn fun _ : Fin n => Value.int IntKind.i64 0) 3)).alloc (Obj.cells #[Value.slice (some ⟨w.heap.size, 0, none⟩) n n] 33)).alloc (Obj.cells (Array.ofFn fun _ : Fin n => Value.int IntKind.i64 0) 3)).alloc
      (Obj.cells #[Value.slice (some ⟨B2, 0, none⟩) n n] 33)).alloc (Obj.cells (Array.ofFn fun _ : Fin n => Value.int IntKind.i64 0) 3)).alloc (Obj.cells (Array.ofFn fun _ : Fin n => Value.bool false) 4)).alloc (Obj.cells #[Value.slice (some ⟨B5, 0, none⟩) n n] 44)).alloc
      (Obj.cells #[Value.slice none 0 0] 33)).alloc (Obj.cells #[Value.int IntKind.i64 0] 3)) from (((((((((Fr.refl _ w).alloc _).alloc _).alloc _).alloc _).alloc _).alloc _).alloc _).alloc _).alloc _)
  generalize (((((((((w.alloc (Obj.cells (Array.ofFn fun _ : Fin n => Value.int IntKind.i64 0) 3)).alloc (Obj.cells #[Value.slice (some ⟨w.heap.size, 0, none⟩) n n] 33)).alloc (Obj.cells (Array.ofFn fun _ : Fin n => Value.int IntKind.i64 0) 3)).alloc
      (Obj.cells #[Value.slice (some ⟨B2, 0, none⟩) n n] 33)).alloc (Obj.cells (Array.ofFn fun _ : Fin n => Value.int IntKind.i64 0) 3)).alloc (Obj.cells (Array.ofFn fun _ : Fin n => Value.bool false) 4)).alloc (Obj.cells #[Value.slice (some ⟨B5, 0, none⟩) n n] 44)).alloc
      (Obj.cells #[Value.slice none 0 0] 33)).alloc (Obj.cells #[Value.int IntKind.i64 0] 3)) = w0 at *
  clear h1 h2 h3 h4 h5 h6 h7 h8 hmk hmk2
  generalize hB0 : w.heap.size = B0 at *
  have HB0 := hid hB0
  clear hB0
  obtain ⟨E, hE⟩ : ∃ E : TE, E = ⟨n, B0, B1, B3, B6, B7, B8, B0, B2, B4, B5⟩ := ⟨_, rfl⟩
  rw [← hE] at M0
  obtain ⟨rfl, hEH, rfl, rfl, rfl, rfl, rfl, rfl, rfl, rfl, rfl⟩ : E.n = n ∧ E.H = E.bO ∧ E.cO = B1 ∧ E.cL = B3 ∧ E.cK = B6 ∧ E.cS = B7 ∧ E.cR = B8 ∧ E.bO = B0 ∧ E.bL = B2 ∧ E.bC = B4 ∧ E.bK = B5 := by subst hE; exact ⟨rfl, rfl, rfl, rfl, rfl, rfl, rfl, rfl, rfl, rfl, rfl⟩
  clear hE
  have HEH := hid hEH
  clear hEH
  go_loopg [33] E.n (fun gg s33 wr => ∃ (i : Nat), gg + i = E.n ∧ s33 = .int .i64 i ∧ Hid (TM E wr (fun x => if x < i then -1 else 0) (fun _ => 0) (fun _ => 0) (fun _ => false) [] 0 none 0) ∧ Hid (Fr Nothing w wr))
  case atStart => exact ⟨0, by omega, rfl, hid (by simpa using M0.out), F0⟩
  case round =>
    obtain ⟨i, hgk, rfl, hM, hF⟩ := hrel
    have c1 := hM.out.o.cell 0
    simp at c1
    by_cases hi : i < E.n
    · have e1 := Ints.cell hM.out.io hi
      have z1 := Ints.frozen hM.out.io i
      simp at e1
      go_wp2_with fail
      go_roundg (gk - 1)
      case measure => omega
      case rel =>
        refine ⟨i + 1, by omega, by go_num, hid ?_, hid (hF.out.setCell (fun q => by have := HB0.out; simp at q; omega) _)⟩
        have := hM.out.setO i (-1)
        refine { this with io := Arr.congr this.io fun x hx => ?_ }
        by_cases q : x = i
        · subst q; simp
        · rw [upd_other _ _ q]
          by_cases q2 : x < i
          · simp [q2, show x < i + 1 by omega]
          · simp [q2, show ¬ x < i + 1 by omega]
    · have hin : E.n = i := by omega
      have M1 := hid (show TM E wr (fun _ => -1) (fun _ => 0) (fun _ => 0) (fun _ => false) [] 0 none 0 from { hM.out with io := Arr.congr hM.out.io fun x hx => by simp [show x < i by omega] })
      have T1 := hid (TI.start (g := g) (n := E.n) (fun _ => 0) (fun _ => 0))
      have hwf : ¬ ((i : Int) < (E.n : Int)) := by omega
      clear hM hin c1
      go_wp2_with fail
      clear hwf hi hgk
      go_loopg [9, 43] E.n (fun gg s9 s43 wr => ∃ (r : Nat) (S : TS) (sa : Option Addr) (sc : Nat), gg + r = E.n ∧ s43 = .int .i64 r ∧ s9 = .int .i64 S.fnd ∧ S.seg = [] ∧ Hid (TM E wr S.ord S.low S.cmp S.ons (stkT S.seg).reverse S.rea sa sc) ∧ Hid (TI g E.n S none) ∧ Hid (∀ x, x < r → 0 ≤ S.ord x) ∧ Hid (Fr Nothing w wr))
      case atStart => exact ⟨0, ⟨fun _ => -1, fun _ => 0, fun _ => 0, fun _ => false, [], 0, 0⟩, none, 0, by omega, rfl, rfl, rfl, M1, T1, hid (fun x hx => by omega), hF⟩
      case round =>
        obtain ⟨r, S, sa, sc, hgr, rfl, rfl, hseg, hM, hT, hV, hF2⟩ := hrel
        have c1 := hM.out.o.cell 0
        simp at c1
        have HSG := hid hseg
        clear hseg
        by_cases hr : r < E.n
        · have e1 := Ints.cell hM.out.io hr
          by_cases hor : S.ord r = -1
          · rw [hor] at e1
            have HOR := hid hor
            clear hor
            have hrc : S.rea ≤ 1048576 := by have := hT.out.rea; omega
            have hsl : (stkT S.seg).reverse.length ≤ 1048576 := by rw [HSG.out]; exact Nat.zero_le _
            have HR := hid (reach_any E wr _ _ _ _ _ _ sa sc r hM.out hr hrc hsl)
            clear hrc hsl
            go_wp2_with fail
            refine HR.out.mono ?_
            rintro e w2 ⟨rfl, sa2, sc2, M2, F2, hs2⟩
            have T2 := hid (TI.reach (v := r) (s := S) ⟨hT.out.lt, hT.out.bnd, hT.out.vis, hT.out.on, hT.out.inc, hT.out.low, by rw [HSG.out]; trivial, hT.out.asg, hT.out.cls, hT.out.rea, hT.out.cnt⟩ hr HOR.out)
            obtain ⟨S2, hS2⟩ : ∃ S2 : TS, S2 = ⟨upd S.ord r S.rea, upd S.low r S.rea, S.cmp, upd S.ons r true, ⟨r, 0, []⟩ :: S.seg, S.rea + 1, S.fnd⟩ := ⟨_, rfl⟩
            have M2' := hid (show TM E w2 S2.ord S2.low S2.cmp S2.ons (stkT S2.seg).reverse S2.rea sa2 sc2 by
              rw [hS2]
              have e : (stkT (⟨r, 0, []⟩ :: S.seg)).reverse = (stkT S.seg).reverse ++ [r] := by rw [stkT_cons]; simp [Fm.all]
              show TM E w2 _ _ _ _ (stkT (⟨r, 0, []⟩ :: S.seg)).reverse _ _ _
              rw [e]
              exact M2)
            have F2' := hid (show Fr Nothing w w2 from hF2.out.trans F2 (fun b hb q => by
              have := HB0.out
              have := HEH.out
              rcases q with q | q
              · have := hM.out.ge b q; omega
              · have := (hM.out.sb b q).2; omega))
            rw [← hS2] at T2
            have hfd : S.fnd = S2.fnd := by rw [hS2]
            have V2 := hid (show ∀ x, x < r + 1 → 0 ≤ S2.ord x by
              intro x hx
              rw [hS2]
              show 0 ≤ upd S.ord r S.rea x
              by_cases q : x = r
              · subst q; rw [upd_same]; omega
              · rw [upd_other _ _ q]; exact hV.out x (by omega))
            have P2 := hid (show S2.seg = [⟨r, 0, []⟩] by rw [hS2, HSG.out])
            clear M2 F2 hs2 hM hF2 hT HR hV e1 c1
            rw [hfd]
            clear hS2 hfd HOR HSG
            go_wp2_with fail
            have PB := hid (show Sl (w2.alloc (Obj.cells #[Value.int IntKind.i64 r, Value.int IntKind.i64 0] 77)) 77 2 (some ⟨w2.heap.size, 0, none⟩) S2.seg.length 1 (pairs (pth S2.seg)) by
              rw [P2.out]
              exact Sl.mk (Rec.new w2 77 _) (by simp) (by decide) (by simp) (by simp [pairs, pth]))
            have P1 := hid (show S2.seg.length = 1 by rw [P2.out]; rfl)
            have PN := hid (show ∀ b, blk (some ⟨w2.heap.size, 0, none⟩) = some b → b ∉ E.bs ∧ E.bO ≤ b ∧ blk sa2 ≠ some b by
              intro b hb
              simp only [blk, Option.some.injEq] at hb
              subst hb
              exact ⟨fun q => absurd (M2'.out.lt _ q) (Nat.lt_irrefl _), Nat.le_of_lt (M2'.out.lt E.bO (by simp [TE.bs])), fun q => absurd (M2'.out.sl.lt q) (Nat.lt_irrefl _)⟩)
            have M3 := hid (M2'.out.alloc (Obj.cells #[Value.int IntKind.i64 r, Value.int IntKind.i64 0] 77))
            have F3 := hid (F2'.out.alloc (Obj.cells #[Value.int IntKind.i64 r, Value.int IntKind.i64 0] 77))
            clear M2' F2' M1 M0 F0 T1 P2
            go_loopg [9, 13] (lft g E.n S2) (fun gg s9 s13 wr => ∃ (S : TS) (sa : Option Addr) (sc : Nat) (pa : Option Addr) (pc : Nat), lft g E.n S ≤ gg ∧ s9 = .int .i64 S.fnd ∧ s13 = .slice pa S.seg.length pc ∧ Hid (TM E wr S.ord S.low S.cmp S.ons (stkT S.seg).reverse S.rea sa sc) ∧ Hid (TI g E.n S none) ∧ Hid (∀ x, x < r + 1 → 0 ≤ S.ord x) ∧ Hid (Fr Nothing w wr) ∧ Hid (Sl wr 77 2 pa S.seg.length pc (pairs (pth S.seg))) ∧ Hid (∀ b, blk pa = some b → b ∉ E.bs ∧ E.bO ≤ b ∧ blk sa ≠ some b))
            case atStart => exact ⟨S2, sa2, sc2, _, 1, Nat.le_refl _, rfl, by rw [P1.out], M3, T2, V2, F3, PB, PN⟩
            case round =>
              clear M3 T2 V2 F3 PB PN P1
              obtain ⟨S, sa, sc, pa, pc, hlft, rfl, rfl, hM, hT, hV, hF, hP, hpb⟩ := hrel
              have HLF := hid hlft
              clear hlft
              rcases hsg : S.seg with _ | ⟨f, rest⟩
              · have HSG := hid hsg
                clear hsg
                have hwf : ¬ ((0 : Int) < ((0 : Nat) : Int)) := by omega
                go_wp2_with fail
                go_roundg (E.n - (r + 1))
                case measure => omega
                case rel => exact ⟨r + 1, S, sa, sc, by omega, by go_num, rfl, HSG.out, hM, hT, hV, hF⟩
              · obtain ⟨K, hK⟩ : ∃ K, K = rest.length := ⟨_, rfl⟩
                have hlen : (f :: rest).length = K + 1 := by rw [hK]; rfl
                rw [hlen]
                have HSG := hid hsg
                have HK := hid hK
                have HP := hid (show Sl wr 77 2 pa (K + 1) pc (pairs (pth (f :: rest))) by have := hP.out; rw [hsg, hlen] at this; exact this)
                clear hsg hlen hP
                have hus : f.node ∈ stkT S.seg := mem_stk (by rw [HSG.out]; exact List.mem_cons_self) (.inr rfl)
                have hu0 := hT.out.vis _ hus
                have hu := hT.out.lt _ hu0
                have hKn : K ≤ 1024 := by
                  have h1 := hT.out.cnt
                  have h2 : ∀ l : List Fm, l.length ≤ (stkT l).length := fun l => by
                    induction l with
                    | nil => exact Nat.le_refl _
                    | cons a t ih => rw [stkT_cons, List.length_append]; simp [Fm.all]; omega
                  have h3 := h2 S.seg
                  rw [HSG.out] at h3 h1
                  simp at h3
                  omega
                obtain ⟨pb, hpa, p0⟩ := HP.out.cell (pth_cells f rest).1
                obtain ⟨pb', hpa', p1⟩ := HP.out.cell (pth_cells f rest).2
                rw [hpa] at hpa'
                simp only [Option.some.injEq, Addr.mk.injEq, and_true] at hpa'
                subst hpa'
                subst hpa
                rw [← hK] at p0 p1
                clear hK hus hu0
                have A1 := hid (HA.out.fr hF.out (fun q => q) (fun _ _ _ _ q => q))
                have q2 := Arr.cell A1.out.arr hu
                obtain ⟨u, hU⟩ : ∃ u, u = f.node := ⟨_, rfl⟩
                obtain ⟨e, hEd⟩ : ∃ e, e = f.edge := ⟨_, rfl⟩
                rw [← hU] at p0 q2 hu
                rw [← hEd] at p1
                obtain ⟨au, hau⟩ : ∃ au, ao u = au := ⟨_, rfl⟩
                rw [hau] at q2
                have HU := hid hU
                have HED := hid hEd
                have HAU := hid hau
                clear hU hEd hau
                go_upto_region 23 with fail
                by_cases hel : e < (g u).length
                · have hgu := HGL.out u hu
                  have hx : (ints (g u))[e]? = some (.int .i64 ((g u)[e] : Int)) := by simp [ints, hel]
                  have hv : (g u)[e] < E.n := HG.out u hu _ (List.getElem_mem hel)
                  have HVE := hid (show (g f.node)[f.edge]? = some (g u)[e] by rw [← HU.out, ← HED.out]; exact List.getElem?_eq_getElem hel)
                  generalize (g u)[e] = v at *
                  obtain ⟨bx, hbx, q3⟩ := (A1.out.row u hu).cell hx
                  rw [HAU.out] at hbx
                  have hdl : decide ((e : Int) < ((g u).length : Int)) = true := by simp; omega
                  clear hx
                  go_quiet (fail)
                  revert nq
                  intro m1
                  go_upto_region 24 with fail
                  go_quiet (fail)
                  have z1 := HP.out.frozen (K * 2 + 1)
                  go_upto_region 26 with fail
                  rw [show (e : Int) + 1 = ((e + 1 : Nat) : Int) by omega]
                  have hpn := hpb.out pb rfl
                  have M3 := hid ((hM.out.drewN (m1 + nq)).setOther (p := ⟨pb, K * 2 + 1, none⟩) hpn.1 hpn.2.2 (.int .i64 ((e + 1 : Nat) : Int)))
                  have F3 := hid ((hF.out.drewN (m1 + nq)).setCell (p := ⟨pb, K * 2 + 1, none⟩) (fun q => by have := HB0.out; simp at q; omega) (.int .i64 ((e + 1 : Nat) : Int)))
                  have P3 := hid (show Sl ((wr.drewN (m1 + nq)).setCell ⟨pb, K * 2 + 1, none⟩ (.int .i64 ((e + 1 : Nat) : Int))) 77 2 (some ⟨pb, 0, none⟩) (K + 1) pc (pairs (pth (⟨f.node, f.edge + 1, f.fin⟩ :: rest))) by
                    have := (HP.out.drewN (m1 + nq)).set (K * 2 + 1) (.int .i64 ((e + 1 : Nat) : Int))
                    rw [HK.out, pth_set f rest (e + 1) f.fin, HED.out] at this
                    rw [HK.out, HED.out]
                    exact this)
                  have T3 := hid (hT.out.look HSG.out HVE.out)
                  have L3 := hid (lft_look (n := E.n) HSG.out (by rw [← HU.out, ← HED.out]; exact hel))
                  have HPB := hid (show ∀ b, blk (some (⟨pb, 0, none⟩ : Addr)) = some b → b ∉ E.bs ∧ E.bO ≤ b ∧ blk sa ≠ some b from hpb.out)
                  have e3 : (stkT (⟨f.node, f.edge + 1, f.fin⟩ :: rest)).reverse = (stkT S.seg).reverse := by rw [HSG.out]; rfl
                  have hgk0 : 2 ≤ gk + 1 := by have := HLF.out; have := L3.out; omega
                  clear hpn p0 p1 q2 q3 z1 A1 hpb HP hF hT hdl
                  generalize (wr.drewN (m1 + nq)).setCell ⟨pb, K * 2 + 1, none⟩ (.int .i64 ((e + 1 : Nat) : Int)) = w3 at *
                  have M3' := hid (show TM E w3 S.ord S.low S.cmp S.ons (stkT (⟨f.node, f.edge + 1, f.fin⟩ :: rest)).reverse S.rea sa sc by rw [e3]; exact M3.out)
                  clear M3 e3
                  obtain ⟨S1, hS1⟩ : ∃ S1 : TS, S1 = { S with seg := ⟨f.node, f.edge + 1, f.fin⟩ :: rest } := ⟨_, rfl⟩
                  rw [← hS1] at T3 L3
                  have M4 := hid (show TM E w3 S1.ord S1.low S1.cmp S1.ons (stkT S1.seg).reverse S1.rea sa sc by rw [hS1]; exact M3'.out)
                  have HS1 := hid (show S1.seg = ⟨f.node, f.edge + 1, f.fin⟩ :: rest by rw [hS1])
                  have V1 := hid (show ∀ x, x < r + 1 → 0 ≤ S1.ord x by rw [hS1]; exact hV.out)
                  have hfd : S.fnd = S1.fnd := by rw [hS1]
                  rw [hfd]
                  have P4 := hid (show Sl w3 77 2 (some ⟨pb, 0, none⟩) (K + 1) pc (pairs (pth S1.seg)) by rw [HS1.out]; exact P3.out)
                  have hsl : S1.seg.length = K + 1 := by rw [HS1.out, HK.out]; rfl
                  have HSL := hid hsl
                  have L1 := hid (show lft g E.n S1 + 1 ≤ gk by have := HLF.out; have := L3.out; omega)
                  clear M3' hS1 hfd P3 hV hM HSG HVE L3 HLF hsl
                  have c1 := M4.out.o.cell 0
                  have c2 := M4.out.l.cell 0
                  have c3 := M4.out.k.cell 0
                  simp at c1 c2 c3
                  have e1 := Ints.cell M4.out.io hv
                  by_cases ho : S1.ord v = -1
                  · have hrc : S1.rea ≤ 1048576 := by have := T3.out.rea; omega
                    have hsl : (stkT S1.seg).reverse.length ≤ 1048576 := by have := T3.out.cnt; rw [List.length_reverse]; omega
                    have HR := hid (reach_any E w3 _ _ _ _ _ _ sa sc v M4.out hv hrc hsl)
                    clear hrc hsl
                    rw [ho] at e1
                    have HO := hid ho
                    clear ho
                    go_wp2_with fail
                    refine HR.out.mono ?_
                    rintro ee w4 ⟨rfl, sa4, sc4, M5, F5, hs5⟩
                    have HM5 := hid M5
                    have HF5 := hid F5
                    have HS5 := hid hs5
                    have hpn := HPB.out pb rfl
                    have P5 := hid (P4.out.fr F5 (fun b hb q => by
                      simp only [blk, Option.some.injEq] at hb
                      subst hb
                      rcases q with q | q
                      · exact hpn.1 q
                      · exact hpn.2.2 q))
                    clear M5 F5 hs5 HR c1 c2 c3 e1 hpn
                    go_wp2_with (refine wpList_app _ _ rfl rfl el78 (some ⟨pb, 0, none⟩) (K + 1) pc (pairs (pth S1.seg)) rfl (P5.out.alloc _) w4.heap.size 77 #[.int .i64 v, .int .i64 0] rfl (Rec.new w4 77 _) rfl (by intro u hu; simp at hu; rcases hu with rfl | rfl <;> rfl) (by omega) (w4.heap.size + 1) (World.size_alloc _ _) ?_; intro b6 c6 w6 k1 k2 k3 k4)
                    go_roundg (gk - 1)
                    case measure => have := L1.out; omega
                    case rel =>
                      have hpn := HPB.out pb rfl
                      have hf6 : Fr (fun k => k = pb) w4 w6 := ((Fr.refl _ w4).alloc _).grown k2 (fun k hk _ => by simpa [blk] using hk.symm)
                      have hpl := P4.out.lt (g := pb) rfl
                      have hs4 : blk sa4 ≠ some pb := by
                        rcases HS5.out with q | ⟨g', hg', q⟩
                        · rw [q]; exact hpn.2.2
                        · intro q2; rw [q] at q2; cases q2; omega
                      have hst : (stkT (⟨v, 0, []⟩ :: S1.seg)).reverse = (stkT S1.seg).reverse ++ [v] := by rw [stkT_cons]; simp [Fm.all]
                      have hlf := lft_in (g := g) (n := E.n) (S := S1) (v := v) (o := upd S1.ord v S1.rea) (l := upd S1.low v S1.rea) (k := upd S1.ons v true) (a := S1.rea + 1) (b := S1.fnd) (c := S1.cmp) hv HO.out rfl
                      refine ⟨⟨upd S1.ord v S1.rea, upd S1.low v S1.rea, S1.cmp, upd S1.ons v true, ⟨v, 0, []⟩ :: S1.seg, S1.rea + 1, S1.fnd⟩, sa4, sc4, some ⟨b6, 0, none⟩, c6, ?_, rfl, ?_, hid ?_, hid (T3.out.reach hv HO.out), hid ?_, hid ?_, hid ?_, hid ?_⟩
                      · have := L1.out
                        omega
                      · rw [List.length_cons, HSL.out]
                      · show TM E w6 _ _ _ _ (stkT (⟨v, 0, []⟩ :: S1.seg)).reverse _ _ _
                        rw [hst]
                        exact HM5.out.fr hf6 (fun b hb q => hpn.1 (q ▸ hb)) (fun b hb q => hs4 (q ▸ hb))
                      · intro x hx
                        show 0 ≤ upd S1.ord v S1.rea x
                        by_cases q : x = v
                        · subst q; rw [upd_same]; omega
                        · rw [upd_other _ _ q]; exact V1.out x hx
                      · refine (F3.out.trans HF5.out ?_).trans hf6 ?_
                        · intro b hb q
                          have := HB0.out
                          have := HEH.out
                          rcases q with q | q
                          · have := M4.out.ge b q; omega
                          · have := (M4.out.sb b q).2; omega
                        · intro b hb q
                          have := HB0.out
                          have := hpn.2.1
                          omega
                      · show Sl w6 77 2 _ (S1.seg.length + 1) c6 (pairs (pth (⟨v, 0, []⟩ :: S1.seg)))
                        rw [HSL.out, pth_cons, pairs_snoc]
                        exact k1
                      · intro b hb
                        simp only [blk, Option.some.injEq] at hb
                        subst hb
                        rcases k3 with q | q
                        · simp only [blk, Option.some.injEq] at q
                          subst q
                          exact ⟨hpn.1, hpn.2.1, hs4⟩
                        · refine ⟨fun q2 => ?_, ?_, fun q2 => ?_⟩
                          · have := HM5.out.lt _ q2; omega
                          · have := HM5.out.lt E.bO (by simp [TE.bs]); omega
                          · have := HM5.out.sl.lt q2; omega
                  · by_cases hk : S1.ons v = true
                    · have e4 := Arr.cell M4.out.ik hv
                      rw [hk] at e4
                      have e5 := Ints.cell M4.out.il hu
                      have z5 := Ints.frozen M4.out.il u
                      have HK2 := hid hk
                      have hmin : (if S1.ord v < S1.low u then S1.ord v else S1.low u) = min (S1.low u) (S1.ord v) := by
                        by_cases q : S1.ord v < S1.low u
                        · rw [if_pos q]; omega
                        · rw [if_neg q]; omega
                      have HMIN := hid hmin
                      clear hmin hk
                      go_upto_region 30 with fail
                      go_region
                      rw [HMIN.out]
                      have M5 := hid ((M4.out.setL u (min (S1.low u) (S1.ord v))).drew)
                      have F5 := hid ((F3.out.setCell (p := ⟨E.bL, u, none⟩) (fun q => by have := HB0.out; have := HEH.out; have := M4.out.ge E.bL (by simp [TE.bs]); simp at q; omega) (.int .i64 (min (S1.low u) (S1.ord v)))).drew)
                      have P5 := hid ((P4.out.setOther (p := ⟨E.bL, u, none⟩) (by
                        intro q
                        exact (HPB.out _ q).1 (by simp [TE.bs])) (.int .i64 (min (S1.low u) (S1.ord v)))).drew)
                      clear c1 c2 c3 e1 e4 e5 z5 M4 F3 P4
                      generalize (w3.setCell ⟨E.bL, u, none⟩ (.int .i64 (min (S1.low u) (S1.ord v)))).drew = w5 at *
                      go_wp2_with fail
                      go_roundg (gk - 1)
                      case measure => have := L1.out; omega
                      case rel =>
                        refine ⟨{ S1 with low := upd S1.low u (min (S1.low u) (S1.ord v)) }, sa, sc, some ⟨pb, 0, none⟩, pc, ?_, rfl, ?_, M5, hid ?_, V1, F5, hid ?_, HPB⟩
                        · have := L1.out
                          show lft g E.n S1 ≤ _
                          omega
                        · show _ = Value.slice _ S1.seg.length _
                          rw [HSL.out]
                        · have := T3.out.back HS1.out HK2.out
                          rw [HU.out]
                          exact this
                        · show Sl w5 77 2 _ S1.seg.length pc (pairs (pth S1.seg))
                          rw [HSL.out]; exact P5.out
                    · have e4 := Arr.cell M4.out.ik hv
                      rw [Bool.not_eq_true] at hk
                      rw [hk] at e4
                      have HK2 := hid hk
                      clear hk
                      go_wp2_with fail
                      go_roundg (gk - 1)
                      case measure => have := L1.out; omega
                      case rel =>
                        refine ⟨S1, sa, sc, some ⟨pb, 0, none⟩, pc, ?_, rfl, ?_, M4, hid (T3.out.past HS1.out HK2.out ho), V1, F3, hid ?_, HPB⟩
                        · have := L1.out
                          omega
                        · rw [HSL.out]
                        · rw [HSL.out]; exact P4.out
                · have hdl : decide ((e : Int) < ((g u).length : Int)) = false := by simp; omega
                  go_quiet (fail)
                  have P3 := hid (show Sl (wr.drewN nq) 77 2 (some ⟨pb, 0, none⟩) K pc (pairs (pth rest)) by
                    have := (HP.out.drewN nq).pre (m := K) (by omega)
                    rw [pairs_take, pth_cons, List.take_left' (by rw [pth_length, HK.out])] at this
                    exact this)
                  have M3 := hid (hM.out.drewN nq)
                  have F3 := hid (hF.out.drewN nq)
                  have HPB := hid (show ∀ b, blk (some (⟨pb, 0, none⟩ : Addr)) = some b → b ∉ E.bs ∧ E.bO ≤ b ∧ blk sa ≠ some b from hpb.out)
                  have HGE := hid (show (g f.node).length ≤ f.edge by rw [← HU.out, ← HED.out]; omega)
                  have hpc : K + 1 ≤ pc := by
                    rcases HP.out.form with ⟨q, _⟩ | ⟨_, _, q, _, q2, _⟩
                    · cases q
                    · exact q2
                  clear hdl hM hF HP hpb p0 p1 q2 A1
                  generalize wr.drewN nq = w3 at *
                  go_upto_if 134 with fail
                  go_cut [17] (fun s17 wc => ∃ (low' : Nat → Int), Hid (TM E wc S.ord low' S.cmp S.ons (stkT S.seg).reverse S.rea sa sc) ∧ Hid (Fr Nothing w wc) ∧ Hid (Sl wc 77 2 (some ⟨pb, 0, none⟩) K pc (pairs (pth rest))) ∧ low' f.node = S.low f.node ∧
                     Hid ((S.low f.node = S.ord f.node ∧ low' = S.low) ∨ (S.low f.node ≠ S.ord f.node ∧ ∃ q r', rest = q :: r' ∧ low' = upd S.low q.node (min (S.low q.node) (S.low f.node)))))
                  case first =>
                    rcases hrs : rest with _ | ⟨q, r'⟩
                    · have hk0 : K = 0 := by rw [HK.out, hrs]; rfl
                      subst hk0
                      have HRS := hid hrs
                      clear hrs
                      go_wp2_with fail
                      go_meet
                      case rel =>
                        refine ⟨S.low, M3, F3, P3, rfl, hid (.inl ⟨?_, rfl⟩)⟩
                        exact hT.out.sole (by rw [HSG.out, HRS.out])
                    · obtain ⟨K1, hK1⟩ : ∃ K1, K = K1 + 1 := ⟨r'.length, by rw [HK.out, hrs]; rfl⟩
                      have HK1 := hid (show K1 = r'.length by have := HK.out; rw [hrs] at this; simp at this; omega)
                      subst hK1
                      have HRS := hid hrs
                      clear hrs
                      have hqs : q.node ∈ stkT S.seg := mem_stk (by rw [HSG.out, HRS.out]; simp) (.inr rfl)
                      have hp := hT.out.lt _ (hT.out.vis _ hqs)
                      clear hqs
                      have hpc := (pth_cells q r').1
                      rw [← HK1.out, ← HRS.out] at hpc
                      obtain ⟨pb', hpa', p1⟩ := P3.out.cell hpc
                      simp only [Option.some.injEq, Addr.mk.injEq, and_true] at hpa'
                      subst hpa'
                      have HQN := hid (show q.node ≠ f.node by
                        have := (hT.out.top HSG.out).2 f.node (List.mem_append.2 (.inr (by simp))) q.node (by rw [HRS.out]; exact mem_stk List.mem_cons_self (.inr rfl))
                        intro e2
                        rw [e2] at this
                        omega)
                      obtain ⟨p, hP⟩ : ∃ p, p = q.node := ⟨_, rfl⟩
                      rw [← hP] at p1 hp
                      have HPN := hid hP
                      clear hP hpc
                      have c2 := M3.out.l.cell 0
                      simp at c2
                      have e5 := Ints.cell M3.out.il hu
                      have e6 := Ints.cell M3.out.il hp
                      have z6 := Ints.frozen M3.out.il p
                      have hmin : (if S.low u < S.low p then S.low u else S.low p) = min (S.low p) (S.low u) := by
                        by_cases q : S.low u < S.low p
                        · rw [if_pos q]; omega
                        · rw [if_neg q]; omega
                      have HMIN := hid hmin
                      clear hmin
                      go_upto_region 34 with fail
                      go_region
                      rw [HMIN.out]
                      go_wp2_with fail
                      go_meet
                      case rel =>
                        refine ⟨upd S.low p (min (S.low p) (S.low u)), hid ((M3.out.setL p (min (S.low p) (S.low u))).drew), hid ((F3.out.setCell (p := ⟨E.bL, p, none⟩) (fun q => by have := HB0.out; have := HEH.out; have := M3.out.ge E.bL (by simp [TE.bs]); simp at q; omega) _).drew), hid ((P3.out.setOther (p := ⟨E.bL, p, none⟩) (fun q => (HPB.out _ q).1 (by simp [TE.bs])) _).drew), ?_, hid ?_⟩
                        · exact upd_other _ _ (by rw [HPN.out]; exact HQN.out.symm)
                        · by_cases hq : S.low f.node = S.ord f.node
                          · refine .inl ⟨hq, ?_⟩
                            rw [HPN.out, HU.out]
                            exact hT.out.keepLow (by rw [HSG.out, HRS.out]) hq
                          · exact .inr ⟨hq, q, r', HRS.out, by rw [HPN.out, HU.out]⟩
                  case rest =>
                    obtain ⟨low', hM5, hF5, hP5, hlow, hor⟩ := hcut
                    have c1 := hM5.out.o.cell 0
                    have c2 := hM5.out.l.cell 0
                    simp at c1 c2
                    have e1 := Ints.cell hM5.out.io hu
                    have e2 := Ints.cell hM5.out.il hu
                    rw [HU.out, hlow, ← HU.out] at e2
                    clear hlow M3 F3 P3
                    by_cases hq : S.low u = S.ord u
                    · obtain ⟨rfl⟩ : low' = S.low := by
                        rcases hor.out with ⟨_, q⟩ | ⟨q, _⟩
                        · exact q
                        · exact absurd (by rw [← HU.out]; exact hq) q
                      have hdn : (S.low u != S.ord u) = false := by simp [hq]
                      go_upto_region 35 with fail
                      go_quiet (fail)
                      go_wp2_with fail
                      have M6 := hid (hM5.out.drewN nq)
                      have F6 := hid (hF5.out.drewN nq)
                      have P6 := hid (hP5.out.drewN nq)
                      have TC := hid (hT.out.close HSG.out HGE.out (by rw [← HU.out]; exact hq))
                      have LC := hid (lft_close (g := g) (n := E.n) (l := S.low) (c := fun x => if x ∈ f.all then (S.fnd : Int) else S.cmp x) (o := fun x => if x ∈ f.all then false else S.ons x) (a := S.rea) (b := S.fnd + 1) HSG.out)
                      have ND := hid (show f.all.Nodup by
                        have := nodup_stk hT.out
                        rw [HSG.out, stkT_cons] at this
                        exact (List.nodup_append.1 this).1)
                      have LT := hid (show ∀ x ∈ f.all, x < E.n from fun x hx => hT.out.lt _ (hT.out.vis x (by rw [HSG.out, stkT_cons]; exact List.mem_append.2 (.inl hx))))
                      have hcn : S.fnd + (f.all.length + (stkT rest).length) ≤ E.n := by
                        have := hT.out.cnt
                        rw [HSG.out, stkT_cons, List.length_append] at this
                        omega
                      have HCN := hid hcn
                      have hal : f.all.length = f.fin.length + 1 := by simp [Fm.all]
                      have HAL := hid hal
                      have S6 := hid (show (stkT S.seg).reverse = (f.all.drop 0 ++ stkT rest).reverse by rw [HSG.out, stkT_cons]; rfl)
                      clear hM5 hF5 hP5 c1 c2 e1 e2 hdn hq hor hcn
                      generalize wc.drewN nq = w6 at *
                      go_loopg [18] f.all.length (fun gg s18 wr => ∃ (j : Nat), gg + j = f.all.length ∧ j < f.all.length ∧ Hid (TM E wr S.ord S.low (fun x => if x ∈ f.all.take j then (S.fnd : Int) else S.cmp x) (fun x => if x ∈ f.all.take j then false else S.ons x) (f.all.drop j ++ stkT rest).reverse S.rea sa sc) ∧ Hid (Fr Nothing w wr) ∧ Hid (Sl wr 77 2 (some ⟨pb, 0, none⟩) K pc (pairs (pth rest))))
                      case atStart => exact ⟨0, by omega, by omega, hid (by have := M6.out; rw [S6.out] at this; simpa using this), F6, P6⟩
                      case round =>
                        clear M6 F6 P6 S6 hal
                        obtain ⟨j, hj, hjl, hM7, hF7, hP7⟩ := hrel
                        obtain ⟨L, hL⟩ : ∃ L : List Nat, L = (f.all.drop (j + 1) ++ stkT rest).reverse := ⟨_, rfl⟩
                        have hx := LT.out _ (List.getElem_mem hjl)
                        have hst : (f.all.drop j ++ stkT rest).reverse = L ++ [f.all[j]] := by
                          rw [List.drop_eq_getElem_cons hjl, hL]; simp
                        have hLl : L.length ≤ 1024 := by
                          rw [hL, List.length_reverse, List.length_append, List.length_drop]
                          have := HCN.out
                          omega
                        have hM8 := hM7.out
                        rw [hst] at hM8
                        have hlen : (L ++ [f.all[j]]).length = L.length + 1 := by simp
                        have c4 := hM8.s.cell 0
                        have z4 := hM8.s.frozen 0
                        have hsl := hM8.sl
                        rw [hlen] at hsl
                        have q4 : (ints (L ++ [f.all[j]]))[L.length]? = some (.int .i64 ((f.all[j] : Nat) : Int)) := by simp [ints]
                        obtain ⟨sb, hsa, q5⟩ := hsl.cell q4
                        have hcp : L.length + 1 ≤ sc := by
                          rcases hsl.form with ⟨q, _⟩ | ⟨_, _, _, _, q2, _⟩
                          · rw [hsa] at q; cases q
                          · exact q2
                        have S8 := hid (show Sl wr 3 1 sa L.length sc (ints L) by
                          rw [hsa] at hsl ⊢
                          have := hsl.pre (m := L.length) (by omega)
                          simpa [ints] using this)
                        have HM8 := hid hM8
                        have HL := hid hL
                        have TU := hid (take_upd f.all j hjl S.cmp (S.fnd : Int))
                        have TU2 := hid (take_upd f.all j hjl S.ons false)
                        have HXU := hid (show f.all[j] = f.node ↔ j + 1 = f.all.length by
                          have e1 : f.all[f.all.length - 1]? = some f.node := by simp [Fm.all]
                          have h2 : f.all.length - 1 < f.all.length := by have := HAL.out; omega
                          constructor
                          · intro q
                            have := (List.getElem?_inj h2 ND.out).1 (e1.trans (by rw [List.getElem?_eq_getElem hjl, q]))
                            omega
                          · intro q
                            have e2 : f.all.length - 1 = j := by omega
                            rw [e2, List.getElem?_eq_getElem hjl] at e1
                            exact Option.some.inj e1)
                        clear hM7 hM8 hsl hst q4 hL
                        rw [hlen] at c4
                        generalize f.all[j] = x at *
                        subst hsa
                        simp at c4
                        obtain ⟨m, hm⟩ : ∃ m, m = L.length := ⟨_, rfl⟩
                        have HMm := hid hm
                        rw [← hm] at c4 q5 hLl hcp
                        clear hm hlen
                        go_upto_region 38 with fail
                        rw [HMm.out]
                        have M9 := hid (HM8.out.setS (w' := wr) (fun _ _ => rfl) S8.out HM8.out.sb)
                        have F9 := hid (hF7.out.setCell (p := ⟨E.cS, 0, none⟩) (fun q => by have := HB0.out; have := HEH.out; have := HM8.out.ge E.cS (by simp [TE.bs]); simp at q; omega) (.slice (some ⟨sb, 0, none⟩) L.length sc))
                        have P9 := hid (hP7.out.setOther (p := ⟨E.cS, 0, none⟩) (fun q => (HPB.out _ q).1 (by simp [TE.bs])) (.slice (some ⟨sb, 0, none⟩) L.length sc))
                        clear c4 z4 q5 S8 HM8 hF7 hP7 HMm
                        generalize wr.setCell ⟨E.cS, 0, none⟩ (.slice (some ⟨sb, 0, none⟩) L.length sc) = w7 at *
                        have c3 := M9.out.k.cell 0
                        simp at c3
                        have e3 := Arr.cell M9.out.ik hx
                        have z3 := Arr.frozen M9.out.ik x
                        have e4 := Ints.cell M9.out.ic hx
                        have z4 := Ints.frozen M9.out.ic x
                        have nkc : E.bK ≠ E.bC := nd_ne2 M9.out.nd 8 7 rfl rfl (by decide)
                        have M10 := hid ((M9.out.setK x false).setC x (S.fnd : Int))
                        have F10 := hid ((F9.out.setCell (p := ⟨E.bK, x, none⟩) (fun q => by have := HB0.out; have := HEH.out; have := M9.out.ge E.bK (by simp [TE.bs]); simp at q; omega) (.bool false)).setCell (p := ⟨E.bC, x, none⟩) (fun q => by have := HB0.out; have := HEH.out; have := M9.out.ge E.bC (by simp [TE.bs]); simp at q; omega) (.int .i64 (S.fnd : Int)))
                        have P10 := hid ((P9.out.setOther (p := ⟨E.bK, x, none⟩) (fun q => (HPB.out _ q).1 (by simp [TE.bs])) (.bool false)).setOther (p := ⟨E.bC, x, none⟩) (fun q => (HPB.out _ q).1 (by simp [TE.bs])) (.int .i64 (S.fnd : Int)))
                        rw [TU.out, TU2.out] at M10
                        by_cases hxu : x = u
                        · have hj1 := HXU.out.1 (hxu.trans HU.out)
                          subst hxu
                          clear M9 F9 P9
                          have hfb : S.fnd ≤ 1024 := by have := HCN.out; omega
                          go_wp2_with fail
                          go_roundg (lft g E.n ⟨S.ord, S.low, fun x => if x ∈ f.all then (S.fnd : Int) else S.cmp x, fun x => if x ∈ f.all then false else S.ons x, rest, S.rea, S.fnd + 1⟩)
                          case measure => have := LC.out; have := HLF.out; omega
                          case rel =>
                            have htk : f.all.take (j + 1) = f.all := List.take_of_length_le (by omega)
                            have hLr : L = (stkT rest).reverse := by rw [HL.out, List.drop_of_length_le (by omega)]; simp
                            have hM := M10.out
                            rw [htk, hLr] at hM
                            refine ⟨⟨S.ord, S.low, fun x => if x ∈ f.all then (S.fnd : Int) else S.cmp x, fun x => if x ∈ f.all then false else S.ons x, rest, S.rea, S.fnd + 1⟩, some ⟨sb, 0, none⟩, sc, some ⟨pb, 0, none⟩, pc, Nat.le_refl _, ?_, ?_, hid hM, TC, hV, F10, hid ?_, HPB⟩
                            · go_num
                            · rw [HK.out]
                            · have := P10.out
                              rw [HK.out] at this
                              exact this
                        · have hj1 : j + 1 ≠ f.all.length := fun q => hxu ((HXU.out.2 q).trans HU.out.symm)
                          have hxi : ¬ ((x : Int) = (u : Int)) := by omega
                          clear M9 F9 P9
                          go_wp2_with fail
                          go_roundg (gk - 1)
                          case measure => omega
                          case rel =>
                            refine ⟨j + 1, by omega, by omega, hid ?_, F10, P10⟩
                            rw [← HL.out]
                            exact M10.out
                    · have hdn : (S.low u != S.ord u) = true := by simp [hq]
                      have HQ := hid hq
                      clear hq
                      go_upto_region 35 with fail
                      go_quiet (fail)
                      go_wp2_with fail
                      go_roundg (gk - 1)
                      case measure => have := HLF.out; have := lft_close (g := g) (n := E.n) (l := S.low) (c := S.cmp) (o := S.ons) (a := 0) (b := 0) HSG.out; omega
                      case rel =>
                        rcases hor.out with ⟨q, _⟩ | ⟨q, qq, r', hr', hlo⟩
                        · exact absurd (by rw [HU.out]; exact q) HQ.out
                        · have hsg2 : S.seg = f :: qq :: r' := by rw [HSG.out, hr']
                          have hst := stk_merge f qq r'
                          rw [← hsg2] at hst
                          have hlf := lft_merge (g := g) (n := E.n) (l := low') hsg2
                          have hK2 : K = r'.length + 1 := by rw [HK.out, hr']; rfl
                          have hpp : pth rest = pth (⟨qq.node, qq.edge, f.all ++ qq.fin⟩ :: r') := by rw [hr']; simp [pth]
                          refine ⟨{ S with low := low', seg := ⟨qq.node, qq.edge, f.all ++ qq.fin⟩ :: r' }, sa, sc, some ⟨pb, 0, none⟩, pc, ?_, rfl, ?_, hid ?_, hid ?_, hV, hid (hF5.out.drewN _), hid ?_, HPB⟩
                          · have := HLF.out; omega
                          · rw [hK2]; rfl
                          · show TM E _ S.ord low' S.cmp S.ons (stkT (_ :: r')).reverse S.rea sa sc
                            rw [hst]
                            exact hM5.out.drewN _
                          · rw [hlo]
                            exact hT.out.merge hsg2 HGE.out q
                          · show Sl _ 77 2 _ (r'.length + 1) pc (pairs (pth (⟨qq.node, qq.edge, f.all ++ qq.fin⟩ :: r')))
                            rw [← hK2, ← hpp]
                            exact hP5.out.drewN _
          · go_wp2_with fail
            go_roundg (gk - 1)
            case measure => omega
            case rel =>
              refine ⟨r + 1, S, sa, sc, by omega, by go_num, rfl, HSG.out, hM, hT, hid (fun x hx => ?_), hF2⟩
              by_cases q : x = r
              · subst q
                have := hT.out.bnd x
                omega
              · exact hV.out x (by omega)
        · have hrn : r = E.n := by omega
          go_wp2_with fail
          go_ret
          have hv : ∀ x, x < E.n → 0 ≤ S.ord x ∧ x ∉ stkT S.seg := fun x hx => ⟨hV.out x (by omega), by rw [HSG.out]; exact fun q => nomatch q⟩
          refine ⟨E.bC, S.cmp, rfl, hM.out.ic, ?_, hF2.out, fun u hu => ?_, fun u v hu hv' => hT.out.cls u v (hv u hu).1 (hv u hu).2 (hv v hv').1 (hv v hv').2⟩
          · have := hM.out.ge E.bC (by simp [TE.bs])
            have := HB0.out
            have := HEH.out
            omega
          · have h1 := (hT.out.asg u (hv u hu).1 (hv u hu).2).2
            have h2 := hT.out.cnt
            omega
end Go.Proofs.Qxb6615025a
