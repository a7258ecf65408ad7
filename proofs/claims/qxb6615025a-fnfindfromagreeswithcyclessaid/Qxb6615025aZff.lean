/- ZZfindFrom (18). -/
import Derived.Test.Qxb6615025aFnew
namespace Go.Proofs.Qxb6615025a
open Go.RowKit Go.MapKept

theorem load22 (w : World) (b off : Nat) (v : Value) (hc : w.cell? ⟨b, off, none⟩ = some v) : (Instr.loadAt 22 (.pointer (some ⟨b, off, none⟩))).run Try.prog w = .ok v w := by
  simp [go_sem, hc]

theorem loadAt52 (w : World) (b : Nat) (x y : Value) (h : Rec w b 52 #[x, y]) : (Instr.loadAt 52 (.pointer (some ⟨b, 0, none⟩))).run Try.prog w = .ok (.agg #[x, y]) w := by
  have e : (Instr.sureAddr (Value.pointer (some ⟨b, 0, none⟩))).run Try.prog w = .ok ⟨b, 0, none⟩ w := rfl
  simp only [Instr.loadAt, Sem.run_bind, e, Result.andThen]
  exact load52 w b x y h

section
variable {ops : Array Oper} {S : World → Prop} {a : Act} {o : Oper}
theorem y_load52 (x : Operand) (ho : o.op = Op.load 52 x) (hg : o.guard = none) (b : Nat) (x1 x2 : Value) (hx : a.eval x = .pointer (some ⟨b, 0, none⟩)) (hS : ∀ w, S w → Rec w b 52 #[x1, x2]) : YieldsIf Try.prog ops S o (.agg #[x1, x2]) a :=
  y_run hg _ fun w hw => by
    have h := loadAt52 w b x1 x2 (hS w hw)
    simp only [execOp, ho, hx, Sem.run_bind, h, Result.andThen]
    rfl
theorem y_len22 (x : Operand) (ho : o.op = .call { callee := .builtin .len, args := #[x], argTypes := #[22] }) (hg : o.guard = none) (ao : Option Addr) (n c : Nat) (hx : a.eval x = .slice ao n c) : YieldsIf Try.prog ops S o (.int .i64 n) a :=
  y_run hg _ fun w _ => by
    simp [execOp, ho, hx, resolve, invoke]
    kernel_rfl
end

/-- What the keys of a map stand for. -/
structure Nm (w : World) (b : Nat) (l : List (ByteArray × Value)) (ks : List ByteArray) (ra : Nat → Option Addr) (rl : Nat → List ByteArray) (rcp : Nat → Nat) (n : Nat) : Prop where
  gm : GM w b l
  pm : (l.map Prod.fst).Perm ks
  so : ks.Pairwise (fun a b => a.data.toList < b.data.toList)
  kl : ks.length = n
  nn : n ≤ 1024
  sz : ∀ s ∈ ks, s.size ≤ 1048576
  va : ∀ i s, ks[i]? = some s → (s, Value.slice (ra i) (rl i).length (rcp i)) ∈ l ∧ Str w (ra i) (rl i)
  tt : ∀ i, i < n → (rl i).length ≤ 1048576
  rr : ∀ k, k ≤ n → ∀ j, (revAt (nx ks rl) k j).length ≤ 1048576

set_option maxRecDepth 100000 in
set_option maxHeartbeats 8000000 in
set_option linter.unusedSimpArgs false in
theorem zzff_any (b : Nat) (l : List (ByteArray × Value)) (ks : List ByteArray) (ra : Nat → Option Addr) (rl : Nat → List ByteArray) (rcp : Nat → Nat) (w : World) (n : Nat) (hN : Nm w b l ks ra rl rcp n) (lead hub bi ci : Nat) (f : Nat → Bool) (hlead : lead < 9223372036854775808)
    (hb : Bools w bi n f) (G G' : GS) (hG : growL f (revAt (nx ks rl) n) (n + 1) 0 (grow0 (fun _ => -2) (fun _ => 0) hub) = G) (hG' : growL f (nx ks rl) (n + 1) 0 (grow0 (fun _ => -2) (fun _ => 0) hub) = G')
    (hSc : Scene n (nx ks rl) (revAt (nx ks rl) n) f hub (fun _ => -2) (fun _ => 0) (fun _ => -2) (fun _ => 0) G G') :
    Calls Try.prog 18 #[.map (some b), .int .i64 lead, .int .i64 hub, .slice (some ⟨bi, 0, none⟩) n ci] w fun e w' => ∃ bm cnt fm, e = .returned (.map (some bm)) ∧ MapAt .string w' bm cnt fm ∧ Fr Nothing w w' ∧ Fnd w.heap.size w' n lead hub ks (nx ks rl) f G G' fm ∧ w.heap.size ≤ bm := by
  have H24 := hid (fun w' (hf : Fr Nothing w w') => numbered_any b l ks ra rl rcp w' n (hN.gm.fr hf (fun q => q)) hN.pm hN.so hN.kl hN.nn hN.sz (fun i s hi => ⟨(hN.va i s hi).1, (hN.va i s hi).2.fr hf⟩) hN.tt)
  have HN := hid hN
  have HSc := hid hSc
  have HG := hid hG
  have HG' := hid hG'
  have HB := hid hb
  have hn := hN.nn
  clear hN hSc hG hG' hb
  go_enter Try.func18, Try.ntmps18
  obtain ⟨p7, hp7⟩ : ∃ p7, p7 = w.heap.size := ⟨_, rfl⟩
  go_wp2_with (go_at_call 24; with_reducible refine (H24.out _ ((Fr.refl _ w).alloc _)).mono ?_; rintro e w1 ⟨aoi, ci2, bn, ao, c, rfl, hS1, hR1, hA1, hF1⟩; have S1 := hid hS1; have R1 := hid hR1; have A1 := hid hA1; have F1 := hid hF1; clear hS1 hR1 hA1 hF1)
  obtain ⟨p9, hp9⟩ : ∃ p9, p9 = w1.heap.size := ⟨_, rfl⟩
  rw [← hp9, ← hp7]
  have N0 := hid (show Rec (w1.alloc (Obj.cells #[Value.slice aoi n ci2, Value.slice (some ⟨bn, 0, none⟩) n n] 52)) p9 52 #[Value.slice aoi n ci2, Value.slice (some ⟨bn, 0, none⟩) n n] from Rec.newAt _ 52 p9 _ hp9.symm)
  have B0 := hid (show Rec (w1.alloc (Obj.cells #[Value.slice aoi n ci2, Value.slice (some ⟨bn, 0, none⟩) n n] 52)) p7 44 #[Value.slice (some ⟨bi, 0, none⟩) n ci] from ((Rec.newAt w 44 p7 _ hp7.symm).fr F1.out (fun q => q)).alloc _)
  have S0 := hid (show Sl (w1.alloc (Obj.cells #[Value.slice aoi n ci2, Value.slice (some ⟨bn, 0, none⟩) n n] 52)) 9 1 aoi n ci2 (strs ks) from S1.out.alloc _)
  have R0 := hid (R1.out.fr ((Fr.refl Nothing w1).alloc (Obj.cells #[Value.slice aoi n ci2, Value.slice (some ⟨bn, 0, none⟩) n n] 52)) (fun q => q) (fun _ _ _ _ q => q))
  have F0 := hid (show Fr Nothing w (w1.alloc (Obj.cells #[Value.slice aoi n ci2, Value.slice (some ⟨bn, 0, none⟩) n n] 52)) from (((Fr.refl Nothing w).alloc _).trans F1.out (fun _ _ q => q)).alloc _)
  have hsz1 := F1.out.size
  have A0 := hid (fun g (hg : blk aoi = some g) => (show g < p9 from hp9 ▸ S1.out.lt hg))
  have HP := hid (show p7 = w.heap.size ∧ p7 < p9 ∧ (∀ g, blk aoi = some g → p7 < g ∧ g < p9 ∧ g ≠ bn ∧ ∀ i, i < n → blk (ao i) ≠ some g) ∧ p7 < bn ∧ bn < p9 ∧ (∀ i, i < n → ∀ b, blk (ao i) = some b → p7 < b ∧ b < p9) by
    rw [World.size_alloc] at hsz1
    have hR := R1.out
    have hb1 := hR.hb
    rw [World.size_alloc] at hb1
    refine ⟨hp7, by omega, fun g hg => ?_, by omega, by have := hR.adj.arr.lt; omega, fun i hi b hb => ?_⟩
    · obtain ⟨q1, q2, q3⟩ := A1.out g hg
      rw [World.size_alloc] at q1
      have := A0.out g hg
      exact ⟨by omega, by omega, q2, q3⟩
    · have q1 := (hR.far i hi b hb).1
      rw [World.size_alloc] at q1
      have := (hR.adj.row i hi).lt hb
      omega)
  have HW0 := hid (show (w1.alloc (Obj.cells #[Value.slice aoi n ci2, Value.slice (some ⟨bn, 0, none⟩) n n] 52)).heap.size = p9 + 1 by rw [World.size_alloc, hp9])
  clear hp7 hp9 hsz1 A0 S1 R1 A1 F1
  generalize w1.alloc (Obj.cells #[Value.slice aoi n ci2, Value.slice (some ⟨bn, 0, none⟩) n n] 52) = W0 at *
  generalize hids : Value.slice aoi n ci2 = idsv at *
  generalize hnxt : Value.slice (some (⟨bn, 0, none⟩ : Addr)) n n = nxtv at *
  have z9 := fun (w : World) (hw : Rec w p9 52 #[idsv, nxtv]) => hw.cell 0
  simp only [List.size_toArray, List.length_cons, List.length_nil, Nat.zero_add, Nat.reduceAdd, Nat.zero_lt_succ, getElem?_pos, List.getElem_toArray, List.getElem_cons_zero] at z9
  generalize hA : Act.mk _ _ = a0
  have hs : a0.tmps.size = 40 := by rw [← hA]; rfl
  have e1 : a0.eval (.tmp 1) = .int .i64 lead := by rw [← hA]; rfl
  have e9 : a0.eval (.tmp 9) = .pointer (some ⟨p9, 0, none⟩) := by rw [← hA]; rfl
  refine wp_region_tailn (fun w' => Rec w' p9 52 #[idsv, nxtv]) 19 20 rfl (by kernel_rfl) ?_
  have S' : (fun w' => Rec w' p9 52 #[idsv, nxtv]) W0.drew := N0.out
  refine wpAnyT_taked 0 (some 13) rfl rfl (by kernel_rfl) (fun _ _ _ h => h) S' (y_load52 (.tmp 9) rfl rfl p9 idsv nxtv (by simp [ev_other, ev_same, sz_put, hs, e9, e1]) (fun w hw => hw)) ?_
  refine wpAnyT_taked 1 (some 14) rfl rfl (by kernel_rfl) (fun _ _ _ h => h) S' (y_load52 (.tmp 9) rfl rfl p9 idsv nxtv (by simp [ev_other, ev_same, sz_put, hs, e9, e1]) (fun w hw => hw)) ?_
  refine wpAnyT_taked 3 (some 16) rfl rfl (by kernel_rfl) (fun _ _ _ h => h) S' (y_field 52 (.tmp 9) 0 rfl rfl ⟨p9, 0, none⟩ ⟨p9, 0, none⟩ (by simp [ev_other, ev_same, sz_put, hs, e9, e1]) (fun w => by kernel_rfl)) ?_
  refine wpAnyT_taked 4 (some 17) rfl rfl (by kernel_rfl) (fun _ _ _ h => h) S' (y_load 22 (.tmp 16) rfl rfl p9 0 (by simp [ev_other, ev_same, sz_put, hs, e9, e1]) idsv load22 z9) ?_
  refine wpAnyT_taked 5 (some 18) rfl rfl (by kernel_rfl) (fun _ _ _ h => h) S' (y_len22 (.tmp 17) rfl rfl aoi n ci2 (by simp [ev_other, ev_same, sz_put, hs, e9, e1, hids])) ?_
  refine wpAnyT_taked 7 (some 20) rfl rfl (by kernel_rfl) (fun _ _ _ h => h) S' (y_field 52 (.tmp 9) 0 rfl rfl ⟨p9, 0, none⟩ ⟨p9, 0, none⟩ (by simp [ev_other, ev_same, sz_put, hs, e9, e1]) (fun w => by kernel_rfl)) ?_
  refine wpAnyT_taked 8 (some 21) rfl rfl (by kernel_rfl) (fun _ _ _ h => h) S' (y_load 22 (.tmp 20) rfl rfl p9 0 (by simp [ev_other, ev_same, sz_put, hs, e9, e1]) idsv load22 z9) ?_
  refine wpAnyT_taked 9 (some 22) rfl rfl (by kernel_rfl) (fun _ _ _ h => h) S' (y_len22 (.tmp 21) rfl rfl aoi n ci2 (by simp [ev_other, ev_same, sz_put, hs, e9, e1, hids])) ?_
  refine wpAnyT_taked 11 (some 24) rfl rfl (by kernel_rfl) (fun _ _ _ h => h) S' (y_field 52 (.tmp 9) 0 rfl rfl ⟨p9, 0, none⟩ ⟨p9, 0, none⟩ (by simp [ev_other, ev_same, sz_put, hs, e9, e1]) (fun w => by kernel_rfl)) ?_
  refine wpAnyT_taked 12 (some 25) rfl rfl (by kernel_rfl) (fun _ _ _ h => h) S' (y_load 22 (.tmp 24) rfl rfl p9 0 (by simp [ev_other, ev_same, sz_put, hs, e9, e1]) idsv load22 z9) ?_
  refine wpAnyT_taked 13 (some 26) rfl rfl (by kernel_rfl) (fun _ _ _ h => h) S' (y_len22 (.tmp 25) rfl rfl aoi n ci2 (by simp [ev_other, ev_same, sz_put, hs, e9, e1, hids])) ?_
  refine wpAnyT_taked 15 (some 28) rfl rfl (by kernel_rfl) (fun _ _ _ h => h) S' (y_move (.tmp 1) rfl rfl) ?_
  obtain ⟨F, hF⟩ : ∃ F : Value → Value → Value → Value → Value → Act, F = fun v1 v2 v3 v4 v5 => ⟨#[.map (some b), .int .i64 lead, .int .i64 hub, .slice (some ⟨bi, 0, none⟩) n ci, undef, undef, undef, .pointer (some ⟨p7, 0, none⟩), .map none, .pointer (some ⟨p9, 0, none⟩), undef, .map (some b), .agg #[idsv, nxtv], .agg #[idsv, nxtv], .agg #[idsv, nxtv], v1, .pointer (some ⟨p9, 0, none⟩), idsv, .int .i64 n, v2, .pointer (some ⟨p9, 0, none⟩), idsv, .int .i64 n, v3, .pointer (some ⟨p9, 0, none⟩), idsv, .int .i64 n, v4, .int .i64 lead, v5, undef, undef, undef, undef, undef, undef, undef, undef, undef, undef], []⟩ := ⟨_, rfl⟩
  have q1 : ∀ v1 v2 v3 v4 v5 r, (F v1 v2 v3 v4 v5).put (some 15) r = F r v2 v3 v4 v5 := fun v1 v2 v3 v4 v5 r => by rw [hF]; kernel_rfl
  have q2 : ∀ v1 v2 v3 v4 v5 r, (F v1 v2 v3 v4 v5).put (some 19) r = F v1 r v3 v4 v5 := fun v1 v2 v3 v4 v5 r => by rw [hF]; kernel_rfl
  have q3 : ∀ v1 v2 v3 v4 v5 r, (F v1 v2 v3 v4 v5).put (some 23) r = F v1 v2 r v4 v5 := fun v1 v2 v3 v4 v5 r => by rw [hF]; kernel_rfl
  have q4 : ∀ v1 v2 v3 v4 v5 r, (F v1 v2 v3 v4 v5).put (some 27) r = F v1 v2 v3 r v5 := fun v1 v2 v3 v4 v5 r => by rw [hF]; kernel_rfl
  have q5 : ∀ v1 v2 v3 v4 v5 r, (F v1 v2 v3 v4 v5).put (some 29) r = F v1 v2 v3 v4 r := fun v1 v2 v3 v4 v5 r => by rw [hF]; kernel_rfl
  have f14 : ∀ v1 v2 v3 v4 v5, (F v1 v2 v3 v4 v5).eval (.tmp 14) = .agg #[idsv, nxtv] := fun v1 v2 v3 v4 v5 => by rw [hF]; rfl
  have f18 : ∀ v1 v2 v3 v4 v5, (F v1 v2 v3 v4 v5).eval (.tmp 18) = .int .i64 n := fun v1 v2 v3 v4 v5 => by rw [hF]; rfl
  have f22 : ∀ v1 v2 v3 v4 v5, (F v1 v2 v3 v4 v5).eval (.tmp 22) = .int .i64 n := fun v1 v2 v3 v4 v5 => by rw [hF]; rfl
  have f26 : ∀ v1 v2 v3 v4 v5, (F v1 v2 v3 v4 v5).eval (.tmp 26) = .int .i64 n := fun v1 v2 v3 v4 v5 => by rw [hF]; rfl
  have H25 := hid (show ∀ w', Fr Nothing W0 w' → Calls Try.prog 25 #[.agg #[idsv, nxtv]] w' fun e w'' => ∃ bv ao2 c2, e = .returned (.slice (some ⟨bv, 0, none⟩) n n) ∧ Rw w'.heap.size w'' bv n ao2 c2 (revAt (nx ks rl) n) ∧ Fr Nothing w' w'' from fun w' hf => by
    rw [← hnxt]
    refine reversed_any bn n idsv ao c (nx ks rl) w' hn (R0.out.adj.fr hf (fun q => q) (fun _ _ _ _ q => q)) (fun i hi x hx => ?_) (fun i hi => ?_) HN.out.rr
    · obtain ⟨s, _, hs⟩ := List.mem_filterMap.1 hx
      have := idx_lt hs
      rw [HN.out.kl] at this
      exact this
    · exact Nat.le_trans (List.length_filterMap_le _ _) (HN.out.tt i hi))
  have hbase : p9 + 1 ≤ W0.heap.size := by rw [HW0.out]; exact Nat.le_refl _
  refine chain4 (f := 3) (fun c m a w => ∃ own v1 v2 v3 v4 v5, a = F v1 v2 v3 v4 v5 ∧ PJ (p9 + 1) n (revAt (nx ks rl) n) W0 c m v1 v2 v3 v4 v5 w own) (i0 := 2) (i1 := 6) (i2 := 10) (i3 := 14) (im := 16)
    rfl rfl rfl rfl rfl rfl rfl rfl rfl rfl (by kernel_rfl) (by kernel_rfl) (by kernel_rfl) (by kernel_rfl) (by kernel_rfl) (by kernel_rfl) (by kernel_rfl) (by kernel_rfl) (by kernel_rfl)
    rfl rfl rfl rfl rfl rfl rfl rfl rfl rfl rfl rfl rfl ?_ ?_ ?_ ?_ ?_ ?_ ?_ _ _ ?_
  · rintro c m a w ⟨own, v1, v2, v3, v4, v5, rfl, h⟩
    exact N0.out.fr h.fr (fun q => q)
  · rintro m a w ⟨own, v1, v2, v3, v4, v5, rfl, h⟩
    refine wp_callf (r_call25 (.tmp 14) 52 _ rfl (f14 _ _ _ _ _)) (d := some 15) rfl ((H25.out w h.fr).mono ?_)
    rintro e w2 ⟨bv, ao2, c2, rfl, hR, hf⟩
    have := h.fr.size
    exact ⟨_, rfl, ownAt own w.heap.size 1, _, v2, v3, v4, v5, q1 _ _ _ _ _ _, ⟨h.fr.trans hf (fun _ _ q => q), fun _ => PA.new hR (by omega), fun q => by omega, fun q => by omega, fun q => by omega, fun q => (h.m q).up hf 1⟩⟩
  · rintro m a w ⟨own, v1, v2, v3, v4, v5, rfl, h⟩
    refine wp_callf (r_call26 (.tmp 18) 3 _ rfl (f18 _ _ _ _ _)) (d := some 19) rfl ((newForest_any n w hn).mono ?_)
    rintro e w2 ⟨bf, b0, b1, b2, b3, rfl, hR, hf, hb⟩
    have := h.fr.size
    exact ⟨_, rfl, ownAt own w.heap.size 2, v1, _, v3, v4, v5, q2 _ _ _ _ _ _, ⟨h.fr.trans hf (fun _ _ q => q), fun q => (h.a (by omega)).up hf 2, fun _ => PF.new hR (by omega) hb, fun q => by omega, fun q => by omega, fun q => (h.m q).up hf 2⟩⟩
  · rintro m a w ⟨own, v1, v2, v3, v4, v5, rfl, h⟩
    refine wp_callf (r_call26 (.tmp 22) 3 _ rfl (f22 _ _ _ _ _)) (d := some 23) rfl ((newForest_any n w hn).mono ?_)
    rintro e w2 ⟨bf, b0, b1, b2, b3, rfl, hR, hf, hb⟩
    have := h.fr.size
    exact ⟨_, rfl, ownAt own w.heap.size 3, v1, v2, _, v4, v5, q3 _ _ _ _ _ _, ⟨h.fr.trans hf (fun _ _ q => q), fun q => (h.a (by omega)).up hf 3, fun q => (h.o (by omega)).up hf 3, fun _ => PF.new hR (by omega) hb, fun q => by omega, fun q => (h.m q).up hf 3⟩⟩
  · rintro m a w ⟨own, v1, v2, v3, v4, v5, rfl, h⟩
    refine wp_callf (r_call27 (.tmp 26) 3 _ rfl (f26 _ _ _ _ _)) (d := some 27) rfl ((newIv_any n w hn).mono ?_)
    rintro e w2 ⟨bs, bt, rfl, hR, hf, hb⟩
    have := h.fr.size
    exact ⟨_, rfl, ownAt own w.heap.size 4, v1, v2, v3, _, v5, q4 _ _ _ _ _ _, ⟨h.fr.trans hf (fun _ _ q => q), fun q => (h.a (by omega)).up hf 4, fun q => (h.o (by omega)).up hf 4, fun q => (h.i (by omega)).up hf 4, fun _ => PI.new hR (by omega) hb, fun q => (h.m q).up hf 4⟩⟩
  · rintro c a w ⟨own, v1, v2, v3, v4, v5, rfl, h⟩
    have hf : Fr Nothing w (w.alloc (.map #[] 0)) := (Fr.refl _ w).alloc _
    have := h.fr.size
    refine wp_val _ _ (r_mkm rfl) (d := some 29) rfl ?_
    exact ⟨ownAt own w.heap.size 5, v1, v2, v3, v4, _, q5 _ _ _ _ _ _, ⟨h.fr.trans hf (fun _ _ q => q), fun q => (h.a q).up hf 5, fun q => (h.o q).up hf 5, fun q => (h.i q).up hf 5, fun q => (h.s q).up hf 5, fun _ => PM.new (by omega)⟩⟩
  · rintro a w2 ⟨own, v1, v2, v3, v4, v5, rfl, h⟩
    obtain ⟨bv, ao2, c2, rfl, hRv, y1, y2⟩ := (h.a (by omega)).ex
    obtain ⟨bfo, o0, o1, o2, o3, rfl, hFo, y3⟩ := (h.o (by omega)).ex
    obtain ⟨bfi, i0, i1, i2, i3, rfl, hFi, y4⟩ := (h.i (by omega)).ex
    obtain ⟨bs, bt, rfl, hIv, y5⟩ := (h.s (by omega)).ex
    obtain ⟨bm, rfl, hM, y6, y7⟩ := (h.m rfl).ex
    have hfr := h.fr
    clear h q1 q2 q3 q4 q5 f14 f18 f22 f26 H24 H25
    have hN2 : Rec w2 p9 52 #[idsv, nxtv] := N0.out.fr hfr (fun q => q)
    subst hF
    refine T_val 17 (some 30) rfl rfl (by kernel_rfl) rfl (.agg (cyc idsv nxtv (.slice (some ⟨bv, 0, none⟩) n n) bfo bfi lead (.map (some bm)) (.slice none 0 0) bs)) w2 (by kernel_rfl) (fun _ => hN2) ?_
    obtain ⟨w3, hw3⟩ : ∃ w3, w3 = w2.alloc (.cells (cyc idsv nxtv (.slice (some ⟨bv, 0, none⟩) n n) bfo bfi lead (.map (some bm)) (.slice none 0 0) bs) 61) := ⟨_, rfl⟩
    obtain ⟨bc, hbc⟩ : ∃ bc, bc = w2.heap.size := ⟨_, rfl⟩
    refine T_val 18 (some 31) rfl rfl (by kernel_rfl) rfl (.pointer (some ⟨bc, 0, none⟩)) w3 (by rw [hw3, hbc]; kernel_rfl) (fun _ => by rw [hw3]; exact hN2.alloc _) ?_
    refine T_val 19 (some 10) rfl rfl (by kernel_rfl) rfl (.pointer (some ⟨bc, 0, none⟩)) w3 (by kernel_rfl) (fun q => Bool.noConfusion ((show true = _ by kernel_rfl).trans q)) ?_
    refine wpAnyT_done (by kernel_rfl) ?_ _
    have f23 : Fr Nothing w2 w3 := by rw [hw3]; exact (Fr.refl _ w2).alloc _
    have f03 : Fr Nothing W0 w3 := hfr.trans f23 (fun _ _ q => q)
    have hC3 : Rec w3 bc 61 (cyc idsv nxtv (.slice (some ⟨bv, 0, none⟩) n n) bfo bfi lead (.map (some bm)) (.slice none 0 0) bs) := by rw [hw3]; exact Rec.newAt _ 61 bc _ hbc.symm
    have hs2 := hfr.size
    obtain ⟨hp1, hp2, hp3, hp4, hp5, hp6⟩ := HP.out
    have hbi : bi < w.heap.size := Arr.lt HB.out
    have f0w : Fr Nothing w w3 := F0.out.trans f03 (fun _ _ q => q)
    subst hids
    subst hnxt
    have hFN := hid (find_new w3 n lead hub ks aoi ci2 bn bv ao ao2 c c2 (nx ks rl) (revAt (nx ks rl) n) f G G' p7 p9 bi ci bc bm bs bt bfi i0 i1 i2 i3 bfo o0 o1 o2 o3 (ownAt own w2.heap.size 6) HSc.out HG.out HG'.out hlead (sorted_nodup HN.out.so) HN.out.kl hC3
      ⟨by rw [ownAt, if_neg (by omega)], by omega⟩ (S0.out.fr f03 (fun _ _ q => q)) (fun g hg => (hp3 g hg).2.1) (R0.out.adj.fr f03 (fun q => q) (fun _ _ _ _ q => q)) ⟨hp5, fun i hi b hb => (hp6 i hi b hb).2⟩ (fun i hi => Nat.le_trans (List.length_filterMap_le _ _) (HN.out.tt i hi))
      (hRv.adj.fr f23 (fun q => q) (fun _ _ _ _ q => q)) ⟨by rw [ownAt, if_pos hRv.adj.arr.lt]; exact y1, fun i hi b hb => by rw [ownAt, if_pos ((hRv.adj.row i hi).lt hb)]; exact y2 i hi b hb⟩ (fun i hi => HN.out.rr n (Nat.le_refl _) i)
      (hFo.fr f23 (fun _ _ q => q)) (fun b hb => ⟨by rw [ownAt, if_pos (hFo.lt b hb)]; exact (y3 b hb).1, by have := (y3 b hb).2; omega⟩)
      (hFi.fr f23 (fun _ _ q => q)) (fun b hb => ⟨by rw [ownAt, if_pos (hFi.lt b hb)]; exact (y4 b hb).1, by have := (y4 b hb).2; omega⟩)
      (hIv.fr f23 (fun q => q) (fun q => q) (fun _ _ q => q)) (fun b hb => ⟨by
        have : b < w2.heap.size := by
          simp only [List.mem_cons, List.not_mem_nil, or_false] at hb
          rcases hb with rfl | rfl
          · exact hIv.str.lt
          · exact Arr.lt hIv.top
        rw [ownAt, if_pos this]; exact (y5 b hb).1, by have := (y5 b hb).2; omega⟩)
      (hM.of_block (f23.block bm hM.lt (fun q => q))) ⟨by rw [ownAt, if_pos hM.lt]; exact y6, by omega⟩ hp2 (by omega) (B0.out.fr f03 (fun q => q)) (Arr.fr HB.out f0w (fun q => q)))
    have F3 := hid f0w
    have HP1 := hid hp1
    have HBM := hid (show w.heap.size ≤ bm by omega)
    clear hp1 hp3 hp6 hw3 hbc f23 f03 hC3 hs2 f0w hRv y1 y2 hFo y3 hFi y4 hIv y5 hM y6 y7 hfr hN2 S' z9 e1 e9 hs hA B0 R0 S0 N0 F0 HP HB HG HG' HSc HN
    go_wp2_with (go_at_call 29; with_reducible refine hFN.out.mono ?_; rintro e w4 ⟨rfl, hF4, h6, cnt, fm, hM4, hfnd⟩; have F4 := hid hF4; have M4 := hid hM4; have N4 := hid hfnd; clear hF4 hM4 hfnd)
    go_ret
    refine ⟨bm, cnt, fm, rfl, M4.out, F3.out.trans F4.out (fun i hi q => by have := HP1.out; omega), N4.out.low F3.out.size, HBM.out⟩
  · refine ⟨fun _ => 0, undef, undef, undef, undef, undef, ?_, ⟨(Fr.refl _ W0).drew, fun q => by omega, fun q => by omega, fun q => by omega, fun q => by omega, fun q => by cases q⟩⟩
    rw [← hA, hF]
    kernel_rfl
end Go.Proofs.Qxb6615025a
