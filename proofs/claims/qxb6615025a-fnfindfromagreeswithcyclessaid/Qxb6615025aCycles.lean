-- Cycles (12).
import Derived.Test.Qxb6615025aCyc2
namespace Go.Proofs.Qxb6615025a
open Go.RowKit Go.MapKept

set_option maxRecDepth 100000 in
set_option maxHeartbeats 8000000 in
set_option linter.unusedSimpArgs false in
theorem cycles_any (b : Nat) (l : List (ByteArray × Value)) (ks : List ByteArray) (ra : Nat → Option Addr) (rl : Nat → List ByteArray) (rcp : Nat → Nat) (w : World) (n : Nat) (hN : Nm w b l ks ra rl rcp n) (lead : Nat) (hlead : lead < 9223372036854775808)
    (same : Nat → Nat → Bool) (hsame : ∀ u v, u < n → v < n → (same u v = true ↔ Rch (nx ks rl) u v ∧ Rch (nx ks rl) v u)) :
    Calls Try.prog 12 #[.map (some b), .int .i64 lead] w fun e w' => ∃ bm cnt fm, e = .returned (.map (some bm)) ∧ MapAt .string w' bm cnt fm ∧ Fr Nothing w w' ∧ Fds n lead ks (nx ks rl) (revAt (nx ks rl) n) same w.heap.size w' (fun _ => False) n fm ∧ w.heap.size ≤ bm := by
  have HSM := hid hsame
  clear hsame
  have H24 := hid (fun w' (hf : Fr Nothing w w') => numbered_any b l ks ra rl rcp w' n (hN.gm.fr hf (fun q => q)) hN.pm hN.so hN.kl hN.nn hN.sz (fun i s hi => ⟨(hN.va i s hi).1, (hN.va i s hi).2.fr hf⟩) hN.tt)
  have HN := hid hN
  have hn := hN.nn
  clear hN
  go_enter Try.func12, Try.ntmps12
  go_wp2_with (go_at_call 24; with_reducible refine (H24.out _ (Fr.refl _ w)).mono ?_; rintro e w1 ⟨aoi, ci2, bn, ao, c, rfl, hS1, hR1, hA1, hF1⟩; have S1 := hid hS1; have R1 := hid hR1; have A1 := hid hA1; have F1 := hid hF1; clear hS1 hR1 hA1 hF1)
  obtain ⟨p9, hp9⟩ : ∃ p9, p9 = w1.heap.size := ⟨_, rfl⟩
  rw [← hp9]
  have N0 := hid (show Rec (w1.alloc (Obj.cells #[Value.slice aoi n ci2, Value.slice (some ⟨bn, 0, none⟩) n n] 52)) p9 52 #[Value.slice aoi n ci2, Value.slice (some ⟨bn, 0, none⟩) n n] from Rec.newAt _ 52 p9 _ hp9.symm)
  have S0 := hid (show Sl (w1.alloc (Obj.cells #[Value.slice aoi n ci2, Value.slice (some ⟨bn, 0, none⟩) n n] 52)) 9 1 aoi n ci2 (strs ks) from S1.out.alloc _)
  have R0 := hid (R1.out.fr ((Fr.refl Nothing w1).alloc (Obj.cells #[Value.slice aoi n ci2, Value.slice (some ⟨bn, 0, none⟩) n n] 52)) (fun q => q) (fun _ _ _ _ q => q))
  have F0 := hid (show Fr Nothing w (w1.alloc (Obj.cells #[Value.slice aoi n ci2, Value.slice (some ⟨bn, 0, none⟩) n n] 52)) from F1.out.alloc _)
  have hsz1 := F1.out.size
  have A0 := hid (fun g (hg : blk aoi = some g) => (show g < p9 from hp9 ▸ S1.out.lt hg))
  have HP := hid (show w.heap.size ≤ p9 ∧ (∀ g, blk aoi = some g → w.heap.size ≤ g ∧ g < p9) ∧ w.heap.size ≤ bn ∧ bn < p9 ∧ (∀ i, i < n → ∀ b, blk (ao i) = some b → b < p9) by
    have hR := R1.out
    have hb1 := hR.hb
    refine ⟨by omega, fun g hg => ⟨(A1.out g hg).1, A0.out g hg⟩, hb1, by have := hR.adj.arr.lt; omega, fun i hi b hb => ?_⟩
    have := (hR.adj.row i hi).lt hb
    omega)
  have HW0 := hid (show (w1.alloc (Obj.cells #[Value.slice aoi n ci2, Value.slice (some ⟨bn, 0, none⟩) n n] 52)).heap.size = p9 + 1 by rw [World.size_alloc, hp9])
  clear hp9 hsz1 A0 S1 R1 A1 F1
  generalize w1.alloc (Obj.cells #[Value.slice aoi n ci2, Value.slice (some ⟨bn, 0, none⟩) n n] 52) = W0 at *
  generalize hids : Value.slice aoi n ci2 = idsv at *
  generalize hnxt : Value.slice (some (⟨bn, 0, none⟩ : Addr)) n n = nxtv at *
  have z9 := fun (w : World) (hw : Rec w p9 52 #[idsv, nxtv]) => hw.cell 0
  simp only [List.size_toArray, List.length_cons, List.length_nil, Nat.zero_add, Nat.reduceAdd, Nat.zero_lt_succ, getElem?_pos, List.getElem_toArray, List.getElem_cons_zero] at z9
  generalize hA : Act.mk _ _ = a0
  have hs : a0.tmps.size = 67 := by rw [← hA]; rfl
  have e1 : a0.eval (.tmp 1) = .int .i64 lead := by rw [← hA]; rfl
  have e9 : a0.eval (.tmp 5) = .pointer (some ⟨p9, 0, none⟩) := by rw [← hA]; rfl
  refine wp_region_tailn (fun w' => Rec w' p9 52 #[idsv, nxtv]) 19 20 rfl (by kernel_rfl) ?_
  have S' : (fun w' => Rec w' p9 52 #[idsv, nxtv]) W0.drew := N0.out
  refine wpAnyT_taked 0 (some 12) rfl rfl (by kernel_rfl) (fun _ _ _ h => h) S' (y_load52 (.tmp 5) rfl rfl p9 idsv nxtv (by simp [ev_other, ev_same, sz_put, hs, e9, e1]) (fun w hw => hw)) ?_
  refine wpAnyT_taked 1 (some 13) rfl rfl (by kernel_rfl) (fun _ _ _ h => h) S' (y_load52 (.tmp 5) rfl rfl p9 idsv nxtv (by simp [ev_other, ev_same, sz_put, hs, e9, e1]) (fun w hw => hw)) ?_
  refine wpAnyT_taked 3 (some 15) rfl rfl (by kernel_rfl) (fun _ _ _ h => h) S' (y_field 52 (.tmp 5) 0 rfl rfl ⟨p9, 0, none⟩ ⟨p9, 0, none⟩ (by simp [ev_other, ev_same, sz_put, hs, e9, e1]) (fun w => by kernel_rfl)) ?_
  refine wpAnyT_taked 4 (some 16) rfl rfl (by kernel_rfl) (fun _ _ _ h => h) S' (y_load 22 (.tmp 15) rfl rfl p9 0 (by simp [ev_other, ev_same, sz_put, hs, e9, e1]) idsv load22 z9) ?_
  refine wpAnyT_taked 5 (some 17) rfl rfl (by kernel_rfl) (fun _ _ _ h => h) S' (y_len22 (.tmp 16) rfl rfl aoi n ci2 (by simp [ev_other, ev_same, sz_put, hs, e9, e1, hids])) ?_
  refine wpAnyT_taked 7 (some 19) rfl rfl (by kernel_rfl) (fun _ _ _ h => h) S' (y_field 52 (.tmp 5) 0 rfl rfl ⟨p9, 0, none⟩ ⟨p9, 0, none⟩ (by simp [ev_other, ev_same, sz_put, hs, e9, e1]) (fun w => by kernel_rfl)) ?_
  refine wpAnyT_taked 8 (some 20) rfl rfl (by kernel_rfl) (fun _ _ _ h => h) S' (y_load 22 (.tmp 19) rfl rfl p9 0 (by simp [ev_other, ev_same, sz_put, hs, e9, e1]) idsv load22 z9) ?_
  refine wpAnyT_taked 9 (some 21) rfl rfl (by kernel_rfl) (fun _ _ _ h => h) S' (y_len22 (.tmp 20) rfl rfl aoi n ci2 (by simp [ev_other, ev_same, sz_put, hs, e9, e1, hids])) ?_
  refine wpAnyT_taked 11 (some 23) rfl rfl (by kernel_rfl) (fun _ _ _ h => h) S' (y_field 52 (.tmp 5) 0 rfl rfl ⟨p9, 0, none⟩ ⟨p9, 0, none⟩ (by simp [ev_other, ev_same, sz_put, hs, e9, e1]) (fun w => by kernel_rfl)) ?_
  refine wpAnyT_taked 12 (some 24) rfl rfl (by kernel_rfl) (fun _ _ _ h => h) S' (y_load 22 (.tmp 23) rfl rfl p9 0 (by simp [ev_other, ev_same, sz_put, hs, e9, e1]) idsv load22 z9) ?_
  refine wpAnyT_taked 13 (some 25) rfl rfl (by kernel_rfl) (fun _ _ _ h => h) S' (y_len22 (.tmp 24) rfl rfl aoi n ci2 (by simp [ev_other, ev_same, sz_put, hs, e9, e1, hids])) ?_
  refine wpAnyT_taked 15 (some 27) rfl rfl (by kernel_rfl) (fun _ _ _ h => h) S' (y_move (.tmp 1) rfl rfl) ?_
  obtain ⟨F, hF⟩ : ∃ F : Value → Value → Value → Value → Value → Act, F = fun v1 v2 v3 v4 v5 => ⟨#[.map (some b), .int .i64 lead, undef, undef, .map none, .pointer (some ⟨p9, 0, none⟩), undef, undef, undef, undef, .map (some b), .agg #[idsv, nxtv], .agg #[idsv, nxtv], .agg #[idsv, nxtv], v1, .pointer (some ⟨p9, 0, none⟩), idsv, .int .i64 n, v2, .pointer (some ⟨p9, 0, none⟩), idsv, .int .i64 n, v3, .pointer (some ⟨p9, 0, none⟩), idsv, .int .i64 n, v4, .int .i64 lead, v5, undef, undef, undef, undef, undef, undef, undef, undef, undef, undef, undef, undef, undef, undef, undef, undef, undef, undef, undef, undef, undef, undef, undef, undef, undef, undef, undef, undef, undef, undef, undef, undef, undef, undef, undef, undef, undef, undef], []⟩ := ⟨_, rfl⟩
  have q1 : ∀ v1 v2 v3 v4 v5 r, (F v1 v2 v3 v4 v5).put (some 14) r = F r v2 v3 v4 v5 := fun v1 v2 v3 v4 v5 r => by rw [hF]; kernel_rfl
  have q2 : ∀ v1 v2 v3 v4 v5 r, (F v1 v2 v3 v4 v5).put (some 18) r = F v1 r v3 v4 v5 := fun v1 v2 v3 v4 v5 r => by rw [hF]; kernel_rfl
  have q3 : ∀ v1 v2 v3 v4 v5 r, (F v1 v2 v3 v4 v5).put (some 22) r = F v1 v2 r v4 v5 := fun v1 v2 v3 v4 v5 r => by rw [hF]; kernel_rfl
  have q4 : ∀ v1 v2 v3 v4 v5 r, (F v1 v2 v3 v4 v5).put (some 26) r = F v1 v2 v3 r v5 := fun v1 v2 v3 v4 v5 r => by rw [hF]; kernel_rfl
  have q5 : ∀ v1 v2 v3 v4 v5 r, (F v1 v2 v3 v4 v5).put (some 28) r = F v1 v2 v3 v4 r := fun v1 v2 v3 v4 v5 r => by rw [hF]; kernel_rfl
  have f14 : ∀ v1 v2 v3 v4 v5, (F v1 v2 v3 v4 v5).eval (.tmp 13) = .agg #[idsv, nxtv] := fun v1 v2 v3 v4 v5 => by rw [hF]; rfl
  have f18 : ∀ v1 v2 v3 v4 v5, (F v1 v2 v3 v4 v5).eval (.tmp 17) = .int .i64 n := fun v1 v2 v3 v4 v5 => by rw [hF]; rfl
  have f22 : ∀ v1 v2 v3 v4 v5, (F v1 v2 v3 v4 v5).eval (.tmp 21) = .int .i64 n := fun v1 v2 v3 v4 v5 => by rw [hF]; rfl
  have f26 : ∀ v1 v2 v3 v4 v5, (F v1 v2 v3 v4 v5).eval (.tmp 25) = .int .i64 n := fun v1 v2 v3 v4 v5 => by rw [hF]; rfl
  have H25 := hid (show ∀ w', Fr Nothing W0 w' → Calls Try.prog 25 #[.agg #[idsv, nxtv]] w' fun e w'' => ∃ bv ao2 c2, e = .returned (.slice (some ⟨bv, 0, none⟩) n n) ∧ Rw w'.heap.size w'' bv n ao2 c2 (revAt (nx ks rl) n) ∧ Fr Nothing w' w'' from fun w' hf => by
    rw [← hnxt]
    refine reversed_any bn n idsv ao c (nx ks rl) w' hn (R0.out.adj.fr hf (fun q => q) (fun _ _ _ _ q => q)) (fun i hi x hx => ?_) (fun i hi => ?_) HN.out.rr
    · obtain ⟨s, _, hs⟩ := List.mem_filterMap.1 hx
      have := idx_lt hs
      rw [HN.out.kl] at this
      exact this
    · exact Nat.le_trans (List.length_filterMap_le _ _) (HN.out.tt i hi))
  have hbase : p9 + 1 ≤ W0.heap.size := by rw [HW0.out]; exact Nat.le_refl _
  refine chain4 (f := 3) (fun c m a w => ∃ own v1 v2 v3 v4 v5, a = F v1 v2 v3 v4 v5 ∧ PJ (p9 + 1) n (revAt (nx ks rl) n) W0 c m v1 v2 v3 v4 v5 w own) (i0 := 2) (i1 := 6) (i2 := 10) (i3 := 14) (im := 16)
    rfl rfl rfl rfl rfl rfl rfl rfl rfl rfl (by kernel_rfl) (by kernel_rfl) (by kernel_rfl) (by kernel_rfl) (by kernel_rfl) (by kernel_rfl) (by kernel_rfl) (by kernel_rfl) (by kernel_rfl)
    rfl rfl rfl rfl rfl rfl rfl rfl rfl rfl rfl rfl rfl ?_ ?_ ?_ ?_ ?_ ?_ ?_ _ _ ?_
  · rintro c m a w ⟨own, v1, v2, v3, v4, v5, rfl, h⟩
    exact N0.out.fr h.fr (fun q => q)
  · rintro m a w ⟨own, v1, v2, v3, v4, v5, rfl, h⟩
    refine wp_callf (r_call25 (.tmp 13) 52 _ rfl (f14 _ _ _ _ _)) (d := some 14) rfl ((H25.out w h.fr).mono ?_)
    rintro e w2 ⟨bv, ao2, c2, rfl, hR, hf⟩
    have := h.fr.size
    exact ⟨_, rfl, ownAt own w.heap.size 1, _, v2, v3, v4, v5, q1 _ _ _ _ _ _, ⟨h.fr.trans hf (fun _ _ q => q), fun _ => PA.new hR (by omega), fun q => by omega, fun q => by omega, fun q => by omega, fun q => (h.m q).up hf 1⟩⟩
  · rintro m a w ⟨own, v1, v2, v3, v4, v5, rfl, h⟩
    refine wp_callf (r_call26 (.tmp 17) 3 _ rfl (f18 _ _ _ _ _)) (d := some 18) rfl ((newForest_any n w hn).mono ?_)
    rintro e w2 ⟨bf, b0, b1, b2, b3, rfl, hR, hf, hb⟩
    have := h.fr.size
    exact ⟨_, rfl, ownAt own w.heap.size 2, v1, _, v3, v4, v5, q2 _ _ _ _ _ _, ⟨h.fr.trans hf (fun _ _ q => q), fun q => (h.a (by omega)).up hf 2, fun _ => PF.new hR (by omega) hb, fun q => by omega, fun q => by omega, fun q => (h.m q).up hf 2⟩⟩
  · rintro m a w ⟨own, v1, v2, v3, v4, v5, rfl, h⟩
    refine wp_callf (r_call26 (.tmp 21) 3 _ rfl (f22 _ _ _ _ _)) (d := some 22) rfl ((newForest_any n w hn).mono ?_)
    rintro e w2 ⟨bf, b0, b1, b2, b3, rfl, hR, hf, hb⟩
    have := h.fr.size
    exact ⟨_, rfl, ownAt own w.heap.size 3, v1, v2, _, v4, v5, q3 _ _ _ _ _ _, ⟨h.fr.trans hf (fun _ _ q => q), fun q => (h.a (by omega)).up hf 3, fun q => (h.o (by omega)).up hf 3, fun _ => PF.new hR (by omega) hb, fun q => by omega, fun q => (h.m q).up hf 3⟩⟩
  · rintro m a w ⟨own, v1, v2, v3, v4, v5, rfl, h⟩
    refine wp_callf (r_call27 (.tmp 25) 3 _ rfl (f26 _ _ _ _ _)) (d := some 26) rfl ((newIv_any n w hn).mono ?_)
    rintro e w2 ⟨bs, bt, rfl, hR, hf, hb⟩
    have := h.fr.size
    exact ⟨_, rfl, ownAt own w.heap.size 4, v1, v2, v3, _, v5, q4 _ _ _ _ _ _, ⟨h.fr.trans hf (fun _ _ q => q), fun q => (h.a (by omega)).up hf 4, fun q => (h.o (by omega)).up hf 4, fun q => (h.i (by omega)).up hf 4, fun _ => PI.new hR (by omega) hb, fun q => (h.m q).up hf 4⟩⟩
  · rintro c a w ⟨own, v1, v2, v3, v4, v5, rfl, h⟩
    have hf : Fr Nothing w (w.alloc (.map #[] 0)) := (Fr.refl _ w).alloc _
    have := h.fr.size
    refine wp_val _ _ (r_mkm rfl) (d := some 28) rfl ?_
    exact ⟨ownAt own w.heap.size 5, v1, v2, v3, v4, _, q5 _ _ _ _ _ _, ⟨h.fr.trans hf (fun _ _ q => q), fun q => (h.a q).up hf 5, fun q => (h.o q).up hf 5, fun q => (h.i q).up hf 5, fun q => (h.s q).up hf 5, fun _ => PM.new (by omega)⟩⟩
  · rintro a w2 ⟨own, v1, v2, v3, v4, v5, rfl, h⟩
    obtain ⟨bv, ao2, c2, rfl, hRv, y1, y2⟩ := (h.a (by omega)).ex
    obtain ⟨bfo, o0, o1, o2, o3, rfl, hFo, y3⟩ := (h.o (by omega)).ex
    obtain ⟨bfi, i0, i1, i2, i3, rfl, hFi, y4⟩ := (h.i (by omega)).ex
    obtain ⟨bs, bt, rfl, hIv, y5⟩ := (h.s (by omega)).ex
    obtain ⟨bm, rfl, hM, y6, y7⟩ := (h.m rfl).ex
    have hfr := h.fr
    clear h q1 q2 q3 q4 q5 f14 f18 f22 f26 H24 H25
    have hN2 : Rec w2 p9 52 #[idsv, nxtv] := N0.out.fr hfr (fun q => q)
    subst hF
    refine T_val 17 (some 29) rfl rfl (by kernel_rfl) rfl (.agg (cyc idsv nxtv (.slice (some ⟨bv, 0, none⟩) n n) bfo bfi lead (.map (some bm)) (.slice none 0 0) bs)) w2 (by kernel_rfl) (fun _ => hN2) ?_
    obtain ⟨w3, hw3⟩ : ∃ w3, w3 = w2.alloc (.cells (cyc idsv nxtv (.slice (some ⟨bv, 0, none⟩) n n) bfo bfi lead (.map (some bm)) (.slice none 0 0) bs) 61) := ⟨_, rfl⟩
    obtain ⟨bc, hbc⟩ : ∃ bc, bc = w2.heap.size := ⟨_, rfl⟩
    refine T_val 18 (some 30) rfl rfl (by kernel_rfl) rfl (.pointer (some ⟨bc, 0, none⟩)) w3 (by rw [hw3, hbc]; kernel_rfl) (fun _ => by rw [hw3]; exact hN2.alloc _) ?_
    refine T_val 19 (some 6) rfl rfl (by kernel_rfl) rfl (.pointer (some ⟨bc, 0, none⟩)) w3 (by kernel_rfl) (fun q => Bool.noConfusion ((show true = _ by kernel_rfl).trans q)) ?_
    refine wpAnyT_done (by kernel_rfl) ?_ _
    have f23 : Fr Nothing w2 w3 := by rw [hw3]; exact (Fr.refl _ w2).alloc _
    have f03 : Fr Nothing W0 w3 := hfr.trans f23 (fun _ _ q => q)
    have hC3 : Rec w3 bc 61 (cyc idsv nxtv (.slice (some ⟨bv, 0, none⟩) n n) bfo bfi lead (.map (some bm)) (.slice none 0 0) bs) := by rw [hw3]; exact Rec.newAt _ 61 bc _ hbc.symm
    have hs2 := hfr.size
    obtain ⟨hp1, hp2, hp3, hp4, hp5⟩ := HP.out
    have f0w : Fr Nothing w w3 := F0.out.trans f03 (fun _ _ q => q)
    subst hids
    subst hnxt
    have hMm : MapAt .string w3 bm 0 (fun _ => none) := hM.of_block (f23.block bm hM.lt (fun q => q))
    obtain ⟨E0, rfl, rfl, rfl, rfl, rfl, rfl, env, epv, efi, efo, hCS, hmem, hEl⟩ := cs_new w3 n lead ks aoi ci2 bn bv p9 bc bm bs bt bfi i0 i1 i2 i3 bfo o0 o1 o2 o3 (ownAt own w2.heap.size 6) hn hlead hC3
      ⟨by rw [ownAt, if_neg (by omega)], by omega⟩ (S0.out.fr f03 (fun _ _ q => q)) (fun g hg => (hp2 g hg).2)
      (hFo.fr f23 (fun _ _ q => q)) (fun b hb => ⟨by rw [ownAt, if_pos (hFo.lt b hb)]; exact (y3 b hb).1, by have := (y3 b hb).2; omega⟩)
      (hFi.fr f23 (fun _ _ q => q)) (fun b hb => ⟨by rw [ownAt, if_pos (hFi.lt b hb)]; exact (y4 b hb).1, by have := (y4 b hb).2; omega⟩)
      (hIv.fr f23 (fun q => q) (fun q => q) (fun _ _ q => q)) (fun b hb => ⟨by
        have : b < w2.heap.size := by
          simp only [List.mem_cons, List.not_mem_nil, or_false] at hb
          rcases hb with rfl | rfl
          · exact hIv.str.lt
          · exact Arr.lt hIv.top
        rw [ownAt, if_pos this]; exact (y5 b hb).1, by have := (y5 b hb).2; omega⟩)
      hMm ⟨by rw [ownAt, if_pos hM.lt]; exact y6, by omega⟩
    have hNl : ∀ i, i < E0.n → (nx E0.keys rl i).length ≤ 1048576 := fun i hi => Nat.le_trans (List.length_filterMap_le _ _) (HN.out.tt i hi)
    have hNx : ∀ i, ∀ x ∈ nx E0.keys rl i, x < E0.n := fun i x hx => by
      obtain ⟨s, _, hs⟩ := List.mem_filterMap.1 hx
      have := idx_lt hs
      rw [HN.out.kl] at this
      exact this
    have A3 := hid (R0.out.adj.fr f03 (fun q => q) (fun _ _ _ _ q => q))
    have A4 := hid (hRv.adj.fr f23 (fun q => q) (fun _ _ _ _ q => q))
    have H28 := hid (components_any bn E0.n ao c (nx E0.keys rl) w3 A3.out (fun i _ => hNx i) hNl hn)
    have N3 := hid (show Rec w3 p9 52 #[Value.slice E0.aoi E0.n ci2, Value.slice (some ⟨bn, 0, none⟩) E0.n E0.n] from N0.out.fr f03 (fun q => q))
    have F3 := hid f0w
    have HCS := hid hCS
    have HMM := hid hMm
    have HEL := hid (show ∀ b ∈ E0.blocks, b < w3.heap.size ∧ p9 < b from fun b hb => ⟨hEl b hb, (hmem b hb).1⟩)
    have HNL := hid hNl
    have HNX := hid hNx
    have HEQ := hid (show E0.nextv = .slice (some ⟨bn, 0, none⟩) E0.n E0.n ∧ E0.prevv = .slice (some ⟨bv, 0, none⟩) E0.n E0.n ∧ E0.fri = (fun _ => -2) ∧ E0.fro = (fun _ => -2) from ⟨env, epv, efi, efo⟩)
    have HS1 := hid (show ∀ b, b = bn ∨ (∃ i, i < E0.n ∧ blk (ao i) = some b) → b < p9 from fun b hb => by
      rcases hb with rfl | ⟨i, hi, hb⟩
      · exact hp4
      · exact hp5 i hi b hb)
    have HS2 := hid (show ∀ b, b = bv ∨ (∃ i, i < E0.n ∧ blk (ao2 i) = some b) → b ∉ E0.blocks ∧ b < w3.heap.size from fun b hb => by
      rcases hb with rfl | ⟨i, hi, hb⟩
      · refine ⟨fun q => ?_, Arr.lt A4.out.arr⟩
        have h1 := (hmem _ q).2
        rw [ownAt, if_pos hRv.adj.arr.lt, y1] at h1
        omega
      · refine ⟨fun q => ?_, (A4.out.row i hi).lt hb⟩
        have h1 := (hmem _ q).2
        rw [ownAt, if_pos ((hRv.adj.row i hi).lt hb), y2 i hi b hb] at h1
        omega)
    have HAO := hid (show ∀ g, blk E0.aoi = some g → g < p9 from fun g hg => (hp2 g hg).2)
    have HWP := hid (show w.heap.size ≤ p9 ∧ p9 < w3.heap.size from ⟨hp1, N3.out.lt⟩)
    have z1 := N3.out.cell 1
    simp only [List.size_toArray, List.length_cons, List.length_nil, Nat.zero_add, Nat.reduceAdd, Nat.reduceLT, getElem?_pos, List.getElem_toArray, List.getElem_cons_succ, List.getElem_cons_zero] at z1
    have hmk := fun w => run_make1 el44 rfl w E0.n (by omega)
    clear hw3 hbc f23 f03 hC3 hs2 f0w hRv y1 y2 hFo y3 hFi y4 hIv y5 hM y6 y7 hfr hN2 S' z9 e1 e9 hs hA R0 S0 N0 F0 HP HW0 hp1 hp2 hp3 hp4 hp5 hCS hMm hmem hEl env epv efi efo hNl hNx hbase
    go_wp2_with (go_at_call 28; with_reducible refine H28.out.mono ?_; rintro e w4 ⟨bC, cmp, rfl, hI4, hb4, hF4, hc4, hr4⟩; have I4 := hid hI4; have F4 := hid hF4; have HC4 := hid (And.intro hb4 hc4); have HR4 := hid hr4; have x4 := (N3.out.fr hF4 (fun q => q)).cell 0; simp only [List.size_toArray, List.length_cons, List.length_nil, Nat.zero_add, Nat.reduceAdd, Nat.zero_lt_succ, getElem?_pos, List.getElem_toArray, List.getElem_cons_zero] at x4; have hx4 := (N3.out.fr hF4 (fun q => q)).lt; clear hI4 hF4 hb4 hc4 hr4)
    obtain ⟨G, hGdef⟩ : ∃ G : Nat → List Nat, G = nx E0.keys rl := ⟨_, rfl⟩
    have HGD := hid hGdef
    clear hGdef
    obtain ⟨W5, hW5⟩ : ∃ W5, W5 = (w4.alloc (Obj.cells #[Value.slice (some ⟨bC, 0, none⟩) E0.n E0.n] 33)).alloc (Obj.cells (Array.ofFn fun _ : Fin E0.n => Value.bool false) 4) := ⟨_, rfl⟩
    obtain ⟨T, hT⟩ : ∃ T, T = W5.heap.size := ⟨_, rfl⟩
    generalize h7 : w4.heap.size + 1 = bh
    generalize h6 : w4.heap.size = p7
    have hsT : T = p7 + 1 + 1 := by rw [hT, hW5, World.size_alloc, World.size_alloc, h6]
    have f35 : Fr Nothing w3 W5 := by rw [hW5]; exact (F4.out.alloc _).alloc _
    have f45 : Fr Nothing w4 W5 := by rw [hW5]; exact ((Fr.refl _ w4).alloc _).alloc _
    have C5 := hid (show Rec W5 p7 33 #[.slice (some ⟨bC, 0, none⟩) E0.n E0.n] by rw [hW5]; exact (Rec.newAt w4 33 p7 _ h6).alloc _)
    have I5 := hid (Arr.fr I4.out f45 (fun q => q))
    have B5 := hid (show Bools W5 bh E0.n (fun _ => false) by rw [hW5]; exact Bools.newAt _ _ _ (by rw [World.size_alloc, h7]))
    have A5 := hid (A3.out.fr f35 (fun q => q) (fun _ _ _ _ q => q))
    have A6 := hid (A4.out.fr f35 (fun q => q) (fun _ _ _ _ q => q))
    have F5 := hid (F3.out.trans f35 (fun _ _ q => q))
    have hs34 := F4.out.size
    have L0 := hid (show Lp E0 G (revAt G E0.n) same T T 0 E0 W5 [] none 0 none 0 0 (fun _ => none) by
      refine ⟨⟨E0.fri, E0.dpi, E0.szi, E0.psi, E0.fro, E0.dpo, E0.szo, E0.pso, rfl⟩, HCS.out.fr f35 (fun _ _ q => q) (fun _ _ q => q), HMM.out.of_block (f35.block _ HMM.out.lt (fun q => q)), fun b hb => ?_, by omega, Nat.le_refl _, fun b hb => by simp [blk] at hb, fun v _ _ => ⟨by rw [HEQ.out.2.2.1], by rw [HEQ.out.2.2.2]⟩, fun u hu => by simp at hu, ⟨fun h v hh => absurd hh (Nat.not_lt_zero _), fun _ _ _ => rfl⟩⟩
      have := (HEL.out b hb).1
      have := f35.size
      omega)
    have HBK := hid (show bh < T ∧ p7 < T ∧ bC < T ∧ (∀ b ∈ E0.blocks, b ≠ bh ∧ b ≠ p7 ∧ b ≠ bC) ∧ bC ≠ bh ∧ p7 ≠ bh ∧ w.heap.size ≤ bh ∧ (∀ b ∈ E0.blocks, w.heap.size ≤ b) ∧ p9 < bh ∧ w3.heap.size ≤ bh by
      have h1 := Arr.lt I4.out
      have h2 := HC4.out.1
      have h3 := HWP.out
      refine ⟨by omega, by omega, by omega, fun b hb => ?_, by omega, by omega, by omega, fun b hb => ?_, by omega, by omega⟩
      · have := (HEL.out b hb).1
        omega
      · have := (HEL.out b hb).2
        omega)
    rw [← hW5]
    have HT := hid hT
    clear hW5 hT hsT f35 f45 h6 h7 hs34 A3 A4 I4 F3 F4 HCS HMM x4 hx4 z1 N3 H28 hmk
    go_loopg [41] E0.n (fun gg s41 wr => ∃ (i : Nat) (hub : Nat → Bool) (E : Env) (path : List Nat) (pao : Option Addr) (pc : Nat) (ao' : Option Addr) (c' cnt : Nat) (fm : Value → Option Value), gg + i = E0.n ∧ s41 = .int .i64 i ∧ Hid (Lp E0 G (revAt G E0.n) same T T i E wr path pao pc ao' c' cnt fm) ∧ Hid (Bools wr bh E0.n hub) ∧ Hid (∀ u, u < E0.n → (hub u = true ↔ ∃ h, h < i ∧ cmp h = (u : Int))) ∧ Hid (Fr (fun b => b ∈ E0.blocks ∨ b = bh) W5 wr))
    case atStart => exact ⟨0, _, E0, [], none, 0, none, 0, 0, _, by omega, rfl, L0, B5, hid (fun u _ => ⟨fun q => (by cases q), fun ⟨h, q, _⟩ => (by omega)⟩), hid (Fr.refl _ W5)⟩
    case round =>
      obtain ⟨i, hub, E, path, pao, pc, ao', c', cnt, fm, hgk, rfl, hL, hB, hH, hF⟩ := hrel
      by_cases hi : i < E0.n
      · have hci := HC4.out.2 i hi
        obtain ⟨ci, hcc⟩ : ∃ ci : Nat, cmp i = (ci : Int) := ⟨(cmp i).toNat, by omega⟩
        have hcn : ci < E0.n := by omega
        have C6 := hid (C5.out.fr hF.out (fun q => by
          rcases q with q | q
          · exact (HBK.out.2.2.2.1 _ q).2.1 rfl
          · exact HBK.out.2.2.2.2.2.1 q))
        have I6 := hid (Arr.fr I5.out hF.out (fun q => by
          rcases q with q | q
          · exact (HBK.out.2.2.2.1 _ q).2.2 rfl
          · exact HBK.out.2.2.2.2.1 q))
        have q1 := C6.out.cell 0
        have q2 := Ints.cell I6.out hi
        have q3 := Arr.cell hB.out hcn
        have q4 := Arr.frozen hB.out ci
        rw [hcc] at q2
        simp at q1
        have l1 := C6.out.lt
        have l2 := Arr.lt I6.out
        have l3 := Arr.lt hB.out
        have HCC := hid hcc
        have HFR := hid (fun (h : Nat) (hh : h < E0.n) => (show same h i = true ↔ cmp h = cmp i from (HSM.out h i hh hi).trans (HR4.out h i hh hi).symm))
        clear hci hcc
        obtain ⟨pi, hpi⟩ : ∃ pi, pi = wr.heap.size := ⟨_, rfl⟩
        have fa : Fr Nothing wr (wr.alloc (Obj.cells #[Value.int IntKind.i64 (i : Int)] 3)) := (Fr.refl _ wr).alloc _
        have L1 := hid (hL.out.fr fa (fun _ _ q => q) (fun _ _ q => q) (fun _ _ _ q => q))
        have B1 := hid (Arr.fr hB.out fa (fun q => q))
        have F1 := hid (hF.out.trans fa (fun _ _ q => q.elim))
        have FA := hid fa
        by_cases hub1 : hub ci = true
        · rw [hub1] at q3
          have HU1 := hid hub1
          clear hub1 fa
          go_wp2_with fail
          go_roundg (gk - 1)
          case measure => omega
          case rel =>
            obtain ⟨h, hh1, hh2⟩ := (hH.out ci hcn).1 HU1.out
            refine ⟨i + 1, hub, E, path, pao, pc, ao', c', cnt, fm, by omega, by go_num, hid (L1.out.skip ⟨h, hh1, (HFR.out h (by omega)).2 (by rw [hh2, HCC.out])⟩), B1, hid (fun u hu => ?_), F1⟩
            rw [hH.out u hu]
            constructor
            · rintro ⟨h', r1, r2⟩
              exact ⟨h', by omega, r2⟩
            · rintro ⟨h', r1, r2⟩
              by_cases e : h' = i
              · subst e
                exact ⟨h, hh1, by rw [hh2, ← HCC.out, r2]⟩
              · exact ⟨h', by omega, r2⟩
        · rw [Bool.not_eq_true] at hub1
          rw [hub1] at q3
          have HU1 := hid hub1
          clear hub1 fa
          have FB := hid (show Fr (fun b => b = bh) wr ((wr.setCell ⟨bh, ci, none⟩ (.bool true)).alloc (Obj.cells #[Value.int IntKind.i64 (i : Int)] 3)) from ((Fr.refl (fun b => b = bh) wr).setCell (p := ⟨bh, ci, none⟩) (fun _ => rfl) _).alloc _)
          have PI := hid (show Rec ((wr.setCell ⟨bh, ci, none⟩ (.bool true)).alloc (Obj.cells #[Value.int IntKind.i64 (i : Int)] 3)) pi 3 #[.int .i64 i] from Rec.newAt _ 3 pi _ (by rw [World.size_setCell]; exact hpi.symm))
          have B2 := hid (show Bools ((wr.setCell ⟨bh, ci, none⟩ (.bool true)).alloc (Obj.cells #[Value.int IntKind.i64 (i : Int)] 3)) bh E0.n (upd hub ci true) from Arr.alloc (Bools.set hB.out ci true) _)
          have L2 := hid (hL.out.fr FB.out (fun b hb q => (HBK.out.2.2.2.1 b hb).1 q) (fun b hb q => by have := HAO.out b hb; have := HBK.out.2.2.2.2.2.2.2.2.1; omega) (fun b h1 h2 q => by have := HBK.out.1; omega))
          have hFi : ∀ h, h < i → same h i = false := fun h hh => by
            cases q : same h i
            · rfl
            · have q5 := (HFR.out h (by omega)).1 q
              have := (hH.out ci hcn).2 ⟨h, hh, by rw [q5, HCC.out]⟩
              rw [HU1.out] at this
              cases this
          have A7 := hid (show Adj wr bn E0.n ao c G by
            rw [HGD.out]
            refine A5.out.fr hF.out (fun q => ?_) (fun j hj b hb q => ?_)
            · have h1 := HS1.out bn (.inl rfl)
              rcases q with q | q
              · have := (HEL.out _ q).2; omega
              · have := HBK.out.2.2.2.2.2.2.2.2.1; omega
            · have h1 := HS1.out b (.inr ⟨j, hj, hb⟩)
              rcases q with q | q
              · have := (HEL.out _ q).2; omega
              · have := HBK.out.2.2.2.2.2.2.2.2.1; omega)
          have A8 := hid (show Adj wr bv E0.n ao2 c2 (revAt G E0.n) by
            rw [HGD.out]
            refine A6.out.fr hF.out (fun q => ?_) (fun j hj b hb q => ?_)
            · have h1 := HS2.out bv (.inl rfl)
              rcases q with q | q
              · exact h1.1 q
              · have := HBK.out.2.2.2.2.2.2.2.2.2; omega
            · have h1 := HS2.out b (.inr ⟨j, hj, hb⟩)
              rcases q with q | q
              · exact h1.1 q
              · have := HBK.out.2.2.2.2.2.2.2.2.2; omega)
          have A9 := hid (A7.out.fr FB.out (fun q => by have := HS1.out bn (.inl rfl); have := HBK.out.2.2.2.2.2.2.2.2.1; omega) (fun j hj b hb q => by have := HS1.out b (.inr ⟨j, hj, hb⟩); have := HBK.out.2.2.2.2.2.2.2.2.1; omega))
          have A10 := hid (A8.out.fr FB.out (fun q => by have := HS2.out bv (.inl rfl); have := HBK.out.2.2.2.2.2.2.2.2.2; omega) (fun j hj b hb q => by have := HS2.out b (.inr ⟨j, hj, hb⟩); have := HBK.out.2.2.2.2.2.2.2.2.2; omega))
          have C7 := hid (C6.out.fr FB.out (fun q => HBK.out.2.2.2.2.2.1 q))
          have I7 := hid (Arr.fr I6.out FB.out (fun q => HBK.out.2.2.2.2.1 q))
          have HTw := hid (show T ≤ w3.heap.size ∨ w3.heap.size ≤ T by omega)
          have hX : ∀ b, (b = p7 ∨ b = bC ∨ b = pi) → ¬ (b ∈ E0.blocks ∨ blk pao = some b ∨ blk ao' = some b) := fun b hb q => by
            rcases hb with rfl | rfl | rfl
            · have h1 := HBK.out.2.1
              rcases q with q | q | q
              · exact (HBK.out.2.2.2.1 _ q).2.1 rfl
              · have := hL.out.pT _ (.inl q); omega
              · have := hL.out.pT _ (.inr q); omega
            · have h1 := HBK.out.2.2.1
              rcases q with q | q | q
              · exact (HBK.out.2.2.2.1 _ q).2.2 rfl
              · have := hL.out.pT _ (.inl q); omega
              · have := hL.out.pT _ (.inr q); omega
            · have h1 := hL.out.tw
              rcases q with q | q | q
              · have := hL.out.el _ q; omega
              · have := hL.out.cs.P.lt q; omega
              · have := hL.out.cs.I.held.lt q; omega
          have hFN := hid (find_next E0 G (revAt G E0.n) same T T i E ((wr.setCell ⟨bh, ci, none⟩ (.bool true)).alloc (Obj.cells #[Value.int IntKind.i64 (i : Int)] 3)) path pao pc ao' c' cnt fm bn bv ao ao2 c c2 30 #[.pointer (some ⟨p7, 0, none⟩), .pointer (some ⟨pi, 0, none⟩)]
            (sorted_nodup HN.out.so) HN.out.kl (by rw [HGD.out]; exact HSM.out) (by rw [HGD.out]; exact HNX.out) (fun u v => revAt_mem G E0.n v u) (by rw [HGD.out]; exact HNL.out) (fun j _ => by rw [HGD.out]; exact HN.out.rr E0.n (Nat.le_refl _) j)
            hi hFi L2.out HEQ.out.1 HEQ.out.2.1 A9.out A10.out
            (fun b hb => by
              have h1 := HS1.out b hb
              have h2 := HBK.out.1
              have h3 := HBK.out.2.2.2.2.2.2.2.2.1
              exact ⟨fun q => by have := (HEL.out _ q).2; omega, by omega⟩)
            (fun b hb => by
              have h1 := HS2.out b hb
              have h2 := HBK.out.1
              have h3 := HBK.out.2.2.2.2.2.2.2.2.2
              exact ⟨h1.1, by omega⟩)
            (fun _ _ => by kernel_rfl)
            (fun v w' hv hf => by
              have e1 : same i v = decide (cmp v = cmp i) := by
                rw [Bool.eq_iff_iff, HSM.out i v hi hv, decide_eq_true_iff, HR4.out v i hv hi]
                exact ⟨fun q => ⟨q.2, q.1⟩, fun q => ⟨q.2, q.1⟩⟩
              rw [e1]
              exact within_any p7 pi bC E0.n i v cmp w' hv hi ((C7.out.fr hf (hX _ (.inl rfl))).cell 0) ((PI.out.fr hf (hX _ (.inr (.inr rfl)))).cell 0) (Arr.fr I7.out hf (hX _ (.inr (.inl rfl))))))
          have HPI := hid hpi
          clear hX hFi A7 A8 A9 A10 C7 I7
          go_wp2_with (go_at_call 29; rw [← HPI.out]; with_reducible refine hFN.out.mono ?_; rintro e w6 ⟨rfl, hF6, E', path', pao', pc', ao6, c6, cnt', fm', hL6, hn6⟩; have F6 := hid hF6; have L6 := hid hL6; clear hF6 hL6 hn6)
          go_roundg (gk - 1)
          case measure => omega
          case rel =>
            refine ⟨i + 1, upd hub ci true, E', path', pao', pc', ao6, c6, cnt', fm', by omega, by go_num, L6, hid (Arr.fr B2.out F6.out (fun q => ?_)), hid (fun u hu => ?_), hid ((hF.out.trans FB.out (fun _ _ q => .inr q)).trans F6.out (fun b hb q => ?_))⟩
            · rcases q with q | q | q
              · exact (HBK.out.2.2.2.1 _ q).1 rfl
              · have := hL.out.pT _ (.inl q); have := HBK.out.1; omega
              · have := hL.out.pT _ (.inr q); have := HBK.out.1; omega
            · by_cases e : u = ci
              · subst e
                rw [upd_same]
                exact ⟨fun _ => ⟨i, by omega, HCC.out⟩, fun _ => rfl⟩
              · rw [upd_other _ _ e, hH.out u hu]
                constructor
                · rintro ⟨h', r1, r2⟩
                  exact ⟨h', by omega, r2⟩
                · rintro ⟨h', r1, r2⟩
                  by_cases e2 : h' = i
                  · subst e2
                    have := HCC.out
                    omega
                  · exact ⟨h', by omega, r2⟩
            · have := HT.out
              rcases q with q | q | q
              · exact .inl q
              · have := hL.out.pT _ (.inl q); omega
              · have := hL.out.pT _ (.inr q); omega
      · have hin : i = E0.n := by omega
        obtain ⟨x1, x2, x3, x4, y1, y2, y3, y4, hE⟩ := hL.out.eq
        have c6 := hL.out.cs.C.cell 6
        have e1 : E.bc = E0.bc := by rw [hE]; rfl
        have e2 : E.bm = E0.bm := by rw [hE]; rfl
        rw [e1, e2] at c6
        simp only [cyc, List.size_toArray, List.length_cons, List.length_nil, Nat.zero_add, Nat.reduceAdd, Nat.reduceLT, getElem?_pos, List.getElem_toArray, List.getElem_cons_succ, List.getElem_cons_zero] at c6
        have HIN := hid hin
        clear hE e1 e2 hin
        go_wp2_with fail
        go_ret
        have hFd := hL.out.fnd
        rw [HIN.out, HGD.out] at hFd
        have hwT : w.heap.size ≤ T := by have := F5.out.size; have := HT.out; omega
        refine ⟨E0.bm, cnt, fm, rfl, hL.out.map, F5.out.trans hF.out (fun b hb q => ?_), ⟨fun h v h1 h2 h3 h4 h5 h6 => ?_, hFd.none⟩, HBK.out.2.2.2.2.2.2.2.1 _ (by simp [Env.blocks])⟩
        · rcases q with q | q
          · have := HBK.out.2.2.2.2.2.2.2.1 _ q; omega
          · have := HBK.out.2.2.2.2.2.2.1; omega
        · obtain ⟨a, cc, r1, r2, r3⟩ := hFd.each h v h1 h2 h3 h4 h5 h6
          exact ⟨a, cc, r1, r2, fun b hb => ⟨Nat.le_trans hwT (r3 b hb).1, (r3 b hb).2.1, fun q => q⟩⟩
  · refine ⟨fun _ => 0, undef, undef, undef, undef, undef, ?_, ⟨(Fr.refl _ W0).drew, fun q => by omega, fun q => by omega, fun q => by omega, fun q => by omega, fun q => by cases q⟩⟩
    rw [← hA, hF]
    kernel_rfl
end Go.Proofs.Qxb6615025a
