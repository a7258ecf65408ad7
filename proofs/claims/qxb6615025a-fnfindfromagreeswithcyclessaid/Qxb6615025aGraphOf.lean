/- graphOf (11), the keys put in in order. -/
import Derived.Test.Qxb6615025aCheck
import Derived.Test.Qxb6615025aZff0
namespace Go.Proofs.Qxb6615025a
open Go.RowKit Go.MapKept

section
variable {P : Program} {Q : Exit → Act → World → Prop}
theorem wp_callg {o : Oper} {a : Act} {w : World} {K : Act → World → Prop} {f : FuncId} {args : Array Value} (hrun : (execOp a.eval o).run P w = .ok (.enter f args) w) {d : Option Nat} (hd : o.dst = d)
    (hc : Calls P f args w fun e w' => ∃ r, e = .returned r ∧ K (a.put d r) w') : o.wp P a w K Q := by
  unfold Oper.wp
  rw [hrun, Oper.upon_enter]
  refine hc.mono ?_
  rintro e w' ⟨r, rfl, hK⟩
  subst hd
  exact hK
end
theorem r_call23 {a : Act} {o : Oper} {w : World} (x y : Operand) (t u : TypeId) (v v' : Value) (ho : o.op = .call { callee := .value (.func 23), args := #[x, y], argTypes := #[t, u] }) (hx : a.eval x = v) (hy : a.eval y = v') :
    (execOp a.eval o).run Try.prog w = .ok (.enter 23 #[v, v']) w := by
  subst hx
  subst hy
  simp only [execOp, ho]
  kernel_rfl
section
variable {ops : Array Oper} {S : World → Prop} {L : Nat} {md : Region.Mode} {a : Act} {o : Oper} {w w' : World} {Q : Exit → Act → World → Prop} {fuel : Nat} {listed : Array Bool}
theorem T_upd (i : Nat) (hi : ops[i]? = some o) (hd : o.dst = none) (hr : Region.ready md ops listed = [i]) (hg : o.guard = none) (T : TypeId) (x y z : Operand) (ho : o.op = Op.mapUpdate T x y z) (m k v : Value)
    (hx : a.eval x = m) (hy : a.eval y = k) (hz : a.eval z = v) (w' : World) (hrun : (Instr.mapUpdate T m k v).run Try.prog w = .ok () w') (hS : (listed.setIfInBounds i true).getD L true = false → S w')
    (h : wpAnyT Try.prog md ops Q S L fuel (listed.setIfInBounds i true) a w') : wpAnyT Try.prog md ops Q S L (fuel + 1) listed a w := by
  refine wpAnyT_sole hi hr hg ?_
  unfold Oper.wp
  have e : (execOp a.eval o).run Try.prog w = .ok .skip w' := by
    simp only [execOp, ho, hx, hy, hz, Sem.run_bind, hrun, Result.andThen]
    rfl
  rw [e]
  show _ ∧ wpAnyT _ _ _ _ _ _ _ _ (a.put o.dst undef) w'
  rw [hd]
  exact ⟨hS, h⟩
end

/-- What the graph's map holds when k keys are in. -/
def gl (rl : List (List ByteArray)) (ra : Nat → Option Addr) (rc : Nat → Nat) (ks : List ByteArray) (src : List Nat) (k : Nat) : List (ByteArray × Value) :=
  (List.range k).map fun i => (ks.getD i ByteArray.empty, .slice (eA rl ra (src.getD i 0)) (rl.getD (src.getD i 0) []).length (eC rl rc (src.getD i 0)))

theorem gl_succ (rl : List (List ByteArray)) (ra : Nat → Option Addr) (rc : Nat → Nat) (ks : List ByteArray) (src : List Nat) (k : Nat) :
    gl rl ra rc ks src (k + 1) = gl rl ra rc ks src k ++ [(ks.getD k ByteArray.empty, .slice (eA rl ra (src.getD k 0)) (rl.getD (src.getD k 0) []).length (eC rl rc (src.getD k 0)))] := by
  simp [gl, List.range_succ]

set_option maxRecDepth 100000 in
set_option maxHeartbeats 8000000 in
set_option linter.unusedSimpArgs false in
theorem graphOf_any (w : World) (bm bx bd bsc bse n : Nat) (ks : List ByteArray) (src : List Nat) (ak : Option Addr) (ck : Nat) (as' : Option Addr) (cs : Nat) (v3 : Value) (D SC seen : Nat → Int) (t : Nat)
    (ae : Option Addr) (ce : Nat) (ra : Nat → Option Addr) (rc : Nat → Nat) (rl : List (List ByteArray))
    (h : MS w bm bx bd bsc bse n ks src ak ck as' cs v3 D SC seen t) (he : Edg w ae ra rc rl) :
    Calls Try.prog 11 #[.pointer (some ⟨bm, 0, none⟩), .slice ae rl.length ce, .bool false] w fun e w' => ∃ b, e = .returned (.map (some b)) ∧ GM w' b (gl rl ra rc ks src n) ∧ Fr Nothing w w' ∧ w.heap.size ≤ b := by
  have HM := hid h
  have HE := hid he
  have hnn := h.nn
  clear h he
  have hmm : ∀ w : World, (Instr.makeMap 30 none).run Try.prog w = .ok (.map (some w.heap.size)) (w.alloc (.map #[] 0)) := fun w => rfl
  obtain ⟨b, hb⟩ : ∃ b, b = w.heap.size := ⟨_, rfl⟩
  go_enter Try.func11, Try.ntmps11
  go_wp2
  rw [← hb]
  have G0 := hid (show GM (w.alloc (.map #[] 0)) b [] by rw [hb]; exact GM.made w)
  have F0 := hid (show Fr Nothing w (w.alloc (.map #[] 0)) from (Fr.refl _ w).alloc _)
  have HB := hid hb
  clear hb
  generalize w.alloc (.map #[] 0) = w0 at *
  go_loopg [8, 9] n (fun gg s8 s9 wr => ∃ (k : Nat), gg + k = n ∧ s8 = .int .i64 (k : Int) ∧ Hid (GM wr b (gl rl ra rc ks src k)) ∧ Hid (Fr Nothing w wr))
  case atStart => exact ⟨0, by omega, rfl, hid (by simpa [gl] using G0.out), F0⟩
  case round =>
    obtain ⟨k, hgk, rfl, hG, hF⟩ := hrel
    have M1 := hid (HM.out.fr hF.out (fun _ _ q => q) (fun _ _ q => q))
    have c0 := M1.out.st.cell 0
    have c1 := M1.out.st.cell 1
    have c2 := M1.out.st.cell 2
    simp only [List.size_toArray, List.length_cons, List.length_nil, Nat.zero_add, Nat.reduceAdd, Nat.reduceLT, Nat.zero_lt_succ, getElem?_pos, List.getElem_toArray, List.getElem_cons_succ, List.getElem_cons_zero] at c0 c1 c2
    by_cases hk : k < n
    · have hkl : k < ks.length := by rw [HM.out.kl]; exact hk
      have hks : k < src.length := by rw [HM.out.sl]; exact hk
      obtain ⟨gk1, hgk1, q1⟩ := M1.out.k.cell (j := k) (v := .string (ks.getD k ByteArray.empty)) (by simp [strs, hkl])
      obtain ⟨gs1, hgs1, q2⟩ := M1.out.s.cell (j := k) (v := .int .i64 ((src.getD k 0 : Nat) : Int)) (by simp [ints, hks])
      obtain ⟨sx, hsx⟩ : ∃ sx, src.getD k 0 = sx := ⟨_, rfl⟩
      obtain ⟨kx, hkx⟩ : ∃ kx, ks.getD k ByteArray.empty = kx := ⟨_, rfl⟩
      rw [hsx] at q2
      rw [hkx] at q1
      have H23 := hid (fun w' (hf : Fr Nothing w w') => zzEdgesOf_any ae ce ra rc rl sx w' (HE.out.fr hf))
      have hnew : kx ∉ (gl rl ra rc ks src k).map Prod.fst := fun q => by
        simp only [gl, List.map_map, List.mem_map, List.mem_range, Function.comp] at q
        obtain ⟨i, hi, e⟩ := q
        have h1 : ks[i]? = ks[k]? := by
          rw [← hkx] at e
          have hi2 : i < ks.length := by omega
          simp only [List.getD_eq_getElem?_getD, List.getElem?_eq_getElem hi2, List.getElem?_eq_getElem hkl, Option.getD_some] at e
          rw [List.getElem?_eq_getElem hi2, List.getElem?_eq_getElem hkl, e]
        have := (List.getElem?_inj (by omega) HM.out.kn).1 h1
        omega
      subst hgk1
      subst hgs1
      obtain ⟨w5, hrun, hG5, hf5⟩ := GM.update (show GM wr.drew b (gl rl ra rc ks src k) from hG.out) hnew (.slice (eA rl ra sx) (rl.getD sx []).length (eC rl rc sx)) und30 Try.underlying9
      have G5 := hid (show GM w5 b (gl rl ra rc ks src (k + 1)) by rw [gl_succ, hsx, hkx]; exact hG5)
      have F5 := hid (show Fr Nothing w w5 from hF.out.drew.trans hf5 (fun i hi q => by have := HB.out; omega))
      have H23' := hid (H23.out wr.drew hF.out.drew)
      clear hG5 hf5 hnew hsx hkx
      go_upto_region 8 with fail
      generalize hA : Act.mk _ _ = a0
      have hs : a0.tmps.size = 46 := by rw [← hA]; rfl
      have e0 : a0.eval (.tmp 0) = .pointer (some ⟨bm, 0, none⟩) := by rw [← hA]; rfl
      have e1 : a0.eval (.tmp 1) = .slice ae rl.length ce := by rw [← hA]; rfl
      have e7 : a0.eval (.tmp 7) = .map (some b) := by rw [← hA]; rfl
      have e9 : a0.eval (.tmp 9) = .int .i64 k := by rw [← hA]; rfl
      refine wp_region_tailn (fun w' => w'.cell? ⟨bm, 1, none⟩ = some (.slice (some ⟨gk1, 0, none⟩) n ck) ∧ w'.cell? ⟨gk1, 0 + k, none⟩ = some (.string kx) ∧ w'.cell? ⟨bm, 2, none⟩ = some (.slice (some ⟨gs1, 0, none⟩) n cs) ∧ w'.cell? ⟨gs1, k, none⟩ = some (.int .i64 (sx : Int))) 17 18 rfl (by kernel_rfl) ?_
      have S0 : (fun w' : World => w'.cell? ⟨bm, 1, none⟩ = some (.slice (some ⟨gk1, 0, none⟩) n ck) ∧ w'.cell? ⟨gk1, 0 + k, none⟩ = some (.string kx) ∧ w'.cell? ⟨bm, 2, none⟩ = some (.slice (some ⟨gs1, 0, none⟩) n cs) ∧ w'.cell? ⟨gs1, k, none⟩ = some (.int .i64 (sx : Int))) wr.drew := ⟨c1, by rw [Nat.zero_add]; exact q1, c2, q2⟩
      refine wpAnyT_taked 0 (some 28) rfl rfl (by kernel_rfl) (fun _ _ _ h => h) S0 (y_move _ rfl rfl) ?_
      refine wpAnyT_taked 1 (some 29) rfl rfl (by kernel_rfl) (fun _ _ _ h => h) S0 (y_move _ rfl rfl) ?_
      refine wpAnyT_taked 2 (some 30) rfl rfl (by kernel_rfl) (fun _ _ _ h => h) S0 (y_nil _ rfl rfl ⟨bm, 0, none⟩ (by simp [ev_other, ev_same, sz_put, hs, e0, e1, e7, e9])) ?_
      refine wpAnyT_taked 3 (some 31) rfl rfl (by kernel_rfl) (fun _ _ _ h => h) S0 (y_field 37 _ 1 rfl rfl ⟨bm, 0, none⟩ ⟨bm, 1, none⟩ (by simp [ev_other, ev_same, sz_put, hs, e0, e1, e7, e9]) (fun w => by kernel_rfl)) ?_
      refine wpAnyT_taked 4 (some 32) rfl rfl (by kernel_rfl) (fun _ _ _ h => h) S0 (y_load 22 _ rfl rfl bm 1 (by simp [ev_other, ev_same, sz_put, hs, e0, e1, e7, e9]) _ ld22 (fun w hw => hw.1)) ?_
      refine wpAnyT_taked 5 (some 33) rfl rfl (by kernel_rfl) (fun _ _ _ h => h) S0 (y_move _ rfl rfl) ?_
      refine wpAnyT_taked 6 (some 34) rfl rfl (by kernel_rfl) (fun _ _ _ h => h) S0 (y_idx22 _ _ rfl rfl gk1 0 n ck k (by simp [ev_other, ev_same, sz_put, hs, e0, e1, e7, e9]) (by simp [ev_other, ev_same, sz_put, hs, e0, e1, e7, e9]) hk) ?_
      refine wpAnyT_taked 7 (some 35) rfl rfl (by kernel_rfl) (fun _ _ _ h => h) S0 (y_load 9 _ rfl rfl gk1 (0 + k) (by simp [ev_other, ev_same, sz_put, hs, e0, e1, e7, e9]) _ ld9 (fun w hw => hw.2.1)) ?_
      refine wpAnyT_taked 8 (some 36) rfl rfl (by kernel_rfl) (fun _ _ _ h => h) S0 (y_move _ rfl rfl) ?_
      refine wpAnyT_taked 9 (some 37) rfl rfl (by kernel_rfl) (fun _ _ _ h => h) S0 (y_move _ rfl rfl) ?_
      refine wpAnyT_taked 10 (some 38) rfl rfl (by kernel_rfl) (fun _ _ _ h => h) S0 (y_nil _ rfl rfl ⟨bm, 0, none⟩ (by simp [ev_other, ev_same, sz_put, hs, e0, e1, e7, e9])) ?_
      refine wpAnyT_taked 11 (some 39) rfl rfl (by kernel_rfl) (fun _ _ _ h => h) S0 (y_field 37 _ 2 rfl rfl ⟨bm, 0, none⟩ ⟨bm, 2, none⟩ (by simp [ev_other, ev_same, sz_put, hs, e0, e1, e7, e9]) (fun w => by kernel_rfl)) ?_
      refine wpAnyT_taked 12 (some 40) rfl rfl (by kernel_rfl) (fun _ _ _ h => h) S0 (y_load 33 _ rfl rfl bm 2 (by simp [ev_other, ev_same, sz_put, hs, e0, e1, e7, e9]) _ load33 (fun w hw => hw.2.2.1)) ?_
      refine wpAnyT_taked 13 (some 41) rfl rfl (by kernel_rfl) (fun _ _ _ h => h) S0 (y_move _ rfl rfl) ?_
      refine wpAnyT_taked 14 (some 42) rfl rfl (by kernel_rfl) (fun _ _ _ h => h) S0 (y_idx _ _ 33 rfl rfl gs1 n cs k ⟨gs1, k, none⟩ (by simp [ev_other, ev_same, sz_put, hs, e0, e1, e7, e9]) (by simp [ev_other, ev_same, sz_put, hs, e0, e1, e7, e9]) (fun w => idx33 w _ _ _ _ hk)) ?_
      refine wpAnyT_taked 15 (some 43) rfl rfl (by kernel_rfl) (fun _ _ _ h => h) S0 (y_load 3 _ rfl rfl gs1 k (by simp [ev_other, ev_same, sz_put, hs, e0, e1, e7, e9]) _ load3 (fun w hw => hw.2.2.2)) ?_
      refine wpAnyT_sole (i := 16) rfl (by kernel_rfl) rfl (wp_callg (r_call23 (.tmp 36) (.tmp 43) 23 3 (.slice ae rl.length ce) (.int .i64 sx) rfl (by simp [ev_other, ev_same, sz_put, hs, e0, e1, e7, e9]) (by simp [ev_other, ev_same, sz_put, hs, e0, e1, e7, e9])) (d := some 44) rfl (H23'.out.mono ?_))
      rintro e w' ⟨rfl, rfl⟩
      refine ⟨_, rfl, fun _ => S0, ?_⟩
      refine T_upd 17 rfl rfl (by kernel_rfl) rfl 30 (.tmp 28) (.tmp 35) (.tmp 44) rfl (.map (some b)) (.string kx) (.slice (eA rl ra sx) (rl.getD sx []).length (eC rl rc sx)) (by simp [ev_other, ev_same, sz_put, hs, e0, e1, e7, e9]) (by simp [ev_other, ev_same, sz_put, hs, e0, e1, e7, e9]) (by simp [ev_other, ev_same, sz_put, hs, e0, e1, e7, e9]) w5 hrun (fun q => Bool.noConfusion ((show true = _ by kernel_rfl).trans q)) ?_
      refine wpAnyT_done (by kernel_rfl) ?_ _
      subst hA
      clear S0 c0 c1 c2 q1 q2 hs e0 e1 e7 e9 H23 H23' hrun
      go_wp2_with fail
      go_roundg (gk - 1)
      case measure => omega
      case rel => exact ⟨k + 1, by omega, by go_num, G5, F5⟩
    · go_wp2
      go_ret
      have : k = n := by omega
      subst this
      exact ⟨b, rfl, hG.out, hF.out, by rw [HB.out]; exact Nat.le_refl _⟩
end Go.Proofs.Qxb6615025a
