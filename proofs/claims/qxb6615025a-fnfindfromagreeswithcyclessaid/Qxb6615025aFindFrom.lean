/- findFrom (29). -/
import Derived.Test.Qxb6615025aPlan
namespace Go.Proofs.Qxb6615025a
open Go.RowKit

set_option maxRecDepth 100000 in
set_option maxHeartbeats 8000000 in
theorem findFrom_any (E : Env) (w : World) (p00 : List Nat) (pao : Option Addr) (pc : Nat) (ao : Option Addr) (c : Nat) (bn bv : Nat) (ao1 ao2 : Nat → Option Addr) (c1 c2 : Nat → Nat) (g gp : Nat → List Nat) (f : Nat) (cap : Array Value) (within : Nat → Bool) (X : Nat → Prop) (hub : Nat)
    (G G' : GS) (E4 : Env) (od : List Nat) (tr : Nat → Nat) (ch : Nat → List Nat) (L : Nat → Nat) (ld : Nat → List Nat) (cnt : Nat) (f0 : Value → Option Value)
    (h : CS E w p00 pao pc ao c) (hc : Call E w bn bv ao1 ao2 c1 c2 g gp f cap within X) (hX : ∀ b ∈ E.blocks, X b) (hX2 : ∀ b, blk pao = some b ∨ blk ao = some b → X b) (hhub : hub < E.n)
    (hmap : MapAt .string w E.bm cnt f0) (hEl : ∀ b ∈ E.blocks, b < w.heap.size)
    (hG : growL within gp (E.n + 1) 0 (grow0 E.fri E.dpi hub) = G) (hG' : growL within g (E.n + 1) 0 (grow0 E.fro E.dpo hub) = G')
    (hE4 : E4 = (E.withIn G.fr G.dp (sizeF G.fr G.rc E.szi) (posF G.fr G.rc (sizeF G.fr G.rc E.szi) E.psi)).withOut G'.fr G'.dp (sizeF G'.fr G'.rc E.szo) (posF G'.fr G'.rc (sizeF G'.fr G'.rc E.szo) E.pso))
    (hpi : 0 ≤ stepL within G.dp (g hub) (-1) → PreOk G.fr G.rc E.szi E.psi ∧ PreOk G'.fr G'.rc E.szo E.pso ∧ (∀ u ∈ p00, E4.psi u = E.psi u ∧ E4.szi u = E.szi u) ∧ od.length = G'.rc.length ∧
      (∀ k, k < od.length → orderF G'.rc E4.pso k = (od.getD k 0 : Int)) ∧ Plan E4 hub (stepL within G.dp (g hub) (-1)).toNat p00 od tr ch L ld) :
    Calls Try.prog 29 #[.pointer (some ⟨E.bc, 0, none⟩), .int .i64 hub, .func (.func f) #[] cap] w fun e w' => e = .returned (.tuple #[]) ∧ Fr X w w' ∧
      (stepL within G.dp (g hub) (-1) < 0 → CS (E.withIn G.fr G.dp E.szi E.psi) w' p00 pao pc ao c ∧ MapAt .string w' E.bm cnt f0 ∧ Fr (fun k => k = E.i0 ∨ k = E.i1) w w') ∧
      (0 ≤ stepL within G.dp (g hub) (-1) → ∃ pao' pc' ao' c' cnt' f', CS E4 w' (paths E4.dpo p00 od od.length) pao' pc' ao' c' ∧ MapAt .string w' E.bm cnt' f' ∧ Got E4 w.heap.size w' pao' ao' od L ld f0 f' ∧ (∀ b, blk pao' = some b → blk pao = some b ∨ w.heap.size ≤ b) ∧ (∀ b, blk ao' = some b → blk ao = some b ∨ w.heap.size ≤ b)) := by
  have HPI := hid hpi
  have HM := hid hmap
  have HX2 := hid hX2
  have HEl := hid hEl
  have HE4 := hid hE4
  have HG := hid hG
  have HG' := hid hG'
  clear hpi hmap hX2 hEl hE4 hG hG'
  have d4 := h.C.cell 4
  have d2 := h.C.cell 2
  simp [cyc] at d4 d2
  rw [hc.pv] at d2
  have H := hid h
  have HC := hid hc
  have HX := hid hX
  have hcf := hc.hcf
  have hnn := h.nn
  clear h hc hX
  have hmem : ∀ b, b ∈ [E.i0, E.i1, E.i2, E.i3] → b ∈ E.blocks := fun b hb => List.mem_cons_of_mem _ (List.mem_of_mem_drop (i := 4) (List.mem_of_mem_take (i := 4) (l := E.rest.drop 4) hb))
  have GR := hid (grow_any E.bfi E.i0 E.i1 E.i2 E.i3 E.n E.fri E.dpi E.szi E.psi bv ao2 c2 gp hub f cap within w.drew (H.out.Fi.drew) (HC.out.a2.fr (M := Nothing) ((Fr.refl _ w).drew) (fun q => q) (fun _ _ _ _ q => q)) (fun i hi => (HC.out.l2 i hi).1) (fun i hi => (HC.out.l2 i hi).2) hhub hnn hcf
    (fun v w' hv hf => HC.out.hw v w' hv (((Fr.refl X w).drew).trans hf (fun b _ q => HX.out b (hmem b (by rcases q with q | q <;> simp [q])))))
    ⟨fun q => HC.out.s2 bv (.inl rfl) (HX.out bv (hmem bv (by simp [q]))), fun q => HC.out.s2 bv (.inl rfl) (HX.out bv (hmem bv (by simp [q])))⟩
    (fun i hi => ⟨fun q => HC.out.s2 E.i0 (.inr ⟨i, hi, q⟩) (HX.out _ (hmem _ (by simp))), fun q => HC.out.s2 E.i1 (.inr ⟨i, hi, q⟩) (HX.out _ (hmem _ (by simp)))⟩))
  rw [HG.out] at GR
  have hmem2 := hid hmem
  have NB := hid (And.intro (nd_ne (List.nodup_cons.1 H.out.nd).2 (i := 0) (j := 4) (a := E.bc) (b := E.i0) rfl rfl (by decide)) (nd_ne (List.nodup_cons.1 H.out.nd).2 (i := 0) (j := 5) (a := E.bc) (b := E.i1) rfl rfl (by decide)))
  clear hmem
  go_enter Try.func29, Try.ntmps29
  go_upto_region 0 with fail
  go_region_held3 (fun w' => w'.cell? ⟨E.bc, 4, none⟩ = some (.pointer (some ⟨E.bfi, 0, none⟩)) ∧ w'.cell? ⟨E.bc, 2, none⟩ = some (.slice (some ⟨bv, 0, none⟩) E.n E.n))
    (((try simp only [World.cell?_drew]); refine ⟨?_, ?_⟩ <;> with_reducible assumption))
    ((go_at_call 37; refine GR.out.mono ?_; rintro e w1 ⟨br, cr, rfl, g1, g2, g3, g4, g5⟩; have e4 := g3.cell d4 (fun q => q.elim NB.out.1 NB.out.2); have e2 := g3.cell d2 (fun q => q.elim NB.out.1 NB.out.2)))
  have cs1 := hid (H.out.drew.setIn (fr := G.fr) (dp := G.dp) (sz := E.szi) (ps := E.psi) (g3.mono (fun i _ q => by rcases q with q | q <;> simp [q])) g2 (fun _ _ => ⟨rfl, rfl⟩))
  have fx1 := hid (show Fr X w w1 from ((Fr.refl X w).drew).trans g3 (fun b _ q => HX.out b (hmem2.out b (by rcases q with q | q <;> simp [q]))))
  have A1 := hid (HC.out.a1.fr fx1.out (HC.out.s1 bn (.inl rfl)) (fun i hi b hb => HC.out.s1 b (.inr ⟨i, hi, hb⟩)))
  have rc1 := hid g1
  have gi1 := hid g5
  have fy1 := hid (show Fr (fun k => k = E.i0 ∨ k = E.i1) w w1 from ((Fr.refl _ w).drew).trans g3 (fun _ _ q => q))
  have hbr : w.heap.size ≤ br := g4
  clear d4 d2 e4 e2 g1 g2 g3 g4 g5
  have d1 : w1.cell? ⟨E.bc, 1, none⟩ = some (.slice (some ⟨bn, 0, none⟩) E.n E.n) := by
    have := cs1.out.C.cell 1
    simp [cyc, Env.withIn, HC.out.nv] at this
    exact this
  have q1 := Arr.cell A1.out.arr hhub
  obtain ⟨au, hau⟩ : ∃ au, ao1 hub = au := ⟨_, rfl⟩
  rw [hau] at q1
  have hgu := (HC.out.l1 hub hhub).2
  go_wp2_with fail
  go_loopg [8, 10, 44] (g hub).length (fun gg s8 s10 s44 wr => ∃ (i : Nat) (st : Int), gg + i = (g hub).length ∧ s44 = .int .i64 (i : Int) ∧ s8 = .int .i64 st ∧ -1 ≤ st ∧ st < E.n ∧ Hid (stepL within G.dp ((g hub).drop i) st = stepL within G.dp (g hub) (-1)) ∧ ∃ m, wr = w1.drewN m)
  case atStart => exact ⟨0, -1, by omega, rfl, rfl, by omega, by omega, hid rfl, 0, rfl⟩
  case round => as_aux_lemma =>
    obtain ⟨i, st, hgi, rfl, rfl, hst1, hst2, hL, m, rfl⟩ := hrel
    by_cases hi : i < (g hub).length
    · have hv : (g hub)[i] < E.n := (HC.out.l1 hub hhub).1 _ (List.getElem_mem hi)
      have hL2 := hL.out
      rw [List.drop_eq_getElem_cons hi] at hL2
      have hx : (ints (g hub))[i]? = some (.int .i64 ((g hub)[i] : Int)) := by simp [ints, hi]
      obtain ⟨v, hvv⟩ : ∃ v, (g hub)[i] = v := ⟨_, rfl⟩
      rw [hvv] at hv hx hL2
      obtain ⟨bx, hbx, q3⟩ := (A1.out.row hub hhub).cell hx
      rw [hau] at hbx
      have HL2 := hid hL2
      have d4 : w1.cell? ⟨E.bc, 4, none⟩ = some (.pointer (some ⟨E.bfi, 0, none⟩)) := by
        have := cs1.out.C.cell 4
        simp [cyc, Env.withIn] at this
        exact this
      have f1 : w1.cell? ⟨E.bfi, 1, none⟩ = some (.slice (some ⟨E.i1, 0, none⟩) E.n E.n) := by
        have := cs1.out.Fi.str.cell 1
        simp [Env.withIn] at this
        exact this
      have e1 : w1.cell? ⟨E.i1, v, none⟩ = some (.int .i64 (G.dp v)) := cs1.out.Fi.i1.cell hv
      have WC := hid (fun W hW => HC.out.hw v W hv hW)
      clear hL2 hx hvv hL
      by_cases hwv : within v = true
      · by_cases hneg : st < 0
        · have hstep : stepL within G.dp ((g hub).drop (i + 1)) v = stepL within G.dp (g hub) (-1) := by
            rw [← HL2.out]
            simp only [stepL, List.foldl_cons]
            rw [if_pos ⟨hwv, .inl hneg⟩]
          have HSTEP := hid hstep
          clear hstep
          go_upto_region 5 with fail
          go_quiet ((refine (WC.out _ (fx1.out.drewN _)).mono ?_; rintro e w'' ⟨he, k, rfl⟩; rw [hwv] at he; exact ⟨he, _, by rw [World.drewN_drewN, Nat.add_assoc]⟩))
          go_wp2_with fail
          try rw [← hbx]
          go_roundg (gk - 1)
          case measure => omega
          case rel => exact ⟨i + 1, v, by omega, by go_num, rfl, by omega, by omega, HSTEP, _, rfl⟩
        · obtain ⟨sn, rfl⟩ : ∃ sn : Nat, st = sn := ⟨st.toNat, by omega⟩
          have hsn : sn < E.n := by omega
          have e2 : w1.cell? ⟨E.i1, sn, none⟩ = some (.int .i64 (G.dp sn)) := cs1.out.Fi.i1.cell hsn
          by_cases hlt : G.dp v < G.dp sn
          · have hstep : stepL within G.dp ((g hub).drop (i + 1)) v = stepL within G.dp (g hub) (-1) := by
              rw [← HL2.out]
              simp only [stepL, List.foldl_cons]
              rw [if_pos ⟨hwv, .inr (by simpa using hlt)⟩]
            have HSTEP := hid hstep
            clear hstep hneg
            go_upto_region 5 with fail
            go_quiet ((refine (WC.out _ (fx1.out.drewN _)).mono ?_; rintro e w'' ⟨he, k, rfl⟩; rw [hwv] at he; exact ⟨he, _, by rw [World.drewN_drewN, Nat.add_assoc]⟩))
            go_wp2_with fail
            try rw [← hbx]
            go_roundg (gk - 1)
            case measure => omega
            case rel => exact ⟨i + 1, v, by omega, by go_num, rfl, by omega, by omega, HSTEP, _, rfl⟩
          · have hstep : stepL within G.dp ((g hub).drop (i + 1)) sn = stepL within G.dp (g hub) (-1) := by
              rw [← HL2.out]
              simp only [stepL, List.foldl_cons]
              rw [if_neg (by intro q; rcases q.2 with q | q; exact hneg q; exact hlt (by simpa using q))]
            have HSTEP := hid hstep
            clear hstep hneg
            go_upto_region 5 with fail
            go_quiet ((refine (WC.out _ (fx1.out.drewN _)).mono ?_; rintro e w'' ⟨he, k, rfl⟩; rw [hwv] at he; exact ⟨he, _, by rw [World.drewN_drewN, Nat.add_assoc]⟩))
            go_wp2_with fail
            try rw [← hbx]
            go_roundg (gk - 1)
            case measure => omega
            case rel => exact ⟨i + 1, sn, by omega, by go_num, rfl, by omega, by omega, HSTEP, _, rfl⟩
      · have hwv' : within v = false := by simpa using hwv
        have hstep : stepL within G.dp ((g hub).drop (i + 1)) st = stepL within G.dp (g hub) (-1) := by
          rw [← HL2.out]
          simp only [stepL, List.foldl_cons]
          rw [if_neg (by intro q; exact hwv q.1)]
        have HSTEP := hid hstep
        clear hstep hwv
        go_upto_region 5 with fail
        go_quiet ((refine (WC.out _ (fx1.out.drewN _)).mono ?_; rintro e w'' ⟨he, k, rfl⟩; rw [hwv'] at he; exact ⟨he, _, by rw [World.drewN_drewN, Nat.add_assoc]⟩))
        go_wp2_with fail
        try rw [← hbx]
        go_roundg (gk - 1)
        case measure => omega
        case rel => exact ⟨i + 1, st, by omega, by go_num, rfl, by omega, by omega, HSTEP, _, rfl⟩
    · have hii : i = (g hub).length := by omega
      have hS : st = stepL within G.dp (g hub) (-1) := by
        have := hL.out
        rw [hii, List.drop_length] at this
        exact this
      have HS := hid hS
      clear hS hL
      by_cases hneg : st < 0
      · go_wp2_with fail
        refine bodyPost_ret (results_none rfl _ _ _) rfl ?_
        refine ⟨rfl, fx1.out.drewN _, fun _ => ⟨cs1.out.drewN _, ?_, fy1.out.drewN _⟩, fun q => ?_⟩
        · exact (HM.out.of_block (fy1.out.block _ HM.out.lt (by
            have hn := List.nodup_cons.1 H.out.nd
            rintro (q | q)
            · exact hn.1 (by rw [q]; simp [Env.rest])
            · exact hn.1 (by rw [q]; simp [Env.rest])))).of_block rfl
        · rw [← HS.out] at q; omega
      · obtain ⟨sn, rfl⟩ : ∃ sn : Nat, st = sn := ⟨st.toNat, by omega⟩
        obtain ⟨po1, po2, hagree, hodl, hodv, hplan⟩ := HPI.out (by rw [← HS.out]; omega)
        have hagree' := hid hagree
        have hodl' := hid hodl
        have hodv' := hid hodv
        have hplan' := hid hplan
        have hsnE := hid (show (stepL within G.dp (g hub) (-1)).toNat = sn by rw [← HS.out]; rfl)
        clear hagree hodl hodv hplan hneg
        have hsn : sn < E.n := by omega
        have PR := hid (preorder_any E.bfi E.i0 E.i1 E.i2 E.i3 E.n G.fr G.dp E.szi E.psi br cr G.rc (w1.drewN m) (cs1.out.Fi.drewN m) (rc1.out.drewN m) po1.h0 (Nat.le_trans gi1.out.len hnn) gi1.out.lt po1.hfr po1.hS po1.hP po1.hL
          (fun q => by
            have : br < w.heap.size := HEl.out br (List.mem_cons_of_mem _ (List.mem_of_mem_drop (i := 3) (List.mem_of_mem_take (i := 5) (l := E.rest.drop 3) q)))
            omega))
        have d4 : w1.cell? ⟨E.bc, 4, none⟩ = some (.pointer (some ⟨E.bfi, 0, none⟩)) := by
          have := cs1.out.C.cell 4
          simp [cyc, Env.withIn] at this
          exact this
        go_wp2_with (go_at_call 38; refine PR.out.mono ?_; rintro e w2 ⟨bo, rfl, _g1, g2, g3, g4⟩)
        obtain ⟨SZ, hSZ⟩ : ∃ SZ, SZ = sizeF G.fr G.rc E.szi := ⟨_, rfl⟩
        obtain ⟨PS, hPS⟩ : ∃ PS, PS = posF G.fr G.rc SZ E.psi := ⟨_, rfl⟩
        rw [← hSZ, ← hPS] at g2
        have fr2 := hid (show Fr (fun k => k ∈ [E.i0, E.i1, E.i2, E.i3]) w1 w2 from ((Fr.refl _ w1).drewN m).trans g3 (fun i _ q => by rcases q with q | q <;> simp [q]))
        have hEP : ∀ u ∈ p00, PS u = E.psi u ∧ SZ u = E.szi u := fun u hu => by
          have := hagree'.out u hu
          rw [HE4.out] at this
          rw [hPS, hSZ]
          exact this
        have cs2 := hid (show CS (E.withIn G.fr G.dp SZ PS) w2 p00 pao pc ao c from cs1.out.setIn fr2.out g2 hEP)
        have fx2 := hid (show Fr X w w2 from fx1.out.trans fr2.out (fun b _ q => HX.out b (hmem2.out b q)))
        have A2 := hid (HC.out.a1.fr fx2.out (HC.out.s1 bn (.inl rfl)) (fun i hi b hb => HC.out.s1 b (.inr ⟨i, hi, hb⟩)))
        have hmo : ∀ b, b ∈ [E.o0, E.o1, E.o2, E.o3] → b ∈ E.blocks := fun b hb => List.mem_cons_of_mem _ (List.mem_of_mem_drop (i := 9) hb)
        have GR2 := hid (grow_any E.bfo E.o0 E.o1 E.o2 E.o3 E.n E.fro E.dpo E.szo E.pso bn ao1 c1 g hub f cap within w2.drew (cs2.out.Fo.drew) (A2.out.fr (M := Nothing) ((Fr.refl _ w2).drew) (fun q => q) (fun _ _ _ _ q => q)) (fun i hi => (HC.out.l1 i hi).1) (fun i hi => (HC.out.l1 i hi).2) hhub hnn hcf
          (fun v w' hv hf => HC.out.hw v w' hv ((fx2.out.drew).trans hf (fun b _ q => HX.out b (hmo b (by rcases q with q | q <;> simp [q])))))
          ⟨fun q => HC.out.s1 bn (.inl rfl) (HX.out bn (hmo bn (by simp [q]))), fun q => HC.out.s1 bn (.inl rfl) (HX.out bn (hmo bn (by simp [q])))⟩
          (fun i hi => ⟨fun q => HC.out.s1 E.o0 (.inr ⟨i, hi, q⟩) (HX.out _ (hmo _ (by simp))), fun q => HC.out.s1 E.o1 (.inr ⟨i, hi, q⟩) (HX.out _ (hmo _ (by simp)))⟩))
        rw [HG'.out] at GR2
        have hmo2 := hid hmo
        have NB2 := hid (And.intro (nd_ne (List.nodup_cons.1 H.out.nd).2 (i := 0) (j := 9) (a := E.bc) (b := E.o0) rfl rfl (by decide)) (nd_ne (List.nodup_cons.1 H.out.nd).2 (i := 0) (j := 10) (a := E.bc) (b := E.o1) rfl rfl (by decide)))
        have HSZ := hid hSZ
        have HPS := hid hPS
        have d3 : w2.cell? ⟨E.bc, 3, none⟩ = some (.pointer (some ⟨E.bfo, 0, none⟩)) := by
          have := cs2.out.C.cell 3
          simp [cyc, Env.withIn] at this
          exact this
        have d1' : w2.cell? ⟨E.bc, 1, none⟩ = some (.slice (some ⟨bn, 0, none⟩) E.n E.n) := by
          have := cs2.out.C.cell 1
          simp [cyc, Env.withIn, HC.out.nv] at this
          exact this
        clear hmo hEP g2 g3 g4 _g1 hSZ hPS d4 d1 q1
        go_upto_region 10 with fail
        go_region_held3 (fun w' => w'.cell? ⟨E.bc, 3, none⟩ = some (.pointer (some ⟨E.bfo, 0, none⟩)) ∧ w'.cell? ⟨E.bc, 1, none⟩ = some (.slice (some ⟨bn, 0, none⟩) E.n E.n))
          (((try simp only [World.cell?_drew]); refine ⟨?_, ?_⟩ <;> with_reducible assumption))
          ((go_at_call 37; refine GR2.out.mono ?_; rintro e w3 ⟨br3, cr3, rfl, g1, g2, g3, g4, g5⟩; have e3 := g3.cell d3 (fun q => q.elim NB2.out.1 NB2.out.2); have e1 := g3.cell d1' (fun q => q.elim NB2.out.1 NB2.out.2)))
        have cs3 := hid (show CS ((E.withIn G.fr G.dp SZ PS).withOut G'.fr G'.dp E.szo E.pso) w3 p00 pao pc ao c from cs2.out.drew.setOut (g3.mono (fun i _ q => by rcases q with q | q <;> simp [q, Env.withIn])) g2)
        have fr3 := hid (show Fr (fun k => k ∈ [E.o0, E.o1, E.o2, E.o3]) w2 w3 from ((Fr.refl _ w2).drew).trans g3 (fun i _ q => by rcases q with q | q <;> simp [q]))
        have fx3 := hid (show Fr X w w3 from fx2.out.trans fr3.out (fun b _ q => HX.out b (hmo2.out b q)))
        have hbr3 : w.heap.size ≤ br3 := Nat.le_trans fx2.out.size g4
        have rc3 := hid g1
        have gi3 := hid g5
        clear g1 g2 g3 g4 g5 e3 e1 d3 d1'
        have PR2 := hid (preorder_any E.bfo E.o0 E.o1 E.o2 E.o3 E.n G'.fr G'.dp E.szo E.pso br3 cr3 G'.rc w3 cs3.out.Fo rc3.out po2.h0 (Nat.le_trans gi3.out.len hnn) gi3.out.lt po2.hfr po2.hS po2.hP po2.hL
          (fun q => by
            have : br3 < w.heap.size := HEl.out br3 (List.mem_cons_of_mem _ (List.mem_of_mem_drop (i := 8) q))
            omega))
        have d3 : w3.cell? ⟨E.bc, 3, none⟩ = some (.pointer (some ⟨E.bfo, 0, none⟩)) := by
          have := cs3.out.C.cell 3
          simp [cyc, Env.withIn, Env.withOut] at this
          exact this
        go_wp2_with (go_at_call 38; refine PR2.out.mono ?_; rintro e w4 ⟨bo4, rfl, g1, g2, g3, g4⟩)
        have hE4' : E4 = ((E.withIn G.fr G.dp SZ PS).withOut G'.fr G'.dp (sizeF G'.fr G'.rc E.szo) (posF G'.fr G'.rc (sizeF G'.fr G'.rc E.szo) E.pso)) := by rw [HE4.out, HPS.out, HSZ.out]
        have fr4 := hid (show Fr (fun k => k ∈ [E.o0, E.o1, E.o2, E.o3]) w3 w4 from g3.mono (fun i _ q => by rcases q with q | q <;> simp [q]))
        have cs4 := hid (show CS E4 w4 p00 pao pc ao c by rw [hE4']; exact cs3.out.setOut fr4.out g2)
        have fx4 := hid (show Fr X w w4 from fx3.out.trans fr4.out (fun b _ q => HX.out b (hmo2.out b q)))
        have or4 := hid (show Ints w4 bo4 od.length (orderF G'.rc E4.pso) by rw [hE4', hodl'.out]; exact g1)
        have hbo4 : w.heap.size ≤ bo4 := Nat.le_trans fx3.out.size g4
        have hlen4 : G'.rc.length = od.length := hodl'.out.symm
        have hb1 : E.bc = E4.bc := by rw [hE4']; rfl
        have hb2 := hid (show E4.n = E.n by rw [hE4']; rfl)
        have hb3 := hid (show E4.blocks = E.blocks by rw [hE4']; rfl)
        have hb4 := hid (show E4.bm = E.bm by rw [hE4']; rfl)
        have hodn : od.length ≤ 1024 := by rw [← hlen4]; exact Nat.le_trans gi3.out.len hnn
        have mp4 := hid (show MapAt .string w4 E4.bm cnt f0 by
          rw [hb4.out]
          have hn := List.nodup_cons.1 H.out.nd
          have n1 : E.bm ∉ [E.i0, E.i1, E.i2, E.i3] := fun q => hn.1 (List.mem_of_mem_drop (i := 4) (List.mem_of_mem_take (i := 4) (l := E.rest.drop 4) q))
          have n2 : E.bm ∉ [E.o0, E.o1, E.o2, E.o3] := fun q => hn.1 (List.mem_of_mem_drop (i := 9) q)
          have m1 := HM.out.of_block (fy1.out.block _ HM.out.lt (by rintro (q | q); exact n1 (by simp [q]); exact n1 (by simp [q])))
          have m2 := m1.of_block (fr2.out.block _ m1.lt n1)
          have m3 := m2.of_block (fr3.out.block _ m2.lt n2)
          exact m3.of_block (fr4.out.block _ m3.lt n2))
        have hbn := hid (And.intro (show ∀ b, blk pao = some b → b < w.heap.size from fun b hb => H.out.P.lt hb) (show ∀ b, blk ao = some b → b < w.heap.size from fun b hb => H.out.I.held.lt hb))
        have hsz4 := hid fx4.out.size
        have hE4n := hid (show hub < E4.n by rw [hb2.out]; exact hhub)
        have HEl4 := hid (show ∀ b ∈ E4.blocks, b < w.heap.size by rw [hb3.out]; exact HEl.out)
        have HX4 := hid (show ∀ b ∈ E4.blocks, X b by rw [hb3.out]; exact HX.out)
        clear g1 g2 g3 g4 hE4' d3 PR2 GR2 PR GR
        have PSZ := hid hplan'.out.sz
        rw [hb1]
        rw [hlen4]
        go_loopg [110] od.length (fun gg s110 wr => ∃ (k : Nat) (pao' : Option Addr) (pc' : Nat) (ao' : Option Addr) (c' cnt' : Nat) (f' : Value → Option Value), gg + k = od.length ∧ s110 = .int .i64 (k : Int) ∧ Hid (CS E4 wr (paths E4.dpo p00 od k) pao' pc' ao' c') ∧ Hid (MapAt .string wr E4.bm cnt' f') ∧
          Hid (Got E4 w.heap.size wr pao' ao' (od.take k) L ld f0 f') ∧ Hid (Ints wr bo4 od.length (orderF G'.rc E4.pso)) ∧ Hid (Fr X w wr) ∧
          Hid ((∀ b, blk pao' = some b → (blk pao = some b ∨ w.heap.size ≤ b) ∧ b ≠ bo4) ∧ (∀ b, blk ao' = some b → (blk ao = some b ∨ w.heap.size ≤ b) ∧ b ≠ bo4)))
        case atStart =>
          refine ⟨0, pao, pc, ao, c, cnt, f0, by omega, rfl, cs4, mp4, hid ⟨fun v hv => by simp at hv, fun _ _ _ => rfl⟩, or4, fx4, hid ⟨fun b hb => ⟨.inl hb, ?_⟩, fun b hb => ⟨.inl hb, ?_⟩⟩⟩
          · have := hbn.out.1 b hb; omega
          · have := hbn.out.2 b hb; omega
        case round => as_aux_lemma =>
          obtain ⟨k, pao', pc', ao', c', cnt', f', hgk, rfl, hcs, hmp, hgot, hor, hfx, hdd⟩ := hrel
          by_cases hk : k < od.length
          · obtain ⟨v, hvd⟩ : ∃ v, od.getD k 0 = v := ⟨_, rfl⟩
            have hv : v < E4.n := by rw [← hvd]; exact hplan'.out.lt k hk
            obtain ⟨dv, hdv⟩ : ∃ dv : Nat, E4.dpo v = dv := ⟨(E4.dpo v).toNat, by have := (hplan'.out.dp k hk).1; rw [hvd] at this; omega⟩
            have hdl : dv ≤ (paths E4.dpo p00 od k).length ∧ dv < 1024 := by have := (hplan'.out.dp k hk).2; rw [hvd, hdv] at this; omega
            have q1 : wr.cell? ⟨bo4, k, none⟩ = some (.int .i64 (v : Int)) := by
              have := hor.out.cell hk
              rw [hodv'.out k hk, hvd] at this
              exact this
            have c3 := hcs.out.C.cell 3
            simp [cyc] at c3
            have f1 := hcs.out.Fo.str.cell 1
            simp at f1
            have e1 := hcs.out.Fo.i1.cell hv
            rw [hdv] at e1
            have HVD := hid hvd
            have HDV := hid hdv
            obtain ⟨hdl1, hdl2⟩ := hdl
            clear hvd hdv
            go_wp2_with fail
            obtain ⟨wr_1, hwr1⟩ : ∃ x, x = wr := ⟨_, rfl⟩
            rw [← hwr1] at hcs hmp hgot hor hfx q1 c3 f1 e1
            rw [← hwr1]
            clear hwr1
            have hszp := hid (show ∀ u ∈ paths E4.dpo p00 od k, 0 < E4.szi u from PSZ.out k (by omega))
            go_loopg [132] (paths E4.dpo p00 od k).length (fun gg s132 wr2 => ∃ j, dv ≤ j ∧ gg = j ∧ j ≤ (paths E4.dpo p00 od k).length ∧ Hid (CS E4 wr2 ((paths E4.dpo p00 od k).take j) pao' pc' ao' c') ∧ Hid (Fr (fun b => b = E4.bs ∨ b = E4.bt ∨ b = E4.bc) wr_1 wr2))
            case atStart => exact ⟨(paths E4.dpo p00 od k).length, hdl1, rfl, by omega, hid (by rw [List.take_length]; exact hcs.out), hid (Fr.refl _ wr_1)⟩
            case round => as_aux_lemma =>
              obtain ⟨j, hj1, rfl, hj2, hcs2, hfr2⟩ := hrel
              have c7 := hcs2.out.C.cell 7
              simp [cyc] at c7
              rw [Nat.min_eq_left hj2] at c7
              by_cases hj3 : dv < gk
              · obtain ⟨gg, rfl⟩ : ∃ gg, gk = gg + 1 := ⟨gk - 1, by omega⟩
                have hgl : gg < (paths E4.dpo p00 od k).length := by omega
                have LV := hid (CS.leave (E := E4) (w := wr) (p0 := (paths E4.dpo p00 od k).take gg) (u := (paths E4.dpo p00 od k)[gg]) (pao := pao') (pc := pc') (ao := ao') (c := c')
                  (by rw [← List.take_succ_eq_append_getElem hgl]; exact hcs2.out) (fun x hx => hszp.out x (by rw [← List.take_succ_eq_append_getElem hgl] at hx; exact List.mem_of_mem_take hx)))
                go_wp2_with (go_at_call 39; refine LV.out.mono ?_; rintro e w5 ⟨rfl, hcs5, hfr5⟩)
                go_roundg gg
                case measure => omega
                case rel => exact ⟨gg, by omega, rfl, by omega, hid hcs5, hid (hfr2.out.trans hfr5 (fun _ _ q => q))⟩
              · have hj4 : gk = dv := by omega
                have csv := hid (show CS E4 wr ((paths E4.dpo p00 od k).take dv) pao' pc' ao' c' by rw [← hj4]; exact hcs2.out)
                rw [hj4] at c7
                clear hcs2
                have frv8 := hid (show Fr (fun b => b = E4.bs ∨ b = E4.bt ∨ b = E4.bc) wr_1 wr from hfr2.out)
                have NBM := hid (show ¬ (E4.bm = E4.bs ∨ E4.bm = E4.bt ∨ E4.bm = E4.bc) by
                  have hn := (List.nodup_cons.1 csv.out.nd).1
                  rintro (q | q | q) <;> exact hn (by rw [q]; simp [Env.rest]))
                have TAIL := hid (show ∀ (w8 w9 : World) (a8 : Option Addr) (cc8 cnt9 : Nat), Fr (fun b => b = E4.bs ∨ b = E4.bt ∨ b = E4.bc) wr_1 w8 → Fr (fun b => b = E4.bm) w8 w9 → CS E4 w8 ((paths E4.dpo p00 od k).take dv) pao' pc' ao' c' →
                    MapAt .string w9 E4.bm cnt9 (updK .string (E4.key v) (.agg #[.int .i64 (L v), .slice a8 (ld v).length cc8]) f') → Sl w8 9 1 a8 (ld v).length cc8 (names E4.keys (ld v)) → (∀ b, blk a8 = some b → wr.heap.size ≤ b) →
                    ∃ cnt2 f2, Hid (CS E4 w9 ((paths E4.dpo p00 od k).take dv) pao' pc' ao' c') ∧ Hid (MapAt .string w9 E4.bm cnt2 f2) ∧ Hid (Got E4 w.heap.size w9 pao' ao' (od.take (k + 1)) L ld f0 f2) ∧
                      Hid (Ints w9 bo4 od.length (orderF G'.rc E4.pso)) ∧ Hid (Fr X w w9) from by
                  intro w8 w9 a8 cc8 cnt9 e8 e9 s8 m9 l8 x8
                  have hn := List.nodup_cons.1 s8.nd
                  have hblt := HEl4.out
                  have z1 : ∀ b, b = E4.bs ∨ b = E4.bt ∨ b = E4.bc → b ∈ E4.blocks := by rintro b (q | q | q) <;> simp [Env.blocks, Env.rest, q]
                  have z2 : E4.bm ∈ E4.blocks := by simp [Env.blocks]
                  have hbm := hblt E4.bm z2
                  have hG8 := hgot.out.fr e8 (pao' := pao') (ao' := ao') (fun b hb _ q => by have := hblt b (z1 b q); omega) (fun b hb => .inl hb) (fun b hb => .inl hb)
                  have hkn := hplan'.out.kn
                  have hkl := hplan'.out.kl
                  have hszw := hfx.out.size
                  have hszr := hfr2.out.size
                  have hdone : ∀ u ∈ od.take k, u < E4.n ∧ u ≠ v := by
                    intro u hu
                    obtain ⟨i, hi, hiu⟩ := List.getElem_of_mem hu
                    have hi' : i < k ∧ i < od.length := by simp at hi; omega
                    have e1 : od.getD i 0 = u := by
                      have : od[i]'hi'.2 = u := by rw [← hiu]; simp
                      simp [hi'.2, this]
                    refine ⟨by rw [← e1]; exact hplan'.out.lt i hi'.2, fun q => ?_⟩
                    have e2 := HVD.out
                    rw [← q, ← e1] at e2
                    have := (List.getElem?_inj hi'.2 hplan'.out.nodup (j := k)).1 (by
                      simp only [List.getD_eq_getElem?_getD, List.getElem?_eq_getElem hi'.2, List.getElem?_eq_getElem hk, Option.getD_some] at e2
                      rw [List.getElem?_eq_getElem hi'.2, List.getElem?_eq_getElem hk, e2])
                    omega
                  have hG9 := hG8.add (v := v) hkn hkl hdone hv e9 hbm l8 (fun b hb => by
                    have := x8 b hb
                    have := l8.lt hb
                    refine ⟨by omega, by omega, fun q => ?_, fun q => ?_⟩
                    · have := hcs.out.P.lt q; omega
                    · have := hcs.out.I.held.lt q; omega)
                  have htk : od.take k ++ [v] = od.take (k + 1) := by
                    rw [List.take_succ_eq_append_getElem hk]
                    have := HVD.out
                    simp [hk] at this
                    rw [this]
                  rw [htk] at hG9
                  refine ⟨cnt9, _, hid (s8.fr e9 (fun b hb q => hn.1 (q ▸ hb)) (fun b hb q => ?_)), hid m9, hid hG9, hid ?_, hid ?_⟩
                  · subst q
                    rcases hb with r | r | r
                    · exact s8.dk _ r z2
                    · exact (s8.dp _ r).1 z2
                    · exact (s8.da _ r).1 z2
                  · refine Arr.fr (Arr.fr hor.out e8 (fun q => ?_)) e9 (fun q => ?_)
                    · have := hblt _ (z1 _ q); omega
                    · omega
                  · exact (hfx.out.trans e8 (fun b _ q => HX4.out b (z1 b q))).trans e9 (fun b _ q => by rw [q]; exact HX4.out _ z2))
                go_upto_if 135 with fail
                go_cut [16] (fun s16 wc => ∃ cnt2 f2, Hid (CS E4 wc ((paths E4.dpo p00 od k).take dv) pao' pc' ao' c') ∧ Hid (MapAt .string wc E4.bm cnt2 f2) ∧ Hid (Got E4 w.heap.size wc pao' ao' (od.take (k + 1)) L ld f0 f2) ∧
                      Hid (Ints wc bo4 od.length (orderF G'.rc E4.pso)) ∧ Hid (Fr X w wc))
                case first => as_aux_lemma =>
                  by_cases hvh : v = hub
                  · have hvb : ((v : Int) == (hub : Int)) = true := by simp [hvh]
                    obtain ⟨_, hL1, hdsn, hchn, hldh⟩ := hplan'.out.hu k hk (by rw [HVD.out]; exact hvh)
                    rw [hsnE.out] at hdsn hchn
                    have hsn4 : sn < E4.n := by rw [hb2.out]; exact hsn
                    have c4 := csv.out.C.cell 4
                    simp [cyc] at c4
                    have fi1 := csv.out.Fi.str.cell 1
                    simp at fi1
                    have ei1 := csv.out.Fi.i1.cell hsn4
                    rw [hdsn] at ei1
                    obtain ⟨ds, hds⟩ : ∃ ds : Nat, L hub = ds + 1 := ⟨L hub - 1, by omega⟩
                    rw [hds, show ((ds + 1 : Nat) : Int) - 1 = (ds : Int) by omega] at ei1
                    have hLb := hplan'.out.len k hk
                    rw [HVD.out, hvh] at hLb
                    have hchn' := hid hchn
                    have hldh' := hid hldh
                    have HDS := hid hds
                    rw [hds] at hLb
                    have NL := hid (show Calls Try.prog 33 #[.pointer (some ⟨E4.bc, 0, none⟩), .int .i64 (1 + (ds : Int))] wr fun e w' => ∃ a cc, e = .returned (.slice a 0 cc) ∧ Sl w' 9 1 a 0 cc [] ∧ Fr Nothing wr w' ∧ ∀ b, blk a = some b → wr.heap.size ≤ b by
                      have := csv.out.newLead (len := ds + 1) hLb
                      rwa [show ((ds + 1 : Nat) : Int) = 1 + (ds : Int) by omega] at this)
                    have hkv : ∃ kv, E4.keys.getD v ByteArray.empty = kv := ⟨_, rfl⟩
                    obtain ⟨kv, hkv⟩ := hkv
                    have HKV := hid hkv
                    have HVH := hid hvh
                    clear hdsn hchn hldh hds hkv hL1 hvh
                    go_wp2_with (go_at_call 33; with_reducible refine NL.out.mono ?_; rintro e w6 ⟨a6, cc6, rfl, hs6, hf6, ha6⟩; have HS6 := hid hs6; have HF6 := hid hf6; have HA6 := hid ha6; clear hs6 hf6 ha6; clear c7 c4 fi1 ei1 q1 c3 f1 e1)
                    obtain ⟨l7, hl7⟩ : ∃ l7, l7 = [hub].take E4.lead := ⟨_, rfl⟩
                    have hl7l : l7.length ≤ 1 := by rw [hl7]; simp; omega
                    have TH := hid (show Calls Try.prog 41 #[.pointer (some ⟨E4.bc, 0, none⟩), .slice a6 0 cc6, .slice (some ⟨w6.heap.size, 0, none⟩) 1 1] (w6.alloc (Obj.cells #[Value.int IntKind.i64 hub] 3)) fun e w' => ∃ a' cc', e = .returned (.slice a' l7.length cc') ∧
                        Sl w' 9 1 a' l7.length cc' (names E4.keys l7) ∧ Fr Nothing wr w' ∧ ∀ b, blk a' = some b → wr.heap.size ≤ b by
                      have := csv.out.through (HF6.out.alloc (Obj.cells #[Value.int IntKind.i64 hub] 3)) (a := a6) (cc := cc6) (l := []) (ns := [hub]) (bp := w6.heap.size) (off := 0) (cp := 1) (HS6.out.alloc _) (fun b hb => ⟨HA6.out b hb, fun q => by have := HS6.out.lt hb; omega⟩) (by simp) (by simp) (by simp) (fun j hj => by
                        have hj0 : j = 0 := by simpa using hj
                        subst hj0
                        exact (Rec.new w6 3 #[.int .i64 (hub : Int)]).cell 0) (by simpa using hE4n.out)
                      rw [hl7]
                      simpa using this)
                    have HL7 := hid hl7
                    clear hl7
                    with_reducible refine TH.out.mono ?_
                    rintro e w7 ⟨a7, cc7, rfl, hs7, hf7, ha7⟩
                    have HS7 := hid hs7
                    have HF7 := hid hf7
                    have HA7 := hid ha7
                    clear hs7 hf7 ha7 TH NL
                    go_wp2_with fail
                    obtain ⟨l8, hl8⟩ : ∃ l8, l8 = l7 ++ (ch hub).take (E4.lead - l7.length) := ⟨_, rfl⟩
                    have AL := hid (show Calls Try.prog 40 #[.pointer (some ⟨E4.bc, 0, none⟩), .slice a7 l7.length cc7, .int .i64 sn, .int .i64 hub] w7 fun e w' => ∃ a' cc', e = .returned (.slice a' l8.length cc') ∧
                        Sl w' 9 1 a' l8.length cc' (names E4.keys l8) ∧ Fr Nothing wr w' ∧ ∀ b, blk a' = some b → wr.heap.size ≤ b by
                      rw [hl8]
                      exact csv.out.along HF7.out HS7.out HA7.out (by omega) hchn'.out)
                    have HL8 := hid (show ld hub = l8 by rw [hl8, hldh'.out, HL7.out])
                    clear hl8
                    with_reducible refine AL.out.mono ?_
                    rintro e w8 ⟨a8, cc8, rfl, hs8, hf8, ha8⟩
                    have HS8 := hid hs8
                    have HF8 := hid hf8
                    have HA8 := hid ha8
                    clear hs8 hf8 ha8 AL
                    have cs8 := hid (csv.out.fr HF8.out (fun _ _ q => q) (fun _ _ q => q))
                    have mp8 := hid (hmp.out.of_block ((frv8.out.trans HF8.out (fun _ _ q => q.elim)).block _ hmp.out.lt NBM.out))
                    obtain ⟨w9, hup, hm9, o1, o2, o3, o4, o5⟩ := (mp8.out.of_block (w' := w8.drew) rfl).update u28 u9 (k := .string kv) trivial (.agg #[.int .i64 (1 + (ds : Int)), .slice a8 l8.length cc8])
                    have d6 := cs8.out.C.cell 6
                    have d0 := cs8.out.C.cell 0
                    simp [cyc] at d6 d0
                    have hx : (strs E4.keys)[v]? = some (.string kv) := by
                      have := cs8.out.K.length
                      simp [strs] at this
                      rw [← HKV.out]
                      simp [strs, this, hv]
                    obtain ⟨bi, hbi, q3⟩ := cs8.out.K.cell hx
                    clear hx
                    go_upto_region 20 with fail
                    go_region
                    go_wp2_with fail
                    go_meet
                    case rel =>
                      have e8 : Fr (fun b => b = E4.bs ∨ b = E4.bt ∨ b = E4.bc) wr_1 w8 := frv8.out.trans HF8.out (fun _ _ q => q.elim)
                      have e9 : Fr (fun b => b = E4.bm) w8 w9 := Fr.of_update o1 o2 o3 o4 o5
                      have hvhub := HVH.out
                      have hk1 : 1 + (ds : Int) = (L v : Int) := by rw [hvhub, HDS.out]; omega
                      have hl81 : l8 = ld v := by rw [hvhub]; exact HL8.out.symm
                      have hkey : Value.string kv = E4.key v := by rw [← HKV.out]; rfl
                      rw [hk1, hkey, hl81] at hm9
                      have HS8' := HS8.out
                      rw [hl81] at HS8'
                      exact TAIL.out w8 w9 a8 cc8 _ e8 e9 cs8.out hm9 HS8' HA8.out
                  · have hvb : ((v : Int) == (hub : Int)) = false := by simp; omega
                    have ho := hplan'.out.oth k hk (by rw [HVD.out]; exact hvh)
                    rw [HVD.out, HDV.out, Int.toNat_natCast] at ho
                    obtain ⟨tn, ta, tb, hlast, htr, hdt, htl, hda, hdb, hta, htab, hLv, hchn, hldv⟩ := ho
                    have htl' : tn < dv := by omega
                    have pk := hplan'.out.ps k hk
                    rw [HVD.out] at pk
                    obtain ⟨lo, hlo⟩ : ∃ lo : Nat, E4.psi v = lo := ⟨(E4.psi v).toNat, by omega⟩
                    rw [hlo, Int.toNat_natCast] at hlast
                    have hlon : lo < E4.n := by omega
                    have hLb := hplan'.out.len k hk
                    rw [HVD.out] at hLb
                    obtain ⟨t, ht⟩ : ∃ t, tr v = t := ⟨_, rfl⟩
                    rw [ht] at hlast htr hdt hdb hchn
                    obtain ⟨ℓ, hℓ⟩ : ∃ ℓ, L v = ℓ := ⟨_, rfl⟩
                    rw [hℓ] at hLv hLb
                    obtain ⟨q, hq⟩ : ∃ q, q = (paths E4.dpo p00 od k).take dv := ⟨_, rfl⟩
                    rw [← hq] at csv hlast hldv
                    have hql : q.length = dv := by rw [hq, List.length_take, Nat.min_eq_left hdl1]
                    have hnn4 := csv.out.nn
                    have hlen4' := stk_len hnn4 q csv.out.fit
                    have LA := hid (show ∀ kk, Calls Try.prog 42 #[.pointer (some ⟨E4.bs, 0, none⟩), .int .i64 (lo : Int)] (wr.drewN kk) fun e w'' => e = .returned (.int .i64 (t : Int)) ∧ ∃ m, w'' = wr.drewN m from
                      fun kk => by
                        have := last_any E4.bs E4.bt E4.n ao' c' _ _ lo (wr.drewN kk) (csv.out.drewN kk).I hnn4 hlon (by omega) (fun y _ => stk_SI q csv.out.fit y)
                        rw [hlast] at this
                        exact this.mono (fun e w'' h => ⟨h.1, by obtain ⟨m, hm⟩ := h.2; exact ⟨kk + m, by rw [hm, World.drewN_drewN]⟩⟩))
                    have c4 := csv.out.C.cell 4
                    have c8 := csv.out.C.cell 8
                    have c3' := csv.out.C.cell 3
                    simp [cyc] at c4 c8 c3'
                    have fi1 := csv.out.Fi.str.cell 1
                    have fi3 := csv.out.Fi.str.cell 3
                    have fo1 := csv.out.Fo.str.cell 1
                    simp at fi1 fi3 fo1
                    have ei3 := csv.out.Fi.i3.cell hv
                    rw [hlo] at ei3
                    have ei1 := csv.out.Fi.i1.cell hv
                    rw [hda] at ei1
                    have ei1t := csv.out.Fi.i1.cell htr
                    rw [hdb] at ei1t
                    have eo1t := csv.out.Fo.i1.cell htr
                    rw [hdt] at eo1t
                    have c7' : wr.cell? ⟨E4.bc, 7, none⟩ = some (.slice pao' dv pc') := by
                      have := csv.out.C.cell 7
                      simp [cyc] at this
                      rw [hql] at this
                      exact this
                    obtain ⟨bp, hbp⟩ : ∃ bp, pao' = some ⟨bp, 0, none⟩ := by
                      rcases csv.out.P.form with ⟨_, h0, _⟩ | ⟨g, cur, h1, _⟩
                      · rw [hql] at h0; omega
                      · exact ⟨g, h1⟩
                    have hpc : dv ≤ pc' := by
                      rcases csv.out.P.form with ⟨_, h0, _⟩ | ⟨g, cur, h1, _, h2, _⟩
                      · rw [hql] at h0; omega
                      · rw [hql] at h2; exact h2
                    rw [hbp] at c7'
                    have NLL := hid (show ∀ kk, Calls Try.prog 33 #[.pointer (some ⟨E4.bc, 0, none⟩), .int .i64 (ℓ : Int)] (wr.drewN kk) fun e w' => ∃ a cc, e = .returned (.slice a 0 cc) ∧ Sl w' 9 1 a 0 cc [] ∧ Fr Nothing wr w' ∧ ∀ b, blk a = some b → wr.heap.size ≤ b from
                      fun kk => ((csv.out.drewN kk).newLead (len := ℓ) hLb).mono (fun e w' h => by
                        obtain ⟨a, cc, h1, h2, h3, h4⟩ := h
                        exact ⟨a, cc, h1, h2, ((Fr.refl _ wr).drewN kk).trans h3 (fun _ _ q => q), h4⟩))
                    obtain ⟨l7, hl7⟩ : ∃ l7, l7 = (ch v).take E4.lead := ⟨_, rfl⟩
                    have hl7l : l7.length ≤ 1024 := by rw [hl7, List.length_take]; have := hchn.le; omega
                    have ALL := hid (show ∀ (w6 : World) (a6 : Option Addr) (cc6 : Nat), Sl w6 9 1 a6 0 cc6 [] → Fr Nothing wr w6 → (∀ b, blk a6 = some b → wr.heap.size ≤ b) → Calls Try.prog 40 #[.pointer (some ⟨E4.bc, 0, none⟩), .slice a6 0 cc6, .int .i64 (v : Int), .int .i64 (t : Int)] w6 fun e w' => ∃ a' cc', e = .returned (.slice a' l7.length cc') ∧
                        Sl w' 9 1 a' l7.length cc' (names E4.keys l7) ∧ Fr Nothing wr w' ∧ ∀ b, blk a' = some b → wr.heap.size ≤ b from
                      fun w6 a6 cc6 hs6 hf6 ha6 => by
                        have := csv.out.along hf6 (l := []) hs6 ha6 (by simp) hchn
                        rw [hl7]
                        simpa using this)
                    obtain ⟨l8, hl8⟩ : ∃ l8, l8 = l7 ++ (q.drop tn).take (E4.lead - l7.length) := ⟨_, rfl⟩
                    have hdl8 : (q.drop tn).length = dv - tn := by rw [List.length_drop, hql]
                    have hcellq : ∀ j, j < (q.drop tn).length → wr.cell? ⟨bp, tn + j, none⟩ = some (.int .i64 ((q.drop tn).getD j 0 : Int)) := by
                      intro j hj
                      have hj2 : tn + j < q.length := by rw [hdl8] at hj; omega
                      obtain ⟨g, hg, hc⟩ := csv.out.P.cell (j := tn + j) (v := .int .i64 (q[tn + j] : Int)) (by simp [ints, hj2])
                      rw [hbp] at hg
                      simp at hg
                      subst hg
                      rw [hc]
                      simp [hj2]
                    have hbplt : bp < wr.heap.size := csv.out.P.lt (by rw [hbp]; rfl)
                    have TH := hid (show ∀ (w7 : World) (a7 : Option Addr) (cc7 : Nat), Sl w7 9 1 a7 l7.length cc7 (names E4.keys l7) → Fr Nothing wr w7 → (∀ b, blk a7 = some b → wr.heap.size ≤ b) → Calls Try.prog 41 #[.pointer (some ⟨E4.bc, 0, none⟩), .slice a7 l7.length cc7, .slice (some ⟨bp, tn, none⟩) (dv - tn) (pc' - tn)] w7 fun e w' => ∃ a' cc', e = .returned (.slice a' l8.length cc') ∧
                        Sl w' 9 1 a' l8.length cc' (names E4.keys l8) ∧ Fr Nothing wr w' ∧ ∀ b, blk a' = some b → wr.heap.size ≤ b from
                      fun w7 a7 cc7 hs7 hf7 ha7 => by
                        have := csv.out.through hf7 (l := l7) (ns := q.drop tn) (bp := bp) (off := tn) (cp := pc' - tn) hs7 (fun b hb => ⟨ha7 b hb, fun r => by have := ha7 b hb; omega⟩) hl7l (by rw [hl7, List.length_take]; omega) (by rw [hdl8]; omega)
                          (fun j hj => hf7.cell (hcellq j hj) (fun r => r)) (fun x hx => csv.out.pn x (List.mem_of_mem_drop hx))
                        rw [hl8]
                        rw [hdl8] at this
                        exact this)
                    have HL8 := hid (show ld v = l8 by rw [hl8, hldv, hl7])
                    have KS := hid (show ∀ w' : World, Fr Nothing wr w' → w'.cell? ⟨E4.bc, 7, none⟩ = some (.slice (some ⟨bp, 0, none⟩) dv pc') ∧ w'.cell? ⟨E4.bc, 3, none⟩ = some (.pointer (some ⟨E4.bfo, 0, none⟩)) ∧ w'.cell? ⟨E4.bfo, 1, none⟩ = some (.slice (some ⟨E4.o1, 0, none⟩) E4.n E4.n) ∧ w'.cell? ⟨E4.o1, t, none⟩ = some (.int .i64 tn) from
                      fun w' hf => ⟨hf.cell c7' (fun r => r), hf.cell c3' (fun r => r), hf.cell fo1 (fun r => r), hf.cell eo1t (fun r => r)⟩)
                    have hkv : ∃ kv, E4.keys.getD v ByteArray.empty = kv := ⟨_, rfl⟩
                    obtain ⟨kv, hkv⟩ := hkv
                    have HKV := hid hkv
                    have HLV := hid hLv
                    have Hℓ := hid hℓ
                    have HQ := hid hq
                    have csq := csv
                    rw [hq] at csq
                    have hsum : (ta : Int) - tb + dv - tn = (ℓ : Int) := hLv.symm
                    clear hlast hdt hda hdb hLv hchn hldv pk hlo ht hℓ hq hql hlen4' hl7 hl8 hdl8 hcellq hkv hvh c7 q1 c3 f1 e1
                    have i1z : (0 : Int) ≤ (tn : Int) := by omega
                    have i2z : (tn : Int) ≤ (dv : Int) := by omega
                    have i3z : (dv : Int) ≤ (pc' : Int) := by omega
                    have i4z : tn ≤ dv := by omega
                    go_upto_region 21 with fail
                    go_quiet ((refine (LA.out _).mono ?_; rintro e w'' ⟨he, kk, rfl⟩; exact ⟨he, _, rfl⟩))
                    go_wp2_with fail
                    go_quiet (fail)
                    go_upto_region 23 with fail
                    go_region_held3 (fun w' => w'.cell? ⟨E4.bc, 7, none⟩ = some (.slice (some ⟨bp, 0, none⟩) dv pc') ∧ w'.cell? ⟨E4.bc, 3, none⟩ = some (.pointer (some ⟨E4.bfo, 0, none⟩)) ∧ w'.cell? ⟨E4.bfo, 1, none⟩ = some (.slice (some ⟨E4.o1, 0, none⟩) E4.n E4.n) ∧ w'.cell? ⟨E4.o1, t, none⟩ = some (.int .i64 tn))
                      (((try simp only [World.cell?_drew, World.cell?_drewN]); refine ⟨?_, ?_, ?_, ?_⟩ <;> with_reducible assumption))
                      (first
                        | (go_at_call 33; (try rw [hsum]); with_reducible refine (NLL.out _).mono ?_; rintro e w6 ⟨a6, cc6, rfl, hs6, hf6, ha6⟩; obtain ⟨k71, k31, k11, kt1⟩ := KS.out w6 hf6)
                        | (go_at_call 40; with_reducible refine (ALL.out w6 a6 cc6 hs6 hf6 ha6).mono ?_; rintro e w7 ⟨a7, cc7, rfl, hs7, hf7, ha7⟩; obtain ⟨k72, k32, k12, kt2⟩ := KS.out w7 hf7)
                        | (go_at_call 41; with_reducible refine (TH.out w7 a7 cc7 hs7 hf7 ha7).mono ?_; rintro e w8 ⟨a8, cc8, rfl, hs8, hf8, ha8⟩; obtain ⟨k73, k33, k13, kt3⟩ := KS.out w8 hf8))
                    have HS8 := hid hs8
                    have HF8 := hid hf8
                    have HA8 := hid ha8
                    have cs8 := hid (csq.out.fr HF8.out (fun _ _ q => q) (fun _ _ q => q))
                    have mp8 := hid (hmp.out.of_block ((frv8.out.trans HF8.out (fun _ _ q => q.elim)).block _ hmp.out.lt NBM.out))
                    clear hs6 hf6 ha6 hs7 hf7 ha7 hs8 hf8 ha8 k71 k31 k11 kt1 k72 k32 k12 kt2 k73 k33 k13 kt3 c4 c8 c3' fi1 fi3 fo1 ei3 ei1 ei1t eo1t c7'
                    obtain ⟨w9, hup, hm9, o1, o2, o3, o4, o5⟩ := (mp8.out.of_block (w' := w8.drew) rfl).update u28 u9 (k := .string kv) trivial (.agg #[.int .i64 (ℓ : Int), .slice a8 l8.length cc8])
                    have d6 := cs8.out.C.cell 6
                    have d0 := cs8.out.C.cell 0
                    simp [cyc] at d6 d0
                    have hx : (strs E4.keys)[v]? = some (.string kv) := by
                      have := cs8.out.K.length
                      simp [strs] at this
                      rw [← HKV.out]
                      simp [strs, this, hv]
                    obtain ⟨bi, hbi, q3⟩ := cs8.out.K.cell hx
                    clear hx
                    go_upto_region 24 with fail
                    try rw [hsum]
                    go_region
                    go_wp2_with fail
                    go_meet
                    case rel =>
                      have e8 : Fr (fun b => b = E4.bs ∨ b = E4.bt ∨ b = E4.bc) wr_1 w8 := frv8.out.trans HF8.out (fun _ _ q => q.elim)
                      have e9 : Fr (fun b => b = E4.bm) w8 w9 := Fr.of_update o1 o2 o3 o4 o5
                      have hkey : Value.string kv = E4.key v := by rw [← HKV.out]; rfl
                      rw [hkey, ← HL8.out, ← Hℓ.out] at hm9
                      have HS8' := HS8.out
                      rw [← HL8.out] at HS8'
                      exact TAIL.out w8 w9 a8 cc8 _ e8 e9 cs8.out hm9 HS8' HA8.out
                case rest => as_aux_lemma =>
                  obtain ⟨cnt2, f2, scs, smp, sgot, sor, sfx⟩ := hcut
                  obtain ⟨p, hp⟩ : ∃ p, p = (paths E4.dpo p00 od k).take dv := ⟨_, rfl⟩
                  rw [← hp] at scs
                  have hpl : p.length = dv := by rw [hp, List.length_take, Nat.min_eq_left hdl1]
                  have HP := hid hp
                  have pk := hplan'.out.ps k hk
                  rw [HVD.out] at pk
                  obtain ⟨lo, hlo⟩ : ∃ lo : Nat, E4.psi v = lo := ⟨(E4.psi v).toNat, by omega⟩
                  obtain ⟨sz, hsz⟩ : ∃ sz : Nat, E4.szi v = sz := ⟨(E4.szi v).toNat, by omega⟩
                  have hls : lo + sz ≤ E4.n := by omega
                  have d7 := scs.out.C.cell 7
                  simp [cyc] at d7
                  rw [hpl] at d7
                  have sP := hid scs.out.P
                  rw [hpl] at sP
                  have hnn4 := scs.out.nn
                  have bcn : blk pao' ≠ some E4.bc := fun q => (scs.out.dp _ q).1 (by simp [Env.blocks, Env.rest])
                  have BCN := hid bcn
                  have sC := hid scs.out.C
                  have HPL := hid hpl
                  have HLO := hid hlo
                  have HSZ' := hid hsz
                  clear bcn hpl hlo hsz hp pk c7
                  go_wp2_with (refine wpList_app _ _ rfl rfl el33 pao' dv pc' (ints p) rfl (sP.out.alloc _) wc.heap.size 3 #[.int .i64 v] rfl (Rec.new wc 3 _) rfl (by intro u hu; simp at hu; subst hu; rfl) (by omega) (wc.heap.size + 1) (World.size_alloc _ _) ?_; intro b5 c5 w5 k1 k2 k3 k4; have hf5 := hid (((Fr.refl (fun k => blk pao' = some k) wc).alloc _).grown k2 (fun k hk _ => hk)); have sC5 := hid (sC.out.fr hf5.out BCN.out); have h7 := sC5.out.cell 7; simp [cyc] at h7; have z7 := sC5.out.frozen 7; clear d7; have K1 := hid k1; have K3 := hid k3; clear k1 k2 k3)
                  have hf6 := hid ((hf5.out.mono (N := fun k => k = E4.bc ∨ blk pao' = some k) (fun _ _ q => .inr q)).setCell (p := ⟨E4.bc, 7, none⟩) (fun _ => .inl rfl) (.slice (some ⟨b5, 0, none⟩) (dv + 1) c5))
                  have hb5 : b5 ≠ E4.bc := fun q => by
                    rcases K3.out with r | r
                    · exact BCN.out (q ▸ r)
                    · have := sC.out.lt; omega
                  have sC6 := hid (show Rec (w5.setCell ⟨E4.bc, 7, none⟩ (.slice (some ⟨b5, 0, none⟩) (dv + 1) c5)) E4.bc 61 (cyc (.slice E4.aoi E4.n E4.ci) E4.nextv E4.prevv E4.bfo E4.bfi E4.lead (.map (some E4.bm)) (.slice (some ⟨b5, 0, none⟩) (p.length + 1) c5) E4.bs) by
                    rw [HPL.out]
                    simpa [cyc] using sC5.out.set 7 (.slice (some ⟨b5, 0, none⟩) (dv + 1) c5))
                  have sP6 := hid (show Sl (w5.setCell ⟨E4.bc, 7, none⟩ (.slice (some ⟨b5, 0, none⟩) (dv + 1) c5)) 3 1 (some ⟨b5, 0, none⟩) (p.length + 1) c5 (ints (p ++ [v])) by
                    rw [HPL.out]
                    have := K1.out.setOther (p := ⟨E4.bc, 7, none⟩) (by simpa [blk] using hb5) (.slice (some ⟨b5, 0, none⟩) (dv + 1) c5)
                    simpa [ints] using this)
                  clear h7 z7
                  generalize w5.setCell ⟨E4.bc, 7, none⟩ (.slice (some ⟨b5, 0, none⟩) (dv + 1) c5) = w6 at *
                  have hcsz := hid (show ∀ b ∈ E4.blocks, b < wc.heap.size from fun b hb => Nat.lt_of_lt_of_le (HEl4.out b hb) sfx.out.size)
                  have PU := hid (scs.out.push (v := v) (w1 := w6.drew) hv (by rw [HPL.out]; exact hdl2) HLO.out HSZ'.out hls hf6.out.drew sC6.out sP6.out (by rcases K3.out with r | r; exact .inl r; exact .inr (by omega)) hcsz.out)
                  have hnd6 := (List.nodup_cons.1 scs.out.nd).2
                  have keep6 : ∀ b ∈ E4.rest.drop 3, ¬ (b = E4.bc ∨ blk pao' = some b) := by
                    intro b hb q
                    have hnd3 : (E4.rest.take 3 ++ E4.rest.drop 3).Nodup := by rw [List.take_append_drop]; exact hnd6
                    rcases q with q | q
                    · exact (List.nodup_append.1 hnd3).2.2 E4.bc (by simp [Env.rest]) b hb q.symm
                    · exact (scs.out.dp b q).1 (List.mem_cons_of_mem _ (List.mem_of_mem_drop hb))
                  have Fi6 := hid (scs.out.Fi.fr hf6.out (fun b hb => keep6 b (List.mem_of_mem_take (i := 5) hb)))
                  have c8 := sC6.out.cell 8
                  have c4 := sC6.out.cell 4
                  simp [cyc] at c8 c4
                  have f2' := Fi6.out.str.cell 2
                  have f3' := Fi6.out.str.cell 3
                  simp at f2' f3'
                  have e2 := Fi6.out.i2.cell hv
                  have e3 := Fi6.out.i3.cell hv
                  rw [HSZ'.out] at e2
                  rw [HLO.out] at e3
                  have hwr : IntKind.i64.wrap ((lo : Int) + (sz : Int)) = (lo : Int) + (sz : Int) := by rw [IntKind.wrap_i64]; omega
                  have KP := hid (show ∀ b ∈ E4.rest.take 1 ++ E4.rest.drop 3, ¬ (b = E4.bs ∨ b = E4.bt ∨ blk ao' = some b) by
                    intro b hb
                    rintro (q | q | q)
                    · simp only [List.mem_append] at hb
                      rcases hb with r | r
                      · simp [Env.rest] at r
                        exact nd_ne hnd6 (i := 0) (j := 1) rfl rfl (by decide) (r.symm.trans q)
                      · have hnd3 : (E4.rest.take 3 ++ E4.rest.drop 3).Nodup := by rw [List.take_append_drop]; exact hnd6
                        exact (List.nodup_append.1 hnd3).2.2 E4.bs (by simp [Env.rest]) b r q.symm
                    · simp only [List.mem_append] at hb
                      rcases hb with r | r
                      · simp [Env.rest] at r
                        exact nd_ne hnd6 (i := 0) (j := 2) rfl rfl (by decide) (r.symm.trans q)
                      · have hnd3 : (E4.rest.take 3 ++ E4.rest.drop 3).Nodup := by rw [List.take_append_drop]; exact hnd6
                        exact (List.nodup_append.1 hnd3).2.2 E4.bt (by simp [Env.rest]) b r q.symm
                    · simp only [List.mem_append] at hb
                      rcases hb with r | r
                      · exact (scs.out.da b q).1 (List.mem_cons_of_mem _ (List.mem_of_mem_take r))
                      · exact (scs.out.da b q).1 (List.mem_cons_of_mem _ (List.mem_of_mem_drop r)))
                  have KC := hid (show ∀ w7 : World, Fr (fun k => k = E4.bs ∨ k = E4.bt ∨ blk ao' = some k) w6.drew w7 → w7.cell? ⟨E4.bc, 4, none⟩ = some (.pointer (some ⟨E4.bfi, 0, none⟩)) ∧ w7.cell? ⟨E4.bc, 8, none⟩ = some (.pointer (some ⟨E4.bs, 0, none⟩)) ∧ w7.cell? ⟨E4.bfi, 2, none⟩ = some (.slice (some ⟨E4.i2, 0, none⟩) E4.n E4.n) ∧ w7.cell? ⟨E4.bfi, 3, none⟩ = some (.slice (some ⟨E4.i3, 0, none⟩) E4.n E4.n) ∧ w7.cell? ⟨E4.i2, v, none⟩ = some (.int .i64 sz) ∧ w7.cell? ⟨E4.i3, v, none⟩ = some (.int .i64 lo) from
                    fun w7 hf => by
                      have m1 := KP.out E4.bc (by simp [Env.rest])
                      have m2 := KP.out E4.bfi (by simp [Env.rest])
                      have m3 := KP.out E4.i2 (by simp [Env.rest])
                      have m4 := KP.out E4.i3 (by simp [Env.rest])
                      have c4d : w6.drew.cell? ⟨E4.bc, 4, none⟩ = some (.pointer (some ⟨E4.bfi, 0, none⟩)) := c4
                      have c8d : w6.drew.cell? ⟨E4.bc, 8, none⟩ = some (.pointer (some ⟨E4.bs, 0, none⟩)) := c8
                      have f2d : w6.drew.cell? ⟨E4.bfi, 2, none⟩ = some (.slice (some ⟨E4.i2, 0, none⟩) E4.n E4.n) := f2'
                      have f3d : w6.drew.cell? ⟨E4.bfi, 3, none⟩ = some (.slice (some ⟨E4.i3, 0, none⟩) E4.n E4.n) := f3'
                      have e2d : w6.drew.cell? ⟨E4.i2, v, none⟩ = some (.int .i64 sz) := e2
                      have e3d : w6.drew.cell? ⟨E4.i3, v, none⟩ = some (.int .i64 lo) := e3
                      exact ⟨hf.cell c4d m1, hf.cell c8d m1, hf.cell f2d m2, hf.cell f3d m2, hf.cell e2d m3, hf.cell e3d m4⟩)
                  clear hnd6 keep6
                  go_upto_region 26 with fail
                  go_region_held3 (fun w' => w'.cell? ⟨E4.bc, 4, none⟩ = some (.pointer (some ⟨E4.bfi, 0, none⟩)) ∧ w'.cell? ⟨E4.bc, 8, none⟩ = some (.pointer (some ⟨E4.bs, 0, none⟩)) ∧ w'.cell? ⟨E4.bfi, 2, none⟩ = some (.slice (some ⟨E4.i2, 0, none⟩) E4.n E4.n) ∧ w'.cell? ⟨E4.bfi, 3, none⟩ = some (.slice (some ⟨E4.i3, 0, none⟩) E4.n E4.n) ∧ w'.cell? ⟨E4.i2, v, none⟩ = some (.int .i64 sz) ∧ w'.cell? ⟨E4.i3, v, none⟩ = some (.int .i64 lo))
                    (((try simp only [World.cell?_drew]); refine ⟨?_, ?_, ?_, ?_, ?_, ?_⟩ <;> with_reducible assumption))
                    ((go_at_call 43; with_reducible refine PU.out.mono ?_; rintro e w7 ⟨rfl, ao7, c7', cs7, hf7, ha7⟩; obtain ⟨g4, g8, g2, g3, g22, g33⟩ := KC.out w7 hf7))
                  have HCS7 := hid cs7
                  have HF7' := hid hf7
                  have HA7' := hid ha7
                  clear cs7 hf7 ha7 g4 g8 g2 g3 g22 g33 c4 c8 f2' f3' e2 e3
                  go_wp2_with fail
                  go_roundg (od.length - (k + 1))
                  case measure => omega
                  case rel =>
                    have hpath : p ++ [v] = paths E4.dpo p00 od (k + 1) := by
                      rw [paths_succ hk, HVD.out, HDV.out, HP.out]; rfl
                    rw [hpath] at HCS7
                    have hdd' := hdd.out
                    have hwcs := sfx.out.size
                    have hf6s := hf6.out.size
                    have hnp : ∀ b, blk (some (⟨b5, 0, none⟩ : Addr)) = some b → blk pao' = some b ∨ wc.heap.size ≤ b := by
                      intro b hb
                      simp [blk] at hb
                      subst hb
                      rcases K3.out with r | r
                      · exact .inl r
                      · exact .inr (by omega)
                    have hna : ∀ b, blk ao7 = some b → blk ao' = some b ∨ wc.heap.size ≤ b := by
                      intro b hb
                      rcases HA7'.out with r | ⟨x, hx, r⟩
                      · exact .inl (r ▸ hb)
                      · rw [hb] at r; cases r; exact .inr (Nat.le_trans hf6s hx)
                    have hbo : bo4 < wc.heap.size := Arr.lt sor.out
                    have m1 : ∀ b, b = E4.bc ∨ blk pao' = some b → b < wc.heap.size := by
                      rintro b (q | q)
                      · rw [q]; exact sC.out.lt
                      · exact scs.out.P.lt q
                    refine ⟨k + 1, some ⟨b5, 0, none⟩, c5, ao7, c7', cnt2, f2, by omega, by go_num, HCS7, hid ?_, hid ?_, hid ?_, hid ?_, hid ⟨fun b hb => ?_, fun b hb => ?_⟩⟩
                    · have hbm6 : ¬ (E4.bm = E4.bc ∨ blk pao' = some E4.bm) := by
                        rintro (q | q)
                        · exact (List.nodup_cons.1 scs.out.nd).1 (by rw [q]; simp [Env.rest])
                        · exact (scs.out.dp _ q).1 (by simp [Env.blocks])
                      have hbm7 : ¬ (E4.bm = E4.bs ∨ E4.bm = E4.bt ∨ blk ao' = some E4.bm) := by
                        rintro (q | q | q)
                        · exact (List.nodup_cons.1 scs.out.nd).1 (by rw [q]; simp [Env.rest])
                        · exact (List.nodup_cons.1 scs.out.nd).1 (by rw [q]; simp [Env.rest])
                        · exact (scs.out.da _ q).1 (by simp [Env.blocks])
                      have x1 := smp.out.of_block (hf6.out.drew.block _ smp.out.lt hbm6)
                      exact x1.of_block (HF7'.out.block _ x1.lt hbm7)
                    · have y1 := sgot.out.fr hf6.out.drew (pao' := some ⟨b5, 0, none⟩) (ao' := ao') (fun b hb _ q => by
                        rcases q with q | q
                        · have := HEl4.out E4.bc (by simp [Env.blocks, Env.rest]); omega
                        · exact .inl q) hnp (fun b hb => .inl hb)
                      refine y1.fr HF7'.out (pao' := some ⟨b5, 0, none⟩) (ao' := ao7) (fun b hb _ q => by
                        rcases q with q | q | q
                        · have := HEl4.out E4.bs (by simp [Env.blocks, Env.rest]); omega
                        · have := HEl4.out E4.bt (by simp [Env.blocks, Env.rest]); omega
                        · exact .inr q) (fun b hb => .inl hb) (fun b hb => ?_)
                      rcases HA7'.out with r | ⟨x, hx, r⟩
                      · exact .inl (r ▸ hb)
                      · rw [hb] at r; cases r; exact .inr hx
                    · refine Arr.fr (Arr.fr sor.out hf6.out.drew (fun q => ?_)) HF7'.out (fun q => ?_)
                      · rcases q with q | q
                        · have := HEl4.out E4.bc (by simp [Env.blocks, Env.rest]); omega
                        · exact (hdd'.1 _ q).2 rfl
                      · rcases q with q | q | q
                        · have := HEl4.out E4.bs (by simp [Env.blocks, Env.rest]); omega
                        · have := HEl4.out E4.bt (by simp [Env.blocks, Env.rest]); omega
                        · exact (hdd'.2 _ q).2 rfl
                    · refine (sfx.out.trans hf6.out.drew (fun b hb q => ?_)).trans HF7'.out (fun b hb q => ?_)
                      · rcases q with q | q
                        · rw [q]; exact HX4.out _ (by simp [Env.blocks, Env.rest])
                        · rcases (hdd'.1 _ q).1 with r | r
                          · exact HX2.out b (.inl r)
                          · omega
                      · rcases q with q | q | q
                        · rw [q]; exact HX4.out _ (by simp [Env.blocks, Env.rest])
                        · rw [q]; exact HX4.out _ (by simp [Env.blocks, Env.rest])
                        · rcases (hdd'.2 _ q).1 with r | r
                          · exact HX2.out b (.inr r)
                          · omega
                    · rcases hnp b hb with q | q
                      · exact hdd'.1 b q
                      · exact ⟨.inr (by omega), by omega⟩
                    · rcases hna b hb with q | q
                      · exact hdd'.2 b q
                      · exact ⟨.inr (by omega), by omega⟩
          · have hk' : k = od.length := by omega
            subst hk'
            go_wp2_with fail
            go_end0
            refine ⟨rfl, hfx.out, fun q => ?_, fun _ => ⟨pao', pc', ao', c', cnt', f', hcs.out, ?_, ?_, fun b hb => (hdd.out.1 b hb).1, fun b hb => (hdd.out.2 b hb).1⟩⟩
            · rw [← HS.out] at q; omega
            · rw [← hb4.out]; exact hmp.out
            · have := hgot.out
              rw [List.take_length] at this
              exact this

end Go.Proofs.Qxb6615025a
