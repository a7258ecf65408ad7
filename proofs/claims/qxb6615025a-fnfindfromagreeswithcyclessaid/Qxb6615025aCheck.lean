/- The model, built; cycleOK (13), where the cycle is one. -/
import Derived.Test.Qxb6615025aBld0
import Derived.Test.Qxb6615025aSame
import Derived.BigRegion
import Derived.BigQuiet
import Derived.Deep.DeepCutAuto
namespace Go.Proofs.Qxb6615025a
open Go.RowKit Go.MapKept

/-- The model, built. -/
structure MS (w : World) (bm bx bd bsc bse n : Nat) (ks : List ByteArray) (src : List Nat) (ak : Option Addr) (ck : Nat) (as' : Option Addr) (cs : Nat) (v3 : Value) (D SC seen : Nat → Int) (t : Nat) : Prop where
  st : Rec w bm 37 #[.int .i64 (n : Int), .slice ak n ck, .slice as' n cs, v3, .slice (some ⟨bd, 0, none⟩) (n * n) (n * n), .slice (some ⟨bsc, 0, none⟩) n n, .slice (some ⟨bse, 0, none⟩) n n, .int .i64 (t : Int), .map (some bx)]
  k : Sl w 9 1 ak n ck (strs ks)
  s : Sl w 3 1 as' n cs (ints src)
  m : MapAt .string w bx n (fix ks)
  d : Ints w bd (n * n) D
  c : Ints w bsc n SC
  e : Ints w bse n seen
  nd : [bm, bx, bd, bsc, bse].Nodup
  fk : ∀ g, blk ak = some g → g ∉ [bm, bx, bd, bsc, bse]
  fs : ∀ g, blk as' = some g → g ∉ [bm, bx, bd, bsc, bse]
  kl : ks.length = n
  sl : src.length = n
  kn : ks.Nodup
  nn : n ≤ 1024

theorem MS.fr {M : Nat → Prop} {w w' : World} {bm bx bd bsc bse n : Nat} {ks : List ByteArray} {src : List Nat} {ak : Option Addr} {ck : Nat} {as' : Option Addr} {cs : Nat} {v3 : Value} {D SC seen : Nat → Int} {t : Nat}
    (h : MS w bm bx bd bsc bse n ks src ak ck as' cs v3 D SC seen t) (hf : Fr M w w') (h1 : ∀ b ∈ [bm, bx, bd, bsc, bse], ¬ M b) (h2 : ∀ g, blk ak = some g ∨ blk as' = some g → ¬ M g) : MS w' bm bx bd bsc bse n ks src ak ck as' cs v3 D SC seen t :=
  ⟨h.st.fr hf (h1 _ (by simp)), h.k.fr hf (fun g hg => h2 g (.inl hg)), h.s.fr hf (fun g hg => h2 g (.inr hg)), h.m.of_block (hf.block bx h.m.lt (h1 _ (by simp))), Arr.fr h.d hf (h1 _ (by simp)), Arr.fr h.c hf (h1 _ (by simp)), Arr.fr h.e hf (h1 _ (by simp)), h.nd, h.fk, h.fs, h.kl, h.sl, h.kn, h.nn⟩

theorem MS.drewN {w : World} {bm bx bd bsc bse n : Nat} {ks : List ByteArray} {src : List Nat} {ak : Option Addr} {ck : Nat} {as' : Option Addr} {cs : Nat} {v3 : Value} {D SC seen : Nat → Int} {t : Nat}
    (h : MS w bm bx bd bsc bse n ks src ak ck as' cs v3 D SC seen t) (j : Nat) : MS (w.drewN j) bm bx bd bsc bse n ks src ak ck as' cs v3 D SC seen t :=
  ⟨h.st, h.k, h.s, h.m, h.d, h.c, h.e, h.nd, h.fk, h.fs, h.kl, h.sl, h.kn, h.nn⟩

theorem MS.stamp {w : World} {bm bx bd bsc bse n : Nat} {ks : List ByteArray} {src : List Nat} {ak : Option Addr} {ck : Nat} {as' : Option Addr} {cs : Nat} {v3 : Value} {D SC seen : Nat → Int} {t : Nat}
    (h : MS w bm bx bd bsc bse n ks src ak ck as' cs v3 D SC seen t) (t' : Nat) : MS (w.setCell ⟨bm, 7, none⟩ (.int .i64 (t' : Int))) bm bx bd bsc bse n ks src ak ck as' cs v3 D SC seen t' := by
  have hnd := h.nd
  simp at hnd
  refine ⟨by simpa using h.st.set 7 (.int .i64 (t' : Int)), h.k.setOther (p := ⟨bm, 7, none⟩) (fun q => h.fk _ q (by simp)) _, h.s.setOther (p := ⟨bm, 7, none⟩) (fun q => h.fs _ q (by simp)) _, h.m.of_block (Below.heap_setCell _ _ _ bx (by simp; omega)),
    Arr.setOther h.d (by simp; omega) _, Arr.setOther h.c (by simp; omega) _, Arr.setOther h.e (by simp; omega) _, h.nd, h.fk, h.fs, h.kl, h.sl, h.kn, h.nn⟩

theorem MS.mark {w : World} {bm bx bd bsc bse n : Nat} {ks : List ByteArray} {src : List Nat} {ak : Option Addr} {ck : Nat} {as' : Option Addr} {cs : Nat} {v3 : Value} {D SC seen : Nat → Int} {t : Nat}
    (h : MS w bm bx bd bsc bse n ks src ak ck as' cs v3 D SC seen t) (x : Nat) (u : Int) : MS (w.setCell ⟨bse, x, none⟩ (.int .i64 u)) bm bx bd bsc bse n ks src ak ck as' cs v3 D SC (upd seen x u) t := by
  have hnd := h.nd
  simp at hnd
  refine ⟨h.st.setOther (p := ⟨bse, x, none⟩) (by simp; omega) _, h.k.setOther (p := ⟨bse, x, none⟩) (fun q => h.fk _ q (by simp)) _, h.s.setOther (p := ⟨bse, x, none⟩) (fun q => h.fs _ q (by simp)) _, h.m.of_block (Below.heap_setCell _ _ _ bx (by simp; omega)),
    Arr.setOther h.d (by simp; omega) _, Arr.setOther h.c (by simp; omega) _, Ints.set h.e x u, h.nd, h.fk, h.fs, h.kl, h.sl, h.kn, h.nn⟩

/-- A cycle through v, in terms of the distances. -/
structure CyD (n : Nat) (D : Nat → Int) (v : Nat) (c : List Nat) : Prop where
  lt : ∀ x ∈ c, x < n
  sm : ∀ x ∈ c, sameB D n v x = true
  nd : c.Nodup
  hd : c.getD 0 0 = v
  pos : 0 < c.length
  st : ∀ i, i + 1 < c.length → D (c.getD i 0 * n + c.getD (i + 1) 0) = 1
  cl : 1 < c.length → D (c.getD (c.length - 1) 0 * n + v) = 1

set_option maxRecDepth 100000 in
set_option maxHeartbeats 16000000 in
theorem cycleOK_any (w : World) (bm bx bd bsc bse n : Nat) (ks : List ByteArray) (src : List Nat) (ak : Option Addr) (ck : Nat) (as' : Option Addr) (cs : Nat) (v3 : Value) (D SC seen : Nat → Int) (t v lead : Nat) (cy : List Nat) (a : Option Addr) (cc : Nat)
    (h : MS w bm bx bd bsc bse n ks src ak ck as' cs v3 D SC seen t) (hv : v < n) (ht : t ≤ 4096) (hse : ∀ x, x < n → seen x ≤ t) (hcy : CyD n D v cy) (hlead : lead < 9223372036854775808) (hL : cy.length ≤ 1024)
    (hsc : 0 < SC v) (hsc2 : SC v ≤ cy.length) (hcs : cy.length ≤ cnt D n v n)
    (hS : Sl w 9 1 a (cy.take lead).length cc (names ks (cy.take lead))) (ha : ∀ g, blk a = some g → g ∉ [bm, bx, bd, bsc, bse]) :
    Calls Try.prog 13 #[.pointer (some ⟨bm, 0, none⟩), .int .i64 v, .int .i64 lead, .agg #[.int .i64 (cy.length : Int), .slice a (cy.take lead).length cc]] w fun e w' => e = .returned (.bool true) ∧
      ∃ seen', MS w' bm bx bd bsc bse n ks src ak ck as' cs v3 D SC seen' (t + 1) ∧ (∀ x, x < n → seen' x ≤ t + 1) ∧ Fr (fun k => k = bm ∨ k = bse) w w' := by
  have hnn := h.nn
  have HM := hid h
  have HSE := hid hse
  have HCY := hid hcy
  have HS := hid hS
  have HA := hid ha
  clear h hse hcy hS ha
  obtain ⟨L, hLe⟩ : ∃ L, L = cy.length := ⟨_, rfl⟩
  obtain ⟨K, hKe⟩ : ∃ K, K = (cy.take lead).length := ⟨_, rfl⟩
  have hKm : K = min lead L := by rw [hKe, hLe]; simp
  have HL := hid hLe
  have HK := hid hKe
  have HKM := hid hKm
  rw [← hLe, ← hKe]
  rw [← hLe] at hL hsc2 hcs
  rw [← hKe] at HS
  have hKL : K ≤ L := by omega
  have hKl : K ≤ lead := by omega
  have hLp : 0 < L := by rw [hLe]; exact HCY.out.pos
  clear hLe hKe hKm
  obtain ⟨p, hp⟩ : ∃ p, p = w.heap.size := ⟨_, rfl⟩
  have B0 := hid (show Rec (w.alloc (.cells #[.int .i64 (L : Int), .slice a K cc] 39)) p 39 #[.int .i64 (L : Int), .slice a K cc] from Rec.newAt _ 39 p _ hp.symm)
  have M0 := hid (HM.out.fr (M := Nothing) ((Fr.refl _ w).alloc (.cells #[.int .i64 (L : Int), .slice a K cc] 39)) (fun _ _ q => q) (fun _ _ q => q))
  have S0 := hid (HS.out.alloc (.cells #[.int .i64 (L : Int), .slice a K cc] 39))
  have F0 := hid (show Fr (fun k => k = bm ∨ k = bse) w (w.alloc (.cells #[.int .i64 (L : Int), .slice a K cc] 39)) from (Fr.refl _ w).alloc _)
  have HP := hid (show bm < p ∧ bse < p ∧ (∀ g, blk a = some g → g ≠ p) from by
    refine ⟨by rw [hp]; exact HM.out.st.lt, by rw [hp]; exact Arr.lt HM.out.e, fun g hg q => ?_⟩
    have := HS.out.lt hg
    omega)
  have c4 := M0.out.st.cell 4
  have c5 := M0.out.st.cell 5
  have c0 := M0.out.st.cell 0
  simp only [List.size_toArray, List.length_cons, List.length_nil, Nat.zero_add, Nat.reduceAdd, Nat.reduceLT, Nat.zero_lt_succ, getElem?_pos, List.getElem_toArray, List.getElem_cons_succ, List.getElem_cons_zero] at c0 c4 c5
  have b0 := B0.out.cell 0
  have b1 := B0.out.cell 1
  simp at b0 b1
  have s5 := M0.out.c.cell hv
  obtain ⟨sv, hsv⟩ : ∃ sv, SC v = sv := ⟨_, rfl⟩
  rw [hsv] at s5 hsc hsc2
  have H31 := hid (fun q => compSize_any bm bd n v D ((w.alloc (.cells #[.int .i64 (L : Int), .slice a K cc] 39)).drewN q) hnn hv c0 c4 M0.out.d)
  obtain ⟨cn, hcn⟩ : ∃ cn, cnt D n v n = cn := ⟨_, rfl⟩
  rw [hcn] at H31 hcs
  have g1 : (sv == 0) = false := by simp; omega
  have g2 : decide ((L : Int) < sv) = false := by simp; omega
  have g3 : decide ((cn : Int) < (L : Int)) = false := by simp; omega
  go_enter Try.func13, Try.ntmps13
  go_upto_region 1 with fail
  rw [← hp]
  clear hp hsv hcn
  generalize w.alloc (.cells #[.int .i64 (L : Int), .slice a K cc] 39) = w0 at *
  go_quiet ((refine (H31.out _).mono ?_; rintro e w'' ⟨he, kk, rfl⟩; first | exact ⟨he, _, rfl⟩ | exact ⟨he, _, by rw [World.drewN_drewN]⟩))
  have hMq := hid (M0.out.drewN nq)
  have hSq := hid (S0.out.drewN nq)
  have hFq := hid (F0.out.drewN nq)
  have hBq := hid (show Rec (w0.drewN nq) p 39 #[.int .i64 (L : Int), .slice a K cc] from B0.out)
  have b0' : (w0.drewN nq).cell? ⟨p, 0, none⟩ = some (.int .i64 (L : Int)) := b0
  clear c0 c4 c5 b0 b1 s5 H31 M0 S0 F0 B0 g1 g2 g3
  generalize w0.drewN nq = w1 at *
  go_upto_if 46 with fail
  go_cut [9] (fun s9 wc => s9 = .int .i64 (K : Int) ∧ wc = w1)
  case first =>
    by_cases hlt : L < lead
    · have e : K = L := by have := HKM.out; omega
      have E := hid e
      clear e
      go_wp2_with fail
      go_meet
      case rel => exact ⟨by rw [E.out], rfl⟩
    · have e : K = lead := by have := HKM.out; omega
      have E := hid e
      clear e
      go_wp2_with fail
      go_meet
      case rel => exact ⟨by rw [E.out], rfl⟩
  case rest =>
    obtain ⟨rfl, rfl⟩ := hcut
    have b1 := hBq.out.cell 1
    simp at b1
    have c7 := hMq.out.st.cell 7
    have z7 := hMq.out.st.frozen 7
    simp only [List.size_toArray, List.length_cons, List.length_nil, Nat.zero_add, Nat.reduceAdd, Nat.reduceLT, getElem?_pos, List.getElem_toArray, List.getElem_cons_succ, List.getElem_cons_zero] at c7
    go_upto_region 9 with fail
    have M2 := hid (hMq.out.stamp (t + 1))
    have S2 := hid (hSq.out.setOther (p := ⟨bm, 7, none⟩) (fun q => HA.out _ q (by simp)) (.int .i64 ((t + 1 : Nat) : Int)))
    have F2 := hid (hFq.out.setCell (p := ⟨bm, 7, none⟩) (fun _ => .inl rfl) (.int .i64 ((t + 1 : Nat) : Int)))
    have B2 := hid (hBq.out.setOther (p := ⟨bm, 7, none⟩) (by have := HP.out; simp; omega) (.int .i64 ((t + 1 : Nat) : Int)))
    clear b0' b1 c7 z7 hMq hSq hFq hBq
    rw [show (t : Int) + 1 = ((t + 1 : Nat) : Int) by omega]
    generalize wc.setCell ⟨bm, 7, none⟩ (.int .i64 ((t + 1 : Nat) : Int)) = w2 at *
    obtain ⟨t1, ht1⟩ : ∃ t1, t1 = t + 1 := ⟨_, rfl⟩
    rw [← ht1] at M2
    have HT1 := hid ht1
    have ht2 : t1 ≤ 4097 := by omega
    clear ht1
    go_wp2_with fail
    go_loopg [10, 11, 12, 13] K (fun gg s10 s11 s12 s13 wr => ∃ (i : Nat) (se : Nat → Int), gg + i = K ∧ s11 = .int .i64 (i : Int) ∧ s10 = .int .i64 (if i = 0 then -1 else ((cy.getD (i - 1) 0 : Nat) : Int)) ∧ Hid (MS wr bm bx bd bsc bse n ks src ak ck as' cs v3 D SC se t1) ∧ Hid (∀ x, x < n → se x ≤ t1 ∧ (x ∉ cy.take i → se x < t1)) ∧
      Hid (Sl wr 9 1 a K cc (names ks (cy.take lead))) ∧ Hid (Fr (fun k => k = bm ∨ k = bse) w wr) ∧ Hid (Rec wr p 39 #[.int .i64 (L : Int), .slice a K cc]))
    case atStart => exact ⟨0, seen, by omega, rfl, rfl, M2, hid (fun x hx => by have := HSE.out x hx; have := HT1.out; exact ⟨by omega, fun _ => by omega⟩), S2, F2, B2⟩
    case round =>
      obtain ⟨i, se, hgi, rfl, rfl, hM, hse, hS, hF, hB⟩ := hrel
      have b0 := hB.out.cell 0
      have b1 := hB.out.cell 1
      simp at b0 b1
      have c0 := hM.out.st.cell 0
      have c4 := hM.out.st.cell 4
      have c6 := hM.out.st.cell 6
      have c7 := hM.out.st.cell 7
      have c8 := hM.out.st.cell 8
      simp only [List.size_toArray, List.length_cons, List.length_nil, Nat.zero_add, Nat.reduceAdd, Nat.reduceLT, Nat.zero_lt_succ, getElem?_pos, List.getElem_toArray, List.getElem_cons_succ, List.getElem_cons_zero] at c0 c4 c6 c7 c8
      by_cases hi : i < K
      · have hiL : i < cy.length := by rw [← HL.out]; omega
        have hil : i < lead := by omega
        have hxm : cy[i] ∈ cy := List.getElem_mem hiL
        have hxn : cy[i] < n := HCY.out.lt _ hxm
        have hxs : sameB D n v cy[i] = true := HCY.out.sm _ hxm
        have hxg : (names ks (cy.take lead))[i]? = some (.string (ks.getD cy[i] ByteArray.empty)) := by
          simp [names, hil, hiL]
        obtain ⟨ga, hga, q1⟩ := hS.out.cell hxg
        have hkx : cy[i] < ks.length := by rw [HM.out.kl]; exact hxn
        have hidx : idx ks (ks.getD cy[i] ByteArray.empty) = some cy[i] := idx_get HM.out.kn (by simp [hkx])
        have hl2 : ∀ q, (Instr.lookup 35 (.map (some bx)) (.string (ks.getD cy[i] ByteArray.empty)) true).run Try.prog (wr.drewN q) = _ := fun q => ((hM.out.drewN q).m).look (k := .string (ks.getD cy[i] ByteArray.empty)) und35 Try.underlying9 (z3 (wr.drewN q)) (isS _) true
        simp only [if_true, fix, hidx, Option.map_some, Option.getD_some, Option.isSome_some] at hl2
        have hnot : cy[i] ∉ cy.take i := fun q => by
          obtain ⟨j, hj, e⟩ := List.getElem_of_mem q
          simp only [List.length_take] at hj
          rw [List.getElem_take] at e
          have := (List.getElem?_inj hiL HCY.out.nd).1 (by rw [List.getElem?_eq_getElem hiL, List.getElem?_eq_getElem (by omega), e] : cy[i]? = cy[j]?)
          omega
        have hsx := (hse.out _ hxn).2 hnot
        have HTK := hid (show cy.take (i + 1) = cy.take i ++ [cy[i]] from List.take_succ_eq_append_getElem hiL)
        have HCI := hid (show cy.getD i 0 = cy[i] by simp [hiL])
        have e6 := hM.out.e.cell hxn
        have z6 := hM.out.e.frozen cy[i]
        have H17 := hid (fun q => same_any bm bd n v cy[i] D (wr.drewN q) hnn hv hxn c0 c4 hM.out.d)
        rw [hxs] at H17
        clear hidx hnot hxg
        generalize ks.getD cy[i] ByteArray.empty = sx at *
        generalize hX : cy[i] = x at *
        obtain ⟨sex, hsex⟩ : ∃ y, se x = y := ⟨_, rfl⟩
        rw [hsex] at e6 hsx
        have g1 : (sex == (t1 : Int)) = false := by simp; omega
        go_upto_region 13 with fail
        go_quiet (fail)
        obtain ⟨nq1, rfl⟩ : ∃ q, q = nq := ⟨_, rfl⟩
        go_upto_region 14 with fail
        go_quiet ((refine (H17.out _).mono ?_; rintro e w'' ⟨he, kk, rfl⟩; first | exact ⟨he, _, rfl⟩ | exact ⟨he, _, by rw [World.drewN_drewN]⟩ | exact ⟨he, _, by rw [World.drewN_drewN, Nat.add_assoc]⟩))
        go_upto_region 16 with fail
        go_region
        have M3 := hid ((hM.out.drewN (nq1 + nq + 1)).mark x (t1 : Int))
        have S3 := hid ((hS.out.drewN (nq1 + nq + 1)).setOther (p := ⟨bse, x, none⟩) (fun q => HA.out _ q (by simp)) (.int .i64 (t1 : Int)))
        have F3 := hid ((hF.out.drewN (nq1 + nq + 1)).setCell (p := ⟨bse, x, none⟩) (fun _ => .inr rfl) (.int .i64 (t1 : Int)))
        have B3 := hid (show Rec ((wr.drewN (nq1 + nq + 1)).setCell ⟨bse, x, none⟩ (.int .i64 (t1 : Int))) p 39 #[.int .i64 (L : Int), .slice a K cc] from Rec.setOther hB.out (p := ⟨bse, x, none⟩) (by have := HP.out; simp; omega) _)
        have E3 := hid (show ∀ y, y < n → upd se x (t1 : Int) y ≤ t1 ∧ (y ∉ cy.take (i + 1) → upd se x (t1 : Int) y < t1) from fun y hy => by
          rw [HTK.out]
          by_cases e : y = x
          · subst e; simp
          · rw [upd_other _ _ e]
            refine ⟨(hse.out y hy).1, fun q => (hse.out y hy).2 (fun r => q (by simp [r]))⟩)
        clear hM hS hF hB hse hl2 H17 c0 c4 c6 c7 c8 b0 b1 e6 z6 q1 g1 hsx hsex
        generalize (wr.drewN (nq1 + nq + 1)).setCell ⟨bse, x, none⟩ (.int .i64 (t1 : Int)) = w3 at *
        have c0 := M3.out.st.cell 0
        have c4 := M3.out.st.cell 4
        simp only [List.size_toArray, List.length_cons, List.length_nil, Nat.zero_add, Nat.reduceAdd, Nat.reduceLT, Nat.zero_lt_succ, getElem?_pos, List.getElem_toArray, List.getElem_cons_succ, List.getElem_cons_zero] at c0 c4
        by_cases hi0 : i = 0
        · subst hi0
          have hxv : x = v := by rw [← HCI.out]; exact HCY.out.hd
          have HXV := hid hxv
          have gx : ((x : Int) != (v : Int)) = false := by simp [hxv]
          clear hxv
          go_upto_region 19 with fail
          go_quiet (fail)
          go_wp2_with fail
          rw [← hga]
          go_roundg (gk - 1)
          case measure => omega
          case rel => exact ⟨1, upd se x t1, by omega, rfl, by rw [if_neg (by omega), Nat.sub_self, HCI.out], hid (M3.out.drewN _), E3, hid (S3.out.drewN _), hid (F3.out.drewN _), hid B3.out⟩
        · have hip : 0 < i := by omega
          have gi : ((i : Int) == 0) = false := by simp; omega
          have gi2 : decide ((0 : Int) < (i : Int)) = true := by simp; omega
          obtain ⟨pv, hpv⟩ : ∃ pv, cy.getD (i - 1) 0 = pv := ⟨_, rfl⟩
          have hpn : pv < n := by
            rw [← hpv]
            refine HCY.out.lt _ ?_
            have : i - 1 < cy.length := by omega
            simp [this]
          obtain ⟨sb1, sb2⟩ := sq_bound hnn hpn hxn
          have d1 := M3.out.d.cell sb1
          have hD1 : D (pv * n + x) = 1 := by
            have := HCY.out.st (i - 1) (by omega)
            rw [hpv, show i - 1 + 1 = i by omega, HCI.out] at this
            exact this
          rw [hD1] at d1
          have m1 : pv * n ≤ 1048576 := by omega
          rw [if_neg hi0, hpv]
          clear hpv hD1
          go_upto_region 19 with fail
          go_quiet (fail)
          go_wp2_with fail
          rw [← hga]
          go_roundg (gk - 1)
          case measure => omega
          case rel => exact ⟨i + 1, upd se x t1, by omega, by go_num, by rw [if_neg (by omega), Nat.add_sub_cancel, HCI.out], hid (M3.out.drewN _), E3, hid (S3.out.drewN _), hid (F3.out.drewN _), hid B3.out⟩
      · have hiK : i = K := by omega
        have HMp := hid (show ∃ seen', MS wr bm bx bd bsc bse n ks src ak ck as' cs v3 D SC seen' (t + 1) ∧ (∀ x, x < n → seen' x ≤ t + 1) from ⟨se, by rw [← HT1.out]; exact hM.out, fun x hx => by have := (hse.out x hx).1; have := HT1.out; omega⟩)
        by_cases hKL2 : K = L
        · by_cases hL1 : 1 < L
          · have hi0 : i ≠ 0 := by omega
            obtain ⟨pv, hpv⟩ : ∃ pv, cy.getD (i - 1) 0 = pv := ⟨_, rfl⟩
            have hpn : pv < n := by
              rw [← hpv]
              refine HCY.out.lt _ ?_
              have : i - 1 < cy.length := by rw [← HL.out]; omega
              simp [this]
            obtain ⟨sb1, sb2⟩ := sq_bound hnn hpn hv
            have d1 := hM.out.d.cell sb1
            have hD1 : D (pv * n + v) = 1 := by
              have := HCY.out.cl (by rw [← HL.out]; exact hL1)
              rw [← HL.out, ← hKL2, ← hiK, hpv] at this
              exact this
            rw [hD1] at d1
            have m1 : pv * n ≤ 1048576 := by omega
            rw [if_neg hi0, hpv]
            have g0 : ((K : Int) == (L : Int)) = true := by simp [hKL2]
            have g1 : decide ((1 : Int) < (L : Int)) = true := by simp; omega
            have HKL2 := hid hKL2
            clear hpv hD1 hKL2
            go_upto_region 22 with fail
            go_quiet (fail)
            go_wp2_with fail
            go_ret
            obtain ⟨seen', h1, h2⟩ := HMp.out
            exact ⟨rfl, seen', h1.drewN _, h2, hF.out.drewN _⟩
          · have g0 : ((K : Int) == (L : Int)) = true := by simp [hKL2]
            have g1 : decide ((1 : Int) < (L : Int)) = false := by simp; omega
            have HKL2 := hid hKL2
            clear hKL2
            generalize (if i = 0 then (-1 : Int) else ((cy.getD (i - 1) 0 : Nat) : Int)) = pz
            go_upto_region 22 with fail
            go_quiet (fail)
            go_wp2_with fail
            go_ret
            obtain ⟨seen', h1, h2⟩ := HMp.out
            exact ⟨rfl, seen', h1.drewN _, h2, hF.out.drewN _⟩
        · have g0 : ((K : Int) == (L : Int)) = false := by simp; omega
          generalize (if i = 0 then (-1 : Int) else ((cy.getD (i - 1) 0 : Nat) : Int)) = pz
          go_upto_region 22 with fail
          go_quiet (fail)
          go_wp2_with fail
          go_ret
          obtain ⟨seen', h1, h2⟩ := HMp.out
          exact ⟨rfl, seen', h1.drewN _, h2, hF.out.drewN _⟩
end Go.Proofs.Qxb6615025a
