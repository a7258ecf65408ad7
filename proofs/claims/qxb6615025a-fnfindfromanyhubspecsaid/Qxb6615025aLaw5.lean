-- The law FnFindFromAnyHubSpec (5).
import Derived.Test.Qxb6615025aPlain2
import Derived.Test.Qxb6615025aBuild
import Derived.BigQuiet
import Derived.Deep.DeepCutAuto
namespace Go.Proofs.Qxb6615025a
open Go.RowKit Go.MapKept


theorem z39 (w : World) : (zeroValue 39).run Try.prog w = .ok (.agg #[.int .i64 0, .slice none 0 0]) w := by kernel_rfl

theorem MapAt.len28 {w : World} {b c : Nat} {f : Value → Option Value} (h : MapAt .string w b c f) : (Builtin.len_ #[28] 3 #[.map (some b)]).run Try.prog w = .ok (.int .i64 (c : Int)) w := by
  obtain ⟨es, cl, hb, hn, _⟩ := h
  rw [← hn]
  exact run_len_map w 28 3 b es cl (by kernel_rfl) hb

theorem key_inj {ks : List ByteArray} (hnd : ks.Nodup) {u v : Nat} (hu : u < ks.length) (hv : v < ks.length) (e : ks.getD u ByteArray.empty = ks.getD v ByteArray.empty) : u = v := by
  simp only [List.getD_eq_getElem?_getD, List.getElem?_eq_getElem hu, List.getElem?_eq_getElem hv, Option.getD_some] at e
  exact (List.getElem?_inj hu hnd).1 (by rw [List.getElem?_eq_getElem hu, List.getElem?_eq_getElem hv, e])

theorem keys_nodup {ks : List ByteArray} (hnd : ks.Nodup) (f : Nat → Bool) : (((List.range ks.length).filter f).map fun v => Value.string (ks.getD v ByteArray.empty)).Nodup := by
  unfold List.Nodup
  rw [List.pairwise_map]
  refine List.Pairwise.imp_of_mem ?_ (List.nodup_range.sublist List.filter_sublist)
  intro a b ha hb hne e
  simp only [List.mem_filter, List.mem_range] at ha hb
  simp only [Value.string.injEq] at e
  exact hne (key_inj hnd ha.1 hb.1 e)

theorem el44 : El 44 4 1 1 (.bool false) := ⟨Try.underlying44, by kernel_rfl, rfl, by decide, by decide⟩

set_option maxRecDepth 100000 in
set_option maxHeartbeats 16000000 in
theorem law5_any (ai ae : Option Addr) (ci ce : Nat) (ids : List ByteArray) (ra : Nat → Option Addr) (rc : Nat → Nat) (rl : List (List ByteArray)) (lead hub : Int) (w : World) (hi : Str w ai ids) (he : Edg w ae ra rc rl)
    (hl : lead < 9223372036854775808) (hh : -9223372036854775808 ≤ hub ∧ hub < 9223372036854775808) :
    Calls Try.prog 5 #[.slice ai ids.length ci, .slice ae rl.length ce, .int .i64 lead, .int .i64 hub] w fun e w' => e = .returned (.bool true) ∧ Fr Nothing w w' := by
  have HI := hid hi
  have HE := hid he
  have H16 := hid (fun w' (hf : Fr Nothing w w') => zzBytes16_any ai ae ci ce ids ra rc rl (.int .i64 lead) (.int .i64 hub) w' (hi.fr hf) (he.fr hf))
  have H9 := hid (fun w' (hf : Fr Nothing w w') => zzTooBig_any ai ae ci ce ids ra rc rl w' (hi.fr hf) (he.fr hf))
  clear hi he
  go_enter Try.func5, Try.ntmps5
  go_upto_if 22 with (go_at_call 16; with_reducible refine (H16.out _ (Fr.refl _ w)).mono ?_; rintro e w1 ⟨r, rfl, k1, hw1⟩; subst hw1)
  cases r with
  | false =>
    go_wp2_with fail
    go_ret
    exact ⟨rfl, (Fr.refl _ w).drewN _⟩
  | true =>
    have F1 := hid (show Fr Nothing w (w.drewN k1) from (Fr.refl _ w).drewN _)
    generalize w.drewN k1 = w1 at *
    go_upto_if 25 with (go_at_call 9; with_reducible refine (H9.out _ F1.out).mono ?_; rintro e w2 ⟨r, rfl, ⟨k2, hw2⟩, hbig⟩; subst hw2)
    cases r with
    | true =>
      go_wp2_with fail
      go_ret
      exact ⟨rfl, F1.out.drewN _⟩
    | false =>
      obtain ⟨hb1, hb2, hb3, hb4⟩ := hbig rfl
      have HB2 := hid hb2
      have HB4 := hid hb4
      clear hb2 hbig hb3 hb4
      have F2 := hid (F1.out.drewN k2)
      generalize w1.drewN k2 = w2 at *
      by_cases hl0 : lead < 0
      · go_wp2_with fail
        go_ret
        exact ⟨rfl, F2.out⟩
      · obtain ⟨ln, rfl⟩ : ∃ ln : Nat, lead = ln := ⟨lead.toNat, by omega⟩
        have H10 := hid (zzBuild_any ai ae ci ce ids ra rc rl w2 (HI.out.fr F2.out) (HE.out.fr F2.out) hb1 HB2.out (fun s => by
          have h1 := sm_tot rl (s + 1)
          have h2 : (rl.getD s []).length ≤ sm (fun i => (rl.getD i []).length) (s + 1) := by
            show _ ≤ sm _ s + (rl.getD s []).length
            omega
          have := HB4.out
          omega))
        have HLN := hid (show ln < 9223372036854775808 by omega)
        have gl0 : decide ((ln : Int) < 0) = false := by simp
        clear hl0 hl
        go_upto_region 8 with (go_at_call 10; with_reducible refine H10.out.mono ?_; rintro e w3 ⟨bm, bx, bd, bsc, bse, n, ks, src, ak, ck, as', cs, v3, D, g, rfl, hMS, hKS, hg, hD, hF3, hblk, hblk2⟩)
        have M3 := hid hMS
        have K3 := hid hKS
        have HG := hid hg
        have HD := hid hD
        have F3 := hid (F2.out.trans hF3 (fun _ _ q => q))
        have hs3 := F2.out.size
        have HBK := hid (show (∀ b ∈ [bm, bx, bd, bsc, bse], w.heap.size ≤ b) ∧ (∀ b, blk ak = some b ∨ blk as' = some b → w.heap.size ≤ b) from ⟨fun b hb => Nat.le_trans hs3 (hblk b hb), fun b hb => Nat.le_trans hs3 (hblk2 b hb)⟩)
        have hnn := hMS.nn
        have c0 := hMS.st.cell 0
        simp only [List.size_toArray, List.length_cons, List.length_nil, Nat.zero_add, Nat.reduceAdd, Nat.zero_lt_succ, getElem?_pos, List.getElem_toArray, List.getElem_cons_zero] at c0
        clear hMS hKS hg hD hF3 hblk hblk2 H10 H9 H16 hs3
        by_cases hh1 : hub < 0
        · have g1 : decide (hub < 0) = true := by simpa using hh1
          go_wp2_with fail
          go_ret
          exact ⟨rfl, F3.out⟩
        · have g1 : decide (hub < 0) = false := by simpa using hh1
          obtain ⟨hb, rfl⟩ : ∃ hb : Nat, hub = hb := ⟨hub.toNat, by omega⟩
          by_cases hh2 : n ≤ hb
          · go_wp2_with fail
            go_ret
            exact ⟨rfl, F3.out⟩
          · have hhn : hb < n := by omega
            have hmk := fun w => run_make1 el44 rfl w n (by omega)
            have g2 : decide (n ≤ hb) = false := by simpa using hh2
            have g3 : decide ((n : Int) ≤ (hb : Int)) = false := by simpa using hh2
            clear hh1 hh2
            go_wp2_with fail
            obtain ⟨bi, hbi⟩ : ∃ bi, bi = w3.heap.size := ⟨_, rfl⟩
            rw [← hbi]
            have B4 := hid (show Bools (w3.alloc (Obj.cells (Array.ofFn fun _ : Fin n => Value.bool false) 4)) bi n (fun _ => false) from Rec.newAt _ 4 bi _ hbi.symm)
            have F4 := hid (show Fr Nothing w3 (w3.alloc (Obj.cells (Array.ofFn fun _ : Fin n => Value.bool false) 4)) from (Fr.refl _ w3).alloc _)
            have HBI := hid hbi
            clear hbi c0
            generalize w3.alloc (Obj.cells (Array.ofFn fun _ : Fin n => Value.bool false) 4) = w4 at *
            go_loopg [11] n (fun gg s11 wr => ∃ (k : Nat), gg + k = n ∧ s11 = .int .i64 (k : Int) ∧ Hid (Bools wr bi n (fun v => if v < k then sameB D n hb v else false)) ∧ Hid (Fr Nothing w3 wr))
            case atStart => exact ⟨0, by omega, rfl, hid (by simpa using B4.out), F4⟩
            case round => as_aux_lemma =>
              obtain ⟨k, hgk, rfl, hB, hF⟩ := hrel
              have M5 := hid (M3.out.fr hF.out (fun _ _ q => q) (fun _ _ q => q))
              have c0 := M5.out.st.cell 0
              have c4 := M5.out.st.cell 4
              simp only [List.size_toArray, List.length_cons, List.length_nil, Nat.zero_add, Nat.reduceAdd, Nat.reduceLT, Nat.zero_lt_succ, getElem?_pos, List.getElem_toArray, List.getElem_cons_succ, List.getElem_cons_zero] at c0 c4
              by_cases hk : k < n
              · have H17 := hid (fun q => same_any bm bd n hb k D (wr.drewN q) hnn hhn hk c0 c4 M5.out.d)
                have H17' := hid (same_any bm bd n hb k D wr hnn hhn hk c0 c4 M5.out.d)
                have d1 := Arr.cell hB.out hk
                have z1 := Arr.frozen hB.out k
                generalize hsb : sameB D n hb k = sb at *
                have B5 := hid (fun q => show Bools ((wr.drewN q).setCell ⟨bi, k, none⟩ (.bool sb)) bi n (fun v => if v < k + 1 then sameB D n hb v else false) from by
                  have := Bools.set (show Bools (wr.drewN q) bi n (fun v => if v < k then sameB D n hb v else false) from hB.out) k sb
                  refine Arr.congr this fun i hi => ?_
                  by_cases e : i = k
                  · subst e; simp [hsb]
                  · rw [upd_other _ _ e]
                    by_cases h : i < k
                    · simp [h, show i < k + 1 by omega]
                    · simp [h, show ¬ i < k + 1 by omega])
                clear hsb
                go_wp2_with (go_at_call 17; with_reducible refine H17'.out.mono ?_; rintro e w' ⟨rfl, q, rfl⟩)
                go_roundg (gk - 1)
                case measure => omega
                case rel => exact ⟨k + 1, by omega, by go_num, hid (B5.out q), hid ((hF.out.drewN q).setCell (p := ⟨bi, k, none⟩) (fun r => by have := HBI.out; simp at r; omega) _)⟩
              · have B6 := hid (show Bools wr bi n (fun v => sameB D n hb v) from Arr.congr hB.out fun i hi => by simp [show i < k by omega])
                have F6 := hid (F3.out.trans hF.out (fun _ _ q => q))
                have H11 := hid (graphOf_any wr bm bx bd bsc bse n ks src ak ck as' cs v3 D (scAt g D n n) (fun _ => 0) 0 ae ce ra rc rl M5.out (HE.out.fr F6.out))
                have hDst : Dst g n D := ⟨fun u hu v hv => by
                  rw [HG.out] at hv
                  obtain ⟨s, _, hs⟩ := List.mem_filterMap.1 hv
                  have := idx_lt hs
                  rw [M3.out.kl] at this
                  exact this, hnn, HD.out⟩
                have HDS := hid hDst
                clear hB c4 hDst
                go_upto_region 16 with (go_at_call 11; with_reducible refine H11.out.mono ?_; rintro e w7 ⟨bg, rfl, hG7, hF7, hbg⟩; have G7 := hid hG7; have F7 := hid hF7; clear hG7 hF7 hbg)
                have hSc := HDS.out.scene hhn
                have hNm := nm_of K3.out M3.out.kl hnn HB2.out HB4.out G7.out (HE.out.fr (F6.out.trans F7.out (fun _ _ q => q)))
                obtain ⟨GG, hGG⟩ : ∃ G, growL (fun v => sameB D n hb v) (revAt g n) (n + 1) 0 (grow0 (fun _ => -2) (fun _ => 0) hb) = G := ⟨_, rfl⟩
                obtain ⟨GG', hGG'⟩ : ∃ G, growL (fun v => sameB D n hb v) g (n + 1) 0 (grow0 (fun _ => -2) (fun _ => 0) hb) = G := ⟨_, rfl⟩
                rw [hGG, hGG'] at hSc
                have hz := zzff_any bg (gl rl ra rc ks src n) ks (fun i => eA rl ra (src.getD i 0)) (fun i => rl.getD (src.getD i 0) []) (fun i => eC rl rc (src.getD i 0)) w7 n hNm ln hb bi n (fun v => sameB D n hb v) HLN.out (Arr.fr B6.out F7.out (fun q => q)) GG GG' (by rw [← HG.out]; exact hGG) (by rw [← HG.out]; exact hGG') (by rw [← HG.out]; exact hSc)
                rw [← HG.out] at hz
                have HSC := hid hSc
                clear hGG hGG' hSc hNm
                refine hz.mono ?_
                clear hz
                rintro e w8 ⟨bmr, cn, fm, rfl, hM8, hF8, hN8, hbmr⟩
                have M8 := hid hM8
                have F8 := hid hF8
                have N8 := hid hN8
                clear hM8 hF8 hN8
                go_upto_region 16 with fail
                have hlt3 : ∀ b ∈ [bm, bx, bd, bsc, bse], b < w3.heap.size := fun b hb => by
                  simp only [List.mem_cons, List.not_mem_nil, or_false] at hb
                  rcases hb with rfl | rfl | rfl | rfl | rfl
                  · exact M3.out.st.lt
                  · exact M3.out.m.lt
                  · exact Arr.lt M3.out.d
                  · exact Arr.lt M3.out.c
                  · exact Arr.lt M3.out.e
                have f38 : Fr Nothing w3 w8 := (hF.out.trans F7.out (fun _ _ q => q)).trans F8.out (fun _ _ q => q)
                have hs37 : w3.heap.size ≤ w7.heap.size := (hF.out.trans F7.out (fun _ _ q => q)).size
                have M9 := hid (M3.out.fr f38 (fun _ _ q => q) (fun _ _ q => q))
                have B9 := hid (show Bools w8 bi n (fun v => sameB D n hb v) from Arr.fr (Arr.fr B6.out F7.out (fun q => q)) F8.out (fun q => q))
                have F9 := hid (F3.out.trans f38 (fun _ _ q => q))
                have HLT := hid (show (∀ b ∈ [bm, bx, bd, bsc, bse], b < w3.heap.size) ∧ bi = w3.heap.size ∧ w3.heap.size ≤ w7.heap.size ∧ w7.heap.size ≤ bmr from ⟨hlt3, HBI.out, hs37, hbmr⟩)
                clear hlt3 f38 hs37 hbmr H11 G7 F7 F8 hF M5 B6 F6 c0
                -- the hub's cycle
                obtain ⟨st, hst⟩ : ∃ st, stepL (fun v => sameB D n hb v) GG.dp (g hb) (-1) = st := ⟨_, rfl⟩
                have hPos : 0 < scAt g D n n hb ↔ 0 ≤ st := by
                  constructor
                  · intro hp
                    obtain ⟨k, _, hw⟩ := HDS.out.sc_walk hhn (by omega)
                    rcases Int.lt_or_le st 0 with q | q
                    · exact (HSC.out.none (by rw [hst]; exact q) hw).elim
                    · exact q
                  · intro hp
                    obtain ⟨s1, s2⟩ := Scene.first (G := GG) (g := g) (hub := hb) (within := fun v => sameB D n hb v) (by rw [hst]; exact hp)
                    have hc := HSC.out.cyc s1 s2 hhn HSC.out.wh
                    have hw := hc.walk
                    have hcp := hc.pos
                    obtain ⟨k, hk⟩ : ∃ k, (cycP GG GG' hb (stepL (fun v => sameB D n hb v) GG.dp (g hb) (-1)).toNat hb).length = k + 1 := ⟨_, (Nat.sub_add_cancel hcp).symm⟩
                    rw [hk] at hw
                    exact (HDS.out.sc_le hhn hw).1
                have HPOS := hid hPos
                have HST := hid hst
                have scb : scAt g D n n hb ≤ 4096 ∧ 0 ≤ scAt g D n n hb := by
                  refine ⟨?_, HDS.out.sc_nonneg hb⟩
                  rcases (scAt_I (n := n) g D n (Nat.le_refl _)).z hb with q | ⟨u, hu, _, _, q⟩
                  · omega
                  · rw [q, HD.out hb u hhn hu]
                    have := (bfs_bound (g := g) (n := n) (u := hb) (v := u) HDS.out.gl hnn hhn).2
                    omega
                obtain ⟨scb1, scb2⟩ := scb
                clear hPos hst
                go_wp2_with fail
                go_loopg [13, 14, 15, 16] n (fun gg s13 s14 s15 s16 wr => ∃ (v t : Nat) (se : Nat → Int), gg + v = n ∧ s14 = .int .i64 (v : Int) ∧ s13 = .int .i64 (((if 0 ≤ st then cnt D n hb v else 0 : Nat)) : Int) ∧ t ≤ v ∧ Hid (MS wr bm bx bd bsc bse n ks src ak ck as' cs v3 D (scAt g D n n) se t) ∧ Hid (∀ x, x < n → se x ≤ t) ∧ Hid (Fr (fun k => k = bm ∨ k = bse) w8 wr))
                case atStart => exact ⟨0, 0, fun _ => 0, by omega, rfl, by simp [cnt], Nat.le_refl _, M9, hid (fun _ _ => by simp), hid (Fr.refl _ w8)⟩
                case round => as_aux_lemma =>
                  obtain ⟨v, t, se, hgv, rfl, rfl, htv, hMv, hse, hFv⟩ := hrel
                  have c0 := hMv.out.st.cell 0
                  have c1 := hMv.out.st.cell 1
                  have c5 := hMv.out.st.cell 5
                  simp only [List.size_toArray, List.length_cons, List.length_nil, Nat.zero_add, Nat.reduceAdd, Nat.reduceLT, Nat.zero_lt_succ, getElem?_pos, List.getElem_toArray, List.getElem_cons_succ, List.getElem_cons_zero] at c0 c1 c5
                  have hL := HLT.out
                  have hbne : ∀ b, w3.heap.size ≤ b → ¬ (b = bm ∨ b = bse) := fun b hb q => by
                    have h1 := hL.1 bm (by simp)
                    have h2 := hL.1 bse (by simp)
                    omega
                  have HBNE := hid hbne
                  have Mr := hid (show MapAt .string wr bmr cn fm from M8.out.of_block (hFv.out.block bmr M8.out.lt (hbne bmr (by omega))))
                  have Br := hid (show Bools wr bi n (fun v => sameB D n hb v) from Arr.fr B9.out hFv.out (hbne bi (by omega)))
                  have Fr9 := hid (show Fr Nothing w wr from F9.out.trans hFv.out (fun i hi q => by
                    have := HBK.out.1
                    rcases q with q | q
                    · have := this bm (by simp); omega
                    · have := this bse (by simp); omega))
                  clear hL hbne
                  by_cases hv : v < n
                  · have hkv : v < ks.length := by rw [M3.out.kl]; exact hv
                    obtain ⟨gk1, hgk1, q1⟩ := hMv.out.k.cell (j := v) (v := .string (ks.getD v ByteArray.empty)) (by simp [strs, hkv])
                    obtain ⟨key, hkey⟩ : ∃ key, ks.getD v ByteArray.empty = key := ⟨_, rfl⟩
                    rw [hkey] at q1
                    have hlk := Mr.out.look (k := .string key) u28 Try.underlying9 (z39 wr) (isS key) true
                    simp only [if_true] at hlk
                    have i1 : wr.cell? ⟨bi, v, none⟩ = some (.bool (sameB D n hb v)) := Arr.cell Br.out hv
                    have s5 := hMv.out.c.cell hhn
                    obtain ⟨sc, hsc⟩ : ∃ sc, scAt g D n n hb = sc := ⟨_, rfl⟩
                    rw [hsc] at s5 scb1 scb2
                    have HCS := hid (cnt_succ D n hb v)
                    by_cases hA : 0 ≤ st ∧ sameB D n hb v = true
                    · obtain ⟨hA1, hA2⟩ := hA
                      have hpos : 0 < sc := by rw [← hsc]; exact HPOS.out.2 hA1
                      obtain ⟨a, cc, hfm, hSl, hab⟩ := N8.out.yes (by rw [HST.out]; exact hA1) v hv hA2
                      obtain ⟨s1, s2⟩ := Scene.first (G := GG) (g := g) (hub := hb) (within := fun v => sameB D n hb v) (by rw [HST.out]; exact hA1)
                      have hcyc := HSC.out.cyc s1 s2 hv hA2
                      have hlen := HSC.out.cycLen s1 s2 hv hA2
                      have hleast : v = hb → ((cycP GG GG' hb (stepL (fun v => sameB D n hb v) GG.dp (g hb) (-1)).toNat v).length : Int) = sc := fun e => by
                        subst e
                        obtain ⟨k, hk1, hk2⟩ := HDS.out.sc_walk hv (by omega)
                        have h1 := HSC.out.least (by rw [HST.out]; exact hA1) hk2
                        have h2 := hcyc.walk
                        obtain ⟨k', hk'⟩ : ∃ k', (cycP GG GG' v (stepL (fun v_1 => sameB D n v v_1) GG.dp (g v) (-1)).toNat v).length = k' + 1 := ⟨_, (Nat.sub_add_cancel hcyc.pos).symm⟩
                        rw [hk'] at h2
                        have h3 := (HDS.out.sc_le hv h2).2
                        omega
                      have hscv : 0 < scAt g D n n v ∧ scAt g D n n v ≤ (cycP GG GG' hb (stepL (fun v => sameB D n hb v) GG.dp (g hb) (-1)).toNat v).length := by
                        have h2 := hcyc.walk
                        obtain ⟨k', hk'⟩ : ∃ k', (cycP GG GG' hb (stepL (fun v => sameB D n hb v) GG.dp (g hb) (-1)).toNat v).length = k' + 1 := ⟨_, (Nat.sub_add_cancel hcyc.pos).symm⟩
                        rw [hk'] at h2 ⊢
                        have h3 := HDS.out.sc_le hv h2
                        omega
                      have hCy := cycOK_CyD HDS.out hhn hv hA2 hcyc
                      have hcnt : (cycP GG GG' hb (stepL (fun v => sameB D n hb v) GG.dp (g hb) (-1)).toNat v).length ≤ cnt D n v n := cnt_ge n _ hCy.nd (fun x hx => ⟨hCy.lt x hx, hCy.sm x hx⟩)
                      rw [hkey] at hfm
                      rw [hfm] at hlk
                      simp only [Option.getD_some, Option.isSome_some] at hlk
                      have HFS := hid (show Sl wr 9 1 a _ cc _ from hSl.fr hFv.out (fun b hb => HBNE.out b (by have := hab b hb; have := HLT.out; omega)))
                      have HAB := hid (show ∀ b, blk a = some b → b ∉ [bm, bx, bd, bsc, bse] from fun b hb q => by have h1 := hab b hb; have h2 := HLT.out.1 b q; have h3 := HLT.out.2.2.1; omega)
                      generalize hcy : cycP GG GG' hb (stepL (fun v => sameB D n hb v) GG.dp (g hb) (-1)).toNat v = cy at *
                      have HLE := hid hleast
                      rw [hA2] at i1
                      have gsc : decide (0 < sc) = true := by simpa using hpos
                      clear hleast hSl hab hcyc hcy hfm
                      obtain ⟨cv, hcv⟩ : ∃ cv, (if 0 ≤ st then cnt D n hb v else 0) = cv := ⟨_, rfl⟩
                      have hcv2 : cv ≤ 1024 := by
                        rw [← hcv, if_pos hA1]
                        have : cnt D n hb v ≤ v := by
                          unfold cnt
                          exact Nat.le_trans (List.length_filter_le _ _) (by simp)
                        omega
                      have HCV := hid (show (if 0 ≤ st then cnt D n hb (v + 1) else 0) = cv + 1 by rw [← hcv, if_pos hA1, if_pos hA1, HCS.out, if_pos hA2])
                      rw [hcv]
                      clear hcv
                      obtain ⟨LL, hLL⟩ : ∃ L, cy.length = L := ⟨_, rfl⟩
                      obtain ⟨KK, hKK⟩ : ∃ K, (cy.take ln).length = K := ⟨_, rfl⟩
                      have H13 := hid (show ∀ (w' : World), Fr Nothing wr w' → Calls Try.prog 13 #[.pointer (some ⟨bm, 0, none⟩), .int .i64 v, .int .i64 ln, .agg #[.int .i64 (LL : Int), .slice a KK cc]] w' fun e w'' => e = .returned (.bool true) ∧ ∃ seen', MS w'' bm bx bd bsc bse n ks src ak ck as' cs v3 D (scAt g D n n) seen' (t + 1) ∧ (∀ x, x < n → seen' x ≤ t + 1) ∧ Fr (fun k => k = bm ∨ k = bse) w' w'' from fun w' hf => by
                        rw [← hLL, ← hKK]
                        exact cycleOK_any w' bm bx bd bsc bse n ks src ak ck as' cs v3 D (scAt g D n n) se t v ln cy a cc (hMv.out.fr hf (fun _ _ q => q) (fun _ _ q => q)) hv (by omega) hse.out hCy HLN.out (by omega) hscv.1 hscv.2 hcnt (HFS.out.fr hf (fun _ _ q => q)) HAB.out)
                      rw [hLL, hKK] at hlk
                      rw [hLL] at HLE hlen
                      clear hCy hscv hcnt hLL hKK
                      obtain ⟨p15, hp15⟩ : ∃ p, p = wr.heap.size := ⟨_, rfl⟩
                      go_upto_region 21 with fail
                      rw [← hp15]
                      have R15 := hid (show Rec (wr.alloc (Obj.cells #[.int .i64 (LL : Int), .slice a KK cc] 39)) p15 39 #[.int .i64 (LL : Int), .slice a KK cc] from Rec.newAt _ 39 p15 _ hp15.symm)
                      have M15 := hid (hMv.out.fr (M := Nothing) ((Fr.refl _ wr).alloc (Obj.cells #[.int .i64 (LL : Int), .slice a KK cc] 39)) (fun _ _ q => q) (fun _ _ q => q))
                      have F15 := hid (show Fr Nothing wr (wr.alloc (Obj.cells #[.int .i64 (LL : Int), .slice a KK cc] 39)) from (Fr.refl _ wr).alloc _)
                      have G15 := hid (show Fr (fun k => k = bm ∨ k = bse) w8 (wr.alloc (Obj.cells #[.int .i64 (LL : Int), .slice a KK cc] 39)) from hFv.out.alloc _)
                      have P15 := hid (show bm < p15 ∧ bse < p15 by rw [hp15]; exact ⟨hMv.out.st.lt, Arr.lt hMv.out.e⟩)
                      have i2 := F15.out.cell i1 (fun q => q)
                      have s6 := F15.out.cell s5 (fun q => q)
                      clear i1 s5 c0 c1 c5 q1 hlk hp15
                      generalize wr.alloc (Obj.cells #[.int .i64 (LL : Int), .slice a KK cc] 39) = w15 at *
                      have c0 := M15.out.st.cell 0
                      have c5 := M15.out.st.cell 5
                      simp only [List.size_toArray, List.length_cons, List.length_nil, Nat.zero_add, Nat.reduceAdd, Nat.reduceLT, Nat.zero_lt_succ, getElem?_pos, List.getElem_toArray, List.getElem_cons_succ, List.getElem_cons_zero] at c0 c5
                      have r0 := R15.out.cell 0
                      have r1 := R15.out.cell 1
                      simp at r0 r1
                      go_upto_region 27 with (go_at_call 13; with_reducible refine (H13.out _ F15.out).mono ?_; rintro e w16 ⟨rfl, se2, hM16, hse2, hF16⟩)
                      have M16 := hid hM16
                      have E16 := hid hse2
                      have F16 := hid (show Fr (fun k => k = bm ∨ k = bse) w8 w16 from G15.out.trans hF16 (fun i hi q => q))
                      have t0 : w16.cell? ⟨p15, 0, none⟩ = some (.int .i64 (LL : Int)) := hF16.cell r0 (fun q => by have := P15.out; omega)
                      have t5 := hM16.st.cell 5
                      simp only [List.size_toArray, List.length_cons, List.length_nil, Nat.zero_add, Nat.reduceAdd, Nat.reduceLT, getElem?_pos, List.getElem_toArray, List.getElem_cons_succ, List.getElem_cons_zero] at t5
                      have t6 := hM16.c.cell hhn
                      rw [hsc] at t6
                      clear hM16 hse2 hF16 r0 r1 c0 c5 i2 s6 H13
                      by_cases hvh : v = hb
                      · have hLs : (LL : Int) = sc := HLE.out hvh
                        have e1 : ((v : Int) == (hb : Int)) = true := by simp [hvh]
                        have e2 : ((LL : Int) != sc) = false := by simp [hLs]
                        have HVH := hid hvh
                        clear hvh hLs HLE
                        go_quiet (fail)
                        go_wp2_with fail
                        rw [← hgk1]
                        go_roundg (gk - 1)
                        case measure => omega
                        case rel => exact ⟨v + 1, t + 1, se2, by omega, by go_num, by rw [HCV.out]; go_num, by omega, hid (M16.out.drewN _), E16, hid (F16.out.drewN _)⟩
                      · have e1 : ((v : Int) == (hb : Int)) = false := by simp; omega
                        clear HLE
                        go_quiet (fail)
                        go_wp2_with fail
                        rw [← hgk1]
                        go_roundg (gk - 1)
                        case measure => omega
                        case rel => exact ⟨v + 1, t + 1, se2, by omega, by go_num, by rw [HCV.out]; go_num, by omega, hid (M16.out.drewN _), E16, hid (F16.out.drewN _)⟩
                    · have hno : fm (.string key) = none := by
                        by_cases h0 : 0 ≤ st
                        · have hfv : sameB D n hb v ≠ true := fun q => hA ⟨h0, q⟩
                          refine N8.out.none _ (isS key) (fun u hu hfu e => hfv ?_)
                          have : ks.getD v ByteArray.empty = ks.getD u ByteArray.empty := by rw [hkey]; simpa using e
                          have hku : u < ks.length := by rw [M3.out.kl]; exact hu
                          have huv : v = u := by
                            simp only [List.getD_eq_getElem?_getD, List.getElem?_eq_getElem hkv, List.getElem?_eq_getElem hku, Option.getD_some] at this
                            exact (List.getElem?_inj hkv M3.out.kn).1 (by rw [List.getElem?_eq_getElem hkv, List.getElem?_eq_getElem hku, this])
                          rw [huv]; exact hfu
                        · exact N8.out.no (by rw [HST.out]; omega) _ (isS key)
                      rw [hno] at hlk
                      simp only [Option.getD_none, Option.isSome_none] at hlk
                      obtain ⟨cv, hcv⟩ : ∃ cv, (if 0 ≤ st then cnt D n hb v else 0) = cv := ⟨_, rfl⟩
                      have HCV := hid (show (if 0 ≤ st then cnt D n hb (v + 1) else 0) = cv by
                        rw [← hcv]
                        by_cases h0 : 0 ≤ st
                        · rw [if_pos h0, if_pos h0, HCS.out, if_neg (fun q => hA ⟨h0, q⟩)]; rfl
                        · rw [if_neg h0, if_neg h0])
                      rw [hcv]
                      have HSB := hid (show sameB D n hb v = true → sc = 0 from fun q => by
                        have h0 : ¬ 0 ≤ st := fun r => hA ⟨r, q⟩
                        have := HPOS.out
                        rw [hsc] at this
                        rcases Int.lt_or_le 0 sc with r | r
                        · exact absurd (this.1 r) h0
                        · omega)
                      obtain ⟨iv, hiv⟩ : ∃ iv, sameB D n hb v = iv := ⟨_, rfl⟩
                      rw [hiv] at i1 HSB
                      clear hcv hno hA hiv hkey
                      obtain ⟨p15, hp15⟩ : ∃ p, p = wr.heap.size := ⟨_, rfl⟩
                      go_upto_region 21 with fail
                      rw [← hp15]
                      have M15 := hid (hMv.out.fr (M := Nothing) ((Fr.refl _ wr).alloc (Obj.cells #[.int .i64 0, .slice none 0 0] 39)) (fun _ _ q => q) (fun _ _ q => q))
                      have F15 := hid (show Fr Nothing wr (wr.alloc (Obj.cells #[.int .i64 0, .slice none 0 0] 39)) from (Fr.refl _ wr).alloc _)
                      have G15 := hid (show Fr (fun k => k = bm ∨ k = bse) w8 (wr.alloc (Obj.cells #[.int .i64 0, .slice none 0 0] 39)) from hFv.out.alloc _)
                      have i2 := F15.out.cell i1 (fun q => q)
                      have s6 := F15.out.cell s5 (fun q => q)
                      clear i1 s5 c0 c1 c5 q1 hlk hp15
                      generalize wr.alloc (Obj.cells #[.int .i64 0, .slice none 0 0] 39) = w15 at *
                      have c0 := M15.out.st.cell 0
                      have c5 := M15.out.st.cell 5
                      simp only [List.size_toArray, List.length_cons, List.length_nil, Nat.zero_add, Nat.reduceAdd, Nat.reduceLT, Nat.zero_lt_succ, getElem?_pos, List.getElem_toArray, List.getElem_cons_succ, List.getElem_cons_zero] at c0 c5
                      cases iv with
                      | true =>
                        have hs0 : sc = 0 := HSB.out rfl
                        subst hs0
                        go_wp2_with fail
                        rw [← hgk1]
                        go_roundg (gk - 1)
                        case measure => omega
                        case rel => exact ⟨v + 1, t, se, by omega, by go_num, by rw [HCV.out], by omega, M15, hse, G15⟩
                      | false =>
                        go_wp2_with fail
                        rw [← hgk1]
                        go_roundg (gk - 1)
                        case measure => omega
                        case rel => exact ⟨v + 1, t, se, by omega, by go_num, by rw [HCV.out], by omega, M15, hse, G15⟩
                  · have hvn : v = n := by omega
                    obtain ⟨cv, hcv⟩ : ∃ cv, (if 0 ≤ st then cnt D n hb v else 0) = cv := ⟨_, rfl⟩
                    have hcn : cn = cv := by
                      rw [← hcv, hvn]
                      by_cases h0 : 0 ≤ st
                      · rw [if_pos h0]
                        have := M8.out.count (kl := ((List.range n).filter fun v => sameB D n hb v).map fun v => .string (ks.getD v ByteArray.empty)) (by
                            have := keys_nodup M3.out.kn (fun v => sameB D n hb v)
                            rw [M3.out.kl] at this
                            exact this) (fun k hk => by
                            simp only [List.mem_map, List.mem_filter, List.mem_range] at hk
                            obtain ⟨u, ⟨hu, hfu⟩, rfl⟩ := hk
                            obtain ⟨a, cc, h1, _⟩ := N8.out.yes (by rw [HST.out]; exact h0) u hu hfu
                            exact ⟨isS _, by rw [h1]; simp⟩) (fun k hk hnk => N8.out.none k hk (fun u hu hfu e => hnk (by
                            simp only [List.mem_map, List.mem_filter, List.mem_range]
                            exact ⟨u, ⟨hu, hfu⟩, e.symm⟩)))
                        rw [this, List.length_map]
                        rfl
                      · rw [if_neg h0]
                        exact M8.out.count (kl := []) .nil (by simp) (fun k hk _ => N8.out.no (by rw [HST.out]; omega) k hk)
                    rw [hcv]
                    have hlen := Mr.out.len28
                    have gcn : ((cn : Int) == (cv : Int)) = true := by simp [hcn]
                    clear hcn hcv hvn
                    go_wp2_with fail
                    go_ret
                    exact ⟨rfl, Fr9.out⟩
end Go.Proofs.Qxb6615025a
