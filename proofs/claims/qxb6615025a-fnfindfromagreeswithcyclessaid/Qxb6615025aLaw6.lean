-- The law FnFindFromAgreesWithCycles (6).
import Derived.Test.Qxb6615025aLk
import Derived.Test.Qxb6615025aPart
import Derived.BigQuiet
import Derived.Deep.DeepCutAuto
namespace Go.Proofs.Qxb6615025a
open Go.RowKit Go.MapKept

set_option maxRecDepth 100000 in
set_option maxHeartbeats 16000000 in
theorem law6_any (ai ae : Option Addr) (ci ce : Nat) (ids : List ByteArray) (ra : Nat → Option Addr) (rc : Nat → Nat) (rl : List (List ByteArray)) (lead hub : Int) (w : World) (hi : Str w ai ids) (he : Edg w ae ra rc rl)
    (hl : lead < 9223372036854775808) (hh : -9223372036854775808 ≤ hub ∧ hub < 9223372036854775808) :
    Calls Try.prog 6 #[.slice ai ids.length ci, .slice ae rl.length ce, .int .i64 lead, .int .i64 hub] w fun e w' => e = .returned (.bool true) ∧ Fr Nothing w w' := by
  have HI := hid hi
  have HE := hid he
  have H16 := hid (fun w' (hf : Fr Nothing w w') => zzBytes19_any ai ae ci ce ids ra rc rl (.int .i64 lead) (.int .i64 hub) w' (hi.fr hf) (he.fr hf))
  have H9 := hid (fun w' (hf : Fr Nothing w w') => zzTooBig_any ai ae ci ce ids ra rc rl w' (hi.fr hf) (he.fr hf))
  clear hi he
  go_enter Try.func6, Try.ntmps6
  go_upto_if 29 with (go_at_call 19; with_reducible refine (H16.out _ (Fr.refl _ w)).mono ?_; rintro e w1 ⟨r, rfl, k1, hw1⟩; subst hw1)
  cases r with
  | false =>
    go_wp2_with fail
    go_ret
    exact ⟨rfl, (Fr.refl _ w).drewN _⟩
  | true =>
    have F1 := hid (show Fr Nothing w (w.drewN k1) from (Fr.refl _ w).drewN _)
    generalize w.drewN k1 = w1 at *
    go_upto_if 32 with (go_at_call 9; with_reducible refine (H9.out _ F1.out).mono ?_; rintro e w2 ⟨r, rfl, ⟨k2, hw2⟩, hbig⟩; subst hw2)
    cases r with
    | true =>
      go_wp2_with fail
      go_ret
      exact ⟨rfl, F1.out.drewN _⟩
    | false =>
      obtain ⟨hb1, hb2, hb3, hb4⟩ := hbig rfl
      have HB2 := hid hb2
      have HB4 := hid hb4
      clear hb2 hbig hb3 hb4
      have F2 := hid (F1.out.drewN k2)
      generalize w1.drewN k2 = w2 at *
      by_cases hl0 : lead < 0
      · go_wp2_with fail
        go_ret
        exact ⟨rfl, F2.out⟩
      · obtain ⟨ln, rfl⟩ : ∃ ln : Nat, lead = ln := ⟨lead.toNat, by omega⟩
        have H10 := hid (zzBuild_any ai ae ci ce ids ra rc rl w2 (HI.out.fr F2.out) (HE.out.fr F2.out) hb1 HB2.out (fun s => by
          have h1 := sm_tot rl (s + 1)
          have h2 : (rl.getD s []).length ≤ sm (fun i => (rl.getD i []).length) (s + 1) := by
            show _ ≤ sm _ s + (rl.getD s []).length
            omega
          have := HB4.out
          omega))
        have HLN := hid (show ln < 9223372036854775808 by omega)
        have gl0 : decide ((ln : Int) < 0) = false := by simp
        clear hl0 hl
        go_upto_region 8 with (go_at_call 10; with_reducible refine H10.out.mono ?_; rintro e w3 ⟨bm, bx, bd, bsc, bse, n, ks, src, ak, ck, as', cs, v3, D, g, rfl, hMS, hKS, hg, hD, hF3, hblk, hblk2⟩)
        have M3 := hid hMS
        have K3 := hid hKS
        have HG := hid hg
        have HD := hid hD
        have F3 := hid (F2.out.trans hF3 (fun _ _ q => q))
        have hnn := hMS.nn
        have c0 := hMS.st.cell 0
        have c4 := hMS.st.cell 4
        simp only [List.size_toArray, List.length_cons, List.length_nil, Nat.zero_add, Nat.reduceAdd, Nat.reduceLT, Nat.zero_lt_succ, getElem?_pos, List.getElem_toArray, List.getElem_cons_succ, List.getElem_cons_zero] at c0 c4
        clear hMS hKS hg hD hF3 hblk hblk2 H10 H9 H16
        by_cases hh1 : hub < 0
        · have g1 : decide (hub < 0) = true := by simpa using hh1
          go_wp2_with fail
          go_ret
          exact ⟨rfl, F3.out⟩
        · have g1 : decide (hub < 0) = false := by simpa using hh1
          obtain ⟨hb, rfl⟩ : ∃ hb : Nat, hub = hb := ⟨hub.toNat, by omega⟩
          by_cases hh2 : n ≤ hb
          · go_wp2_with fail
            go_ret
            exact ⟨rfl, F3.out⟩
          · have hhn : hb < n := by omega
            have g2 : decide (n ≤ hb) = false := by simpa using hh2
            have g3 : decide ((n : Int) ≤ (hb : Int)) = false := by simpa using hh2
            clear hh1 hh2
            obtain ⟨lm, hlm⟩ : ∃ lm, leastN D n hb = lm := ⟨_, rfl⟩
            have H14 := hid (least_any bm bd n hb D w3 hnn hhn c0 c4 M3.out.d)
            rw [hlm] at H14
            go_upto_if 52 with (go_at_call 14; with_reducible refine H14.out.mono ?_; rintro e w3' ⟨rfl, q3, hq3⟩; subst hq3)
            have M3' := hid (M3.out.drewN q3)
            have F3' := hid (F3.out.drewN q3)
            clear M3 F3 H14 c0 c4
            generalize w3.drewN q3 = w3' at *
            by_cases hle : lm = hb
            · subst hle
              have HLM := hid hlm
              have e0 : ((lm : Int) != (lm : Int)) = false := by simp
              have hmk := fun w => run_make1 el44 rfl w n (by omega)
              have c0 := M3'.out.st.cell 0
              simp only [List.size_toArray, List.length_cons, List.length_nil, Nat.zero_add, Nat.reduceAdd, Nat.zero_lt_succ, getElem?_pos, List.getElem_toArray, List.getElem_cons_zero] at c0
              clear hlm
              rw [e0]
              clear e0
              go_wp2_with fail
              obtain ⟨bi, hbi⟩ : ∃ bi, bi = w3'.heap.size := ⟨_, rfl⟩
              rw [← hbi]
              have B4 := hid (show Bools (w3'.alloc (Obj.cells (Array.ofFn fun _ : Fin n => Value.bool false) 4)) bi n (fun _ => false) from Rec.newAt _ 4 bi _ hbi.symm)
              have F4 := hid (show Fr Nothing w3' (w3'.alloc (Obj.cells (Array.ofFn fun _ : Fin n => Value.bool false) 4)) from (Fr.refl _ w3').alloc _)
              have HBI := hid hbi
              clear hbi c0 hmk
              generalize w3'.alloc (Obj.cells (Array.ofFn fun _ : Fin n => Value.bool false) 4) = w4 at *
              go_loopg [11] n (fun gg s11 wr => ∃ (k : Nat), gg + k = n ∧ s11 = .int .i64 (k : Int) ∧ Hid (Bools wr bi n (fun v => if v < k then sameB D n lm v else false)) ∧ Hid (Fr Nothing w3' wr))
              case atStart => exact ⟨0, by omega, rfl, hid (by simpa using B4.out), F4⟩
              case round => as_aux_lemma =>
                obtain ⟨k, hgk, rfl, hB, hF⟩ := hrel
                have M5 := hid (M3'.out.fr hF.out (fun _ _ q => q) (fun _ _ q => q))
                have c0 := M5.out.st.cell 0
                have c4 := M5.out.st.cell 4
                simp only [List.size_toArray, List.length_cons, List.length_nil, Nat.zero_add, Nat.reduceAdd, Nat.reduceLT, Nat.zero_lt_succ, getElem?_pos, List.getElem_toArray, List.getElem_cons_succ, List.getElem_cons_zero] at c0 c4
                by_cases hk : k < n
                · have H17' := hid (same_any bm bd n lm k D wr hnn hhn hk c0 c4 M5.out.d)
                  have d1 := Arr.cell hB.out hk
                  have z1 := Arr.frozen hB.out k
                  generalize hsb : sameB D n lm k = sb at *
                  have B5 := hid (fun q => show Bools ((wr.drewN q).setCell ⟨bi, k, none⟩ (.bool sb)) bi n (fun v => if v < k + 1 then sameB D n lm v else false) from by
                    have := Bools.set (show Bools (wr.drewN q) bi n (fun v => if v < k then sameB D n lm v else false) from hB.out) k sb
                    refine Arr.congr this fun i hi => ?_
                    by_cases e : i = k
                    · subst e; simp [hsb]
                    · rw [upd_other _ _ e]
                      by_cases h : i < k
                      · simp [h, show i < k + 1 by omega]
                      · simp [h, show ¬ i < k + 1 by omega])
                  clear hsb
                  go_wp2_with (go_at_call 17; with_reducible refine H17'.out.mono ?_; rintro e w' ⟨rfl, q, rfl⟩)
                  go_roundg (gk - 1)
                  case measure => omega
                  case rel => exact ⟨k + 1, by omega, by go_num, hid (B5.out q), hid ((hF.out.drewN q).setCell (p := ⟨bi, k, none⟩) (fun r => by have := HBI.out; simp at r; omega) _)⟩
                · have B6 := hid (show Bools wr bi n (fun v => sameB D n lm v) from Arr.congr hB.out fun i hi => by simp [show i < k by omega])
                  have F6 := hid (F3'.out.trans hF.out (fun _ _ q => q))
                  have H11 := hid (graphOf_any wr bm bx bd bsc bse n ks src ak ck as' cs v3 D (scAt g D n n) (fun _ => 0) 0 ae ce ra rc rl M5.out (HE.out.fr F6.out))
                  have hDst : Dst g n D := ⟨fun u hu v hv => by
                    rw [HG.out] at hv
                    obtain ⟨s, _, hs⟩ := List.mem_filterMap.1 hv
                    have := idx_lt hs
                    rw [M5.out.kl] at this
                    exact this, hnn, HD.out⟩
                  have HDS := hid hDst
                  clear hB c4 hDst
                  go_upto_region 18 with (go_at_call 11; with_reducible refine H11.out.mono ?_; rintro e w7 ⟨bg, rfl, hG7, hF7, hbg⟩; have G7 := hid hG7; have F7 := hid hF7; clear hG7 hF7 hbg)
                  have F67 := hid (F6.out.trans F7.out (fun _ _ q => q))
                  have hz := hid (zzff_any bg (gl rl ra rc ks src n) ks (fun i => eA rl ra (src.getD i 0)) (fun i => rl.getD (src.getD i 0) []) (fun i => eC rl rc (src.getD i 0)) w7 n (nm_of K3.out M5.out.kl hnn HB2.out HB4.out G7.out (HE.out.fr F67.out)) ln lm bi n (fun v => sameB D n lm v) HLN.out (Arr.fr B6.out F7.out (fun q => q)) (gF (revAt g n) (sameB D n) n lm) (gF g (sameB D n) n lm) (by rw [← HG.out]; rfl) (by rw [← HG.out]; rfl) (by rw [← HG.out]; exact HDS.out.scene hhn))
                  rw [← HG.out] at hz
                  have H12 := hid (fun (w8 : World) (hF8 : Fr Nothing w7 w8) =>
                    cycles_any bg (gl rl ra rc ks src n) ks (fun i => eA rl ra (src.getD i 0)) (fun i => rl.getD (src.getD i 0) []) (fun i => eC rl rc (src.getD i 0)) w8 n (nm_of K3.out M5.out.kl hnn HB2.out HB4.out (G7.out.fr hF8 (fun q => q)) (HE.out.fr (F67.out.trans hF8 (fun _ _ q => q)))) ln HLN.out (sameB D n) (by rw [← HG.out]; exact HDS.out.rch))
                  rw [← HG.out] at H12
                  go_upto_region 19 with (go_at_call 18; with_reducible refine hz.out.mono ?_; rintro e w8 ⟨bmP, cnP, fmP, rfl, hM8, hF8, hN8, hbmP⟩; have M8 := hid hM8; have F8 := hid hF8; have N8 := hid hN8; clear hM8 hF8 hN8 hbmP)
                  go_upto_region 22 with (go_at_call 12; with_reducible refine (H12.out _ F8.out).mono ?_; rintro e wA ⟨bmW, cnW, fmW, rfl, hMA, hFA, hNA, hbmW⟩; have MA := hid hMA; have FA := hid hFA; have NA := hid hNA; clear hMA hFA hNA hbmW)
                  have f7A : Fr Nothing w7 wA := F8.out.trans FA.out (fun _ _ q => q)
                  have MM := hid ((M5.out.fr F7.out (fun _ _ q => q) (fun _ _ q => q)).fr f7A (fun _ _ q => q) (fun _ _ q => q))
                  have BB := hid (show Bools wA bi n (fun v => sameB D n lm v) from Arr.fr (Arr.fr B6.out F7.out (fun q => q)) f7A (fun q => q))
                  have FF := hid (F67.out.trans f7A (fun _ _ q => q))
                  have MP := hid (show MapAt .string wA bmP cnP fmP from M8.out.of_block (FA.out.block bmP M8.out.lt (fun q => q)))
                  have HCP := hid (fnd_count HDS.out hhn HLM.out N8.out M5.out.kn M5.out.kl M8.out)
                  have scb := sc_bound HDS.out hhn
                  clear f7A H11 H12 hz G7 F7 F67 F8 hF B6 F6 c0 M5 M3' F3' F4 B4 HBI M8
                  go_loopg [15, 16, 17, 18, 19, 20, 21, 22, 23] n (fun gg s15 s16 s17 s18 s19 s20 s21 s22 s23 wr => ∃ (v : Nat), gg + v = n ∧ s16 = .int .i64 (v : Int) ∧ s15 = .int .i64 ((inH g D n lm v : Nat) : Int) ∧ Hid (Fr Nothing wA wr))
                  case atStart => exact ⟨0, by omega, rfl, by simp [inH], hid (Fr.refl _ wA)⟩
                  case round => as_aux_lemma =>
                    obtain ⟨v, hgv, rfl, rfl, hFv⟩ := hrel
                    have hMv := hid (MM.out.fr hFv.out (fun _ _ q => q) (fun _ _ q => q))
                    have c0 := hMv.out.st.cell 0
                    have c1 := hMv.out.st.cell 1
                    have c5 := hMv.out.st.cell 5
                    simp only [List.size_toArray, List.length_cons, List.length_nil, Nat.zero_add, Nat.reduceAdd, Nat.reduceLT, Nat.zero_lt_succ, getElem?_pos, List.getElem_toArray, List.getElem_cons_succ, List.getElem_cons_zero] at c0 c1 c5
                    have MrP := hid (show MapAt .string wr bmP cnP fmP from MP.out.of_block (hFv.out.block bmP MP.out.lt (fun q => q)))
                    have MrW := hid (show MapAt .string wr bmW cnW fmW from MA.out.of_block (hFv.out.block bmW MA.out.lt (fun q => q)))
                    have FrW := hid (show Fr Nothing w wr from FF.out.trans hFv.out (fun _ _ q => q))
                    have Br := hid (show Bools wr bi n (fun v => sameB D n lm v) from Arr.fr BB.out hFv.out (fun q => q))
                    obtain ⟨cv, hcv⟩ : ∃ cv, inH g D n lm v = cv := ⟨_, rfl⟩
                    have hcv2 : cv ≤ v := by rw [← hcv]; exact inH_le v
                    have HOC := hid (inH_succ (g := g) (D := D) (n := n) (u := lm) v)
                    by_cases hv : v < n
                    · have hkv : v < ks.length := by rw [hMv.out.kl]; exact hv
                      obtain ⟨gk1, hgk1, q1⟩ := hMv.out.k.cell (j := v) (v := .string (ks.getD v ByteArray.empty)) (by simp [strs, hkv])
                      obtain ⟨key, hkey⟩ : ∃ key, ks.getD v ByteArray.empty = key := ⟨_, rfl⟩
                      rw [hkey] at q1
                      have hlkP := MrP.out.look (k := .string key) u28 Try.underlying9 (z39' wr) (isS key) true
                      simp only [if_true] at hlkP
                      have i1 : wr.cell? ⟨bi, v, none⟩ = some (.bool (sameB D n lm v)) := Arr.cell Br.out hv
                      have s5 := hMv.out.c.cell hhn
                      obtain ⟨sc, hsc⟩ : ∃ sc, scAt g D n n lm = sc := ⟨_, rfl⟩
                      rw [hsc] at s5 scb
                      obtain ⟨scb1, scb2⟩ := scb
                      have scv := sc_bound HDS.out hv
                      obtain ⟨sv, hsv⟩ : ∃ sv, scAt g D n n v = sv := ⟨_, rfl⟩
                      rw [hsv] at scv
                      obtain ⟨scv1, scv2⟩ := scv
                      by_cases hA : 0 < scAt g D n n lm ∧ sameB D n lm v = true
                      · obtain ⟨hA1, hA2⟩ := hA
                        have hAv : 0 < scAt g D n n v := sc_same HDS.out hv hhn (same_sy HDS.out hhn hv hA2) hA1
                        obtain ⟨aA, cA, hfmA, hSlA, habA⟩ := fnd_yes HDS.out hhn HLM.out N8.out hv hA1 hA2
                        obtain ⟨aB, cB, hfmB, hSlB, habB⟩ := fds_yes HDS.out NA.out hv hAv
                        have hOK := cyV_ok HDS.out hv hAv
                        have hLv := leastN_same HDS.out hhn hv HLM.out hA2
                        rw [hLv] at hOK
                        have hpos : 0 < sc := by rw [← hsc]; exact hA1
                        rw [show kyV ks v = .string key by unfold kyV; rw [hkey]] at hfmA hfmB
                        rw [hfmA] at hlkP
                        simp only [Option.getD_some, Option.isSome_some] at hlkP
                        rw [hA2] at i1
                        generalize cyV g D n v = cy at *
                        have gsc : decide (0 < sc) = true := by simpa using hpos
                        have HCV := hid (show inH g D n lm (v + 1) = cv + 1 by rw [HOC.out, hcv, if_pos ⟨hA1, hA2⟩])
                        have hlen := hOK.len
                        obtain ⟨LL, hLL⟩ : ∃ L, cy.length = L := ⟨_, rfl⟩
                        obtain ⟨KK, hKK⟩ : ∃ K, (cy.take ln).length = K := ⟨_, rfl⟩
                        have SA := hid (show Sl wr 9 1 aA KK cA (names ks (cy.take ln)) by rw [← hKK]; exact hSlA.fr (FA.out.trans hFv.out (fun _ _ q => q)) (fun _ _ q => q))
                        have SB := hid (show Sl wr 9 1 aB KK cB (names ks (cy.take ln)) by rw [← hKK]; exact hSlB.fr hFv.out (fun _ _ q => q))
                        have HKM := hid (show KK = min ln LL by rw [← hKK, ← hLL, List.length_take])
                        have HNA := hid (show ∀ i, i < KK → (names ks (cy.take ln))[i]? = some (.string (ks.getD (cy.getD i 0) ByteArray.empty)) from fun i hi => lead_at (by rw [hKK]; exact hi))
                        have HN0 := hid (show ks.getD (cy.getD 0 0) ByteArray.empty = key by rw [hOK.ok.hd, hkey])
                        have hsL : sv ≤ LL := by have := hOK.sc; rw [hsv, hLL] at this; exact this
                        have HLE := hid (show v = lm → (LL : Int) = sc from fun e => by rw [← hLL, hOK.least e, e, hsc])
                        rw [hLL, hKK] at hlkP hfmB
                        rw [hLL] at hlen
                        have hKL : KK ≤ LL := by have := HKM.out; omega
                        rw [hcv]
                        clear hOK hSlA hSlB habA habB hfmA hLL hKK hcv hA1 hA2 hAv hLv
                        obtain ⟨p15, hp15⟩ : ∃ p, p = wr.heap.size := ⟨_, rfl⟩
                        go_upto_region 26 with fail
                        rw [← hp15]
                        have f15 : Fr Nothing wr (wr.alloc (Obj.cells #[.int .i64 (LL : Int), .slice aA KK cA] 39)) := (Fr.refl _ wr).alloc _
                        have R15 := hid (show Rec (wr.alloc (Obj.cells #[.int .i64 (LL : Int), .slice aA KK cA] 39)) p15 39 #[.int .i64 (LL : Int), .slice aA KK cA] from Rec.newAt _ 39 p15 _ hp15.symm)
                        have F15 := hid (show Fr Nothing wA (wr.alloc (Obj.cells #[.int .i64 (LL : Int), .slice aA KK cA] 39)) from hFv.out.alloc _)
                        have SA1 := hid (SA.out.fr f15 (fun _ _ q => q))
                        have SB1 := hid (SB.out.fr f15 (fun _ _ q => q))
                        have MB1 := hid (show MapAt .string (wr.alloc (Obj.cells #[.int .i64 (LL : Int), .slice aA KK cA] 39)) bmW cnW fmW from MrW.out.of_block (f15.block bmW MrW.out.lt (fun q => q)))
                        have i2 := f15.cell i1 (fun q => q)
                        clear i1 s5 c0 c1 c5 q1 hlkP hp15 f15 SA SB MrP MrW hMv FrW hFv Br
                        generalize wr.alloc (Obj.cells #[.int .i64 (LL : Int), .slice aA KK cA] 39) = w15 at *
                        have hM15 := hid (MM.out.fr F15.out (fun _ _ q => q) (fun _ _ q => q))
                        have c0 := hM15.out.st.cell 0
                        have c5 := hM15.out.st.cell 5
                        simp only [List.size_toArray, List.length_cons, List.length_nil, Nat.zero_add, Nat.reduceAdd, Nat.reduceLT, Nat.zero_lt_succ, getElem?_pos, List.getElem_toArray, List.getElem_cons_succ, List.getElem_cons_zero] at c0 c5
                        have s6 := hM15.out.c.cell hhn
                        rw [hsc] at s6
                        have hlkB := MB1.out.look (k := .string key) u28 Try.underlying9 (z39' w15) (isS key) true
                        rw [hfmB] at hlkB
                        simp only [if_true, Option.getD_some, Option.isSome_some] at hlkB
                        obtain ⟨p17, hp17⟩ : ∃ p, p = w15.heap.size := ⟨_, rfl⟩
                        clear hfmB
                        go_upto_region 31 with fail
                        rw [← hp17]
                        have f17 : Fr Nothing w15 (w15.alloc (Obj.cells #[.int .i64 (LL : Int), .slice aB KK cB] 39)) := (Fr.refl _ w15).alloc _
                        have Q17 := hid (show Rec (w15.alloc (Obj.cells #[.int .i64 (LL : Int), .slice aB KK cB] 39)) p17 39 #[.int .i64 (LL : Int), .slice aB KK cB] from Rec.newAt _ 39 p17 _ hp17.symm)
                        have R17 := hid (R15.out.fr f17 (fun q => q))
                        have F17 := hid (F15.out.trans f17 (fun _ _ q => q))
                        have SA2 := hid (SA1.out.fr f17 (fun _ _ q => q))
                        have SB2 := hid (SB1.out.fr f17 (fun _ _ q => q))
                        clear hlkB hp17 f17 SA1 SB1 MB1 R15 F15 hM15 c0 c5 s6 i2
                        generalize w15.alloc (Obj.cells #[.int .i64 (LL : Int), .slice aB KK cB] 39) = w17 at *
                        have r0 := R17.out.cell 0
                        have r1 := R17.out.cell 1
                        have x0 := Q17.out.cell 0
                        have x1 := Q17.out.cell 1
                        simp at r0 r1 x0 x1
                        have e0 : ((LL : Int) != (LL : Int)) = false := by simp
                        have eK : ((KK : Int) != (KK : Int)) = false := by simp
                        go_wp2_with fail
                        go_loopg [22] KK (fun g2 s22 wi => ∃ (i : Nat), g2 + i = KK ∧ s22 = .int .i64 (i : Int) ∧ Hid (Fr Nothing w17 wi))
                        case atStart => exact ⟨0, by omega, rfl, hid (Fr.refl _ w17)⟩
                        case round => as_aux_lemma =>
                          obtain ⟨i, hgi, rfl, hFi⟩ := hrel
                          by_cases hi : i < KK
                          · obtain ⟨ga, hga, y0⟩ := SA2.out.cell (HNA.out i hi)
                            obtain ⟨gb, hgb, y1⟩ := SB2.out.cell (HNA.out i hi)
                            generalize ks.getD (cy.getD i 0) ByteArray.empty = nm at y0 y1
                            subst hga
                            subst hgb
                            have r2 := hFi.out.cell r1 (fun q => q)
                            have x2 := hFi.out.cell x1 (fun q => q)
                            have y2 := hFi.out.cell y0 (fun q => q)
                            have y3 := hFi.out.cell y1 (fun q => q)
                            clear r0 r1 x0 x1 y0 y1
                            go_upto_region 36 with fail
                            go_quiet (fail)
                            go_wp2_with fail
                            go_roundg (KK - i - 1)
                            case measure => omega
                            case rel => exact ⟨i + 1, by omega, by go_num, hid (hFi.out.drewN _)⟩
                          · have r2 := hFi.out.cell r1 (fun q => q)
                            have r3 := hFi.out.cell r0 (fun q => q)
                            have F19 := hid (F17.out.trans hFi.out (fun _ _ q => q))
                            have SA3 := hid (SA2.out.fr hFi.out (fun _ _ q => q))
                            clear r0 r1 x0 x1 Q17 R17 F17 SA2 SB2 hFi
                            go_upto_if 171 with fail
                            go_cut [23] (fun s23 wc => s23 = .int .i64 (KK : Int) ∧ wc = wr)
                            case first =>
                              by_cases hlt : LL < ln
                              · have E := hid (show KK = LL by have := HKM.out; omega)
                                go_wp2_with fail
                                go_meet
                                case rel => exact ⟨by rw [E.out], rfl⟩
                              · have E := hid (show KK = ln by have := HKM.out; omega)
                                go_wp2_with fail
                                go_meet
                                case rel => exact ⟨by rw [E.out], rfl⟩
                            case rest =>
                              obtain ⟨rfl, hw⟩ := hcut
                              replace hw := hw.symm
                              subst hw
                              have hM19 := hid (MM.out.fr F19.out (fun _ _ q => q) (fun _ _ q => q))
                              have c5 := hM19.out.st.cell 5
                              simp only [List.size_toArray, List.length_cons, List.length_nil, Nat.zero_add, Nat.reduceAdd, Nat.reduceLT, getElem?_pos, List.getElem_toArray, List.getElem_cons_succ, List.getElem_cons_zero] at c5
                              have s7 := hM19.out.c.cell hv
                              rw [hsv] at s7
                              have e1 : decide ((LL : Int) < sv) = false := by simp; omega
                              go_upto_region 41 with fail
                              go_quiet (fail)
                              have F20 := hid (F19.out.drewN nq)
                              have SA4 := hid (SA3.out.drewN nq)
                              have r4 : (wr.drewN nq).cell? ⟨p15, 1, none⟩ = some (.slice aA KK cA) := r2
                              have r5 : (wr.drewN nq).cell? ⟨p15, 0, none⟩ = some (.int .i64 (LL : Int)) := r3
                              clear r2 r3 F19 SA3 hM19 c5 s7 e1
                              generalize wr.drewN nq = w20 at *
                              go_upto_region 43 with fail
                              go_cut [200] (fun s200 wc => s200 = .bool false ∧ wc = w20)
                              case first =>
                                by_cases hz : KK = 0
                                · subst hz
                                  go_wp2_with fail
                                  go_meet
                                  case rel => exact ⟨rfl, rfl⟩
                                · have hz' : 0 < KK := by omega
                                  obtain ⟨ga, hga, y0⟩ := SA4.out.cell (HNA.out 0 hz')
                                  rw [HN0.out] at y0
                                  subst hga
                                  clear hz
                                  go_wp2_with fail
                                  go_meet
                                  case rel => exact ⟨rfl, rfl⟩
                              case rest =>
                                obtain ⟨rfl, hw⟩ := hcut
                                replace hw := hw.symm
                                subst hw
                                have hM20 := hid (MM.out.fr F20.out (fun _ _ q => q) (fun _ _ q => q))
                                have c5 := hM20.out.st.cell 5
                                simp only [List.size_toArray, List.length_cons, List.length_nil, Nat.zero_add, Nat.reduceAdd, Nat.reduceLT, getElem?_pos, List.getElem_toArray, List.getElem_cons_succ, List.getElem_cons_zero] at c5
                                have s7 := hM20.out.c.cell hhn
                                rw [hsc] at s7
                                go_upto_region 45 with fail
                                by_cases hvh : v = lm
                                · have hLs : (LL : Int) = sc := HLE.out hvh
                                  have e1 : ((v : Int) == (lm : Int)) = true := by simp [hvh]
                                  have e2 : ((LL : Int) != sc) = false := by simp [hLs]
                                  have HVH := hid hvh
                                  clear hvh hLs HLE
                                  go_quiet (fail)
                                  go_wp2_with fail
                                  go_roundg (n - v - 1)
                                  case measure => omega
                                  case rel => exact ⟨v + 1, by omega, by go_num, by rw [HCV.out]; go_num, hid (F20.out.drewN _)⟩
                                · have e1 : ((v : Int) == (lm : Int)) = false := by simp; omega
                                  clear HLE
                                  go_quiet (fail)
                                  go_wp2_with fail
                                  go_roundg (n - v - 1)
                                  case measure => omega
                                  case rel => exact ⟨v + 1, by omega, by go_num, by rw [HCV.out]; go_num, hid (F20.out.drewN _)⟩
                      · have hno : fmP (.string key) = none := by
                          have := fnd_no HDS.out hhn N8.out hMv.out.kn hMv.out.kl hv hA
                          rw [show kyV ks v = .string key by unfold kyV; rw [hkey]] at this
                          exact this
                        rw [hno] at hlkP
                        simp only [Option.getD_none, Option.isSome_none] at hlkP
                        have HCV := hid (show inH g D n lm (v + 1) = cv by rw [HOC.out, hcv, if_neg hA, Nat.add_zero])
                        have HSB := hid (show sameB D n lm v = true → sc = 0 from fun q => by
                          have : ¬ 0 < scAt g D n n lm := fun r => hA ⟨r, q⟩
                          rw [hsc] at this
                          omega)
                        obtain ⟨iv, hiv⟩ : ∃ iv, sameB D n lm v = iv := ⟨_, rfl⟩
                        rw [hiv] at i1 HSB
                        rw [hcv]
                        clear hcv hno hA hkey hiv
                        obtain ⟨p15, hp15⟩ : ∃ p, p = wr.heap.size := ⟨_, rfl⟩
                        go_upto_region 26 with fail
                        rw [← hp15]
                        have f15 : Fr Nothing wr (wr.alloc (Obj.cells #[.int .i64 0, .slice none 0 0] 39)) := (Fr.refl _ wr).alloc _
                        have F15 := hid (show Fr Nothing wA (wr.alloc (Obj.cells #[.int .i64 0, .slice none 0 0] 39)) from hFv.out.alloc _)
                        have i2 := f15.cell i1 (fun q => q)
                        clear i1 s5 c0 c1 c5 q1 hlkP hp15 f15 MrP MrW hMv FrW hFv Br
                        generalize wr.alloc (Obj.cells #[.int .i64 0, .slice none 0 0] 39) = w15 at *
                        have hM15 := hid (MM.out.fr F15.out (fun _ _ q => q) (fun _ _ q => q))
                        have c0 := hM15.out.st.cell 0
                        have c5 := hM15.out.st.cell 5
                        simp only [List.size_toArray, List.length_cons, List.length_nil, Nat.zero_add, Nat.reduceAdd, Nat.reduceLT, Nat.zero_lt_succ, getElem?_pos, List.getElem_toArray, List.getElem_cons_succ, List.getElem_cons_zero] at c0 c5
                        have s6 := hM15.out.c.cell hhn
                        rw [hsc] at s6
                        cases iv with
                        | true =>
                          have hs0 : sc = 0 := HSB.out rfl
                          subst hs0
                          go_wp2_with fail
                          go_roundg (gk - 1)
                          case measure => omega
                          case rel => exact ⟨v + 1, by omega, by go_num, by rw [HCV.out], F15⟩
                        | false =>
                          go_wp2_with fail
                          go_roundg (gk - 1)
                          case measure => omega
                          case rel => exact ⟨v + 1, by omega, by go_num, by rw [HCV.out], F15⟩
                    · have hvn : v = n := by omega
                      have hcP : cnP = cv := by rw [← hcv, hvn]; exact HCP.out
                      rw [hcv]
                      have hlenP := MrP.out.len28'
                      have gP : ((cnP : Int) == (cv : Int)) = true := by simp [hcP]
                      clear hcP hcv hvn
                      go_wp2_with fail
                      go_ret
                      exact ⟨rfl, FrW.out⟩
            · have e0 : ((lm : Int) != (hb : Int)) = true := by simp; omega
              go_wp2_with fail
              go_ret
              exact ⟨rfl, F3'.out⟩
end Go.Proofs.Qxb6615025a
