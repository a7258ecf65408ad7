-- The law FnCyclesLeadPrefixAnyOrder (4).
import Derived.Test.Qxb6615025aLk
import Derived.Test.Qxb6615025aGraphOfR
import Derived.Test.Qxb6615025aPart
import Derived.BigQuiet
import Derived.Deep.DeepCutAuto
namespace Go.Proofs.Qxb6615025a
open Go.RowKit Go.MapKept

set_option maxRecDepth 100000 in
set_option maxHeartbeats 16000000 in
theorem law4_any (ai ae : Option Addr) (ci ce : Nat) (ids : List ByteArray) (ra : Nat → Option Addr) (rc : Nat → Nat) (rl : List (List ByteArray)) (la lb : Int) (w : World) (hi : Str w ai ids) (he : Edg w ae ra rc rl)
    (hl : la < 9223372036854775808) (hh : -9223372036854775808 ≤ lb ∧ lb < 9223372036854775808) :
    Calls Try.prog 4 #[.slice ai ids.length ci, .slice ae rl.length ce, .int .i64 la, .int .i64 lb] w fun e w' => e = .returned (.bool true) ∧ Fr Nothing w w' := by
  have HI := hid hi
  have HE := hid he
  have H16 := hid (fun w' (hf : Fr Nothing w w') => zzBytes15_any ai ae ci ce ids ra rc rl (.int .i64 la) (.int .i64 lb) w' (hi.fr hf) (he.fr hf))
  have H9 := hid (fun w' (hf : Fr Nothing w w') => zzTooBig_any ai ae ci ce ids ra rc rl w' (hi.fr hf) (he.fr hf))
  clear hi he
  go_enter Try.func4, Try.ntmps4
  go_upto_if 28 with (go_at_call 15; with_reducible refine (H16.out _ (Fr.refl _ w)).mono ?_; rintro e w1 ⟨r, rfl, k1, hw1⟩; subst hw1)
  cases r with
  | false =>
    go_wp2_with fail
    go_ret
    exact ⟨rfl, (Fr.refl _ w).drewN _⟩
  | true =>
    have F1 := hid (show Fr Nothing w (w.drewN k1) from (Fr.refl _ w).drewN _)
    generalize w.drewN k1 = w1 at *
    go_upto_if 31 with (go_at_call 9; with_reducible refine (H9.out _ F1.out).mono ?_; rintro e w2 ⟨r, rfl, ⟨k2, hw2⟩, hbig⟩; subst hw2)
    cases r with
    | true =>
      go_wp2_with fail
      go_ret
      exact ⟨rfl, F1.out.drewN _⟩
    | false =>
      obtain ⟨hb1, hb2, hb3, hb4⟩ := hbig rfl
      have HB2 := hid hb2
      have HB4 := hid hb4
      clear hb2 hbig hb3 hb4
      have F2 := hid (F1.out.drewN k2)
      generalize w1.drewN k2 = w2 at *
      by_cases hl0 : la < 0
      · have g1 : decide (la < 0) = true := by simpa using hl0
        go_wp2_with fail
        go_ret
        exact ⟨rfl, F2.out⟩
      · obtain ⟨an, rfl⟩ : ∃ ln : Nat, la = ln := ⟨la.toNat, by omega⟩
        have gl0 : decide ((an : Int) < 0) = false := by simp
        by_cases hl1 : lb < 0
        · have g1 : decide (lb < 0) = true := by simpa using hl1
          go_wp2_with fail
          go_ret
          exact ⟨rfl, F2.out⟩
        · obtain ⟨bn, rfl⟩ : ∃ ln : Nat, lb = ln := ⟨lb.toNat, by omega⟩
          have gl1 : decide ((bn : Int) < 0) = false := by simp
          have H10 := hid (zzBuild_any ai ae ci ce ids ra rc rl w2 (HI.out.fr F2.out) (HE.out.fr F2.out) hb1 HB2.out (fun s => by
            have h1 := sm_tot rl (s + 1)
            have h2 : (rl.getD s []).length ≤ sm (fun i => (rl.getD i []).length) (s + 1) := by
              show _ ≤ sm _ s + (rl.getD s []).length
              omega
            have := HB4.out
            omega))
          have HLA := hid (show an < 9223372036854775808 by omega)
          have HLB := hid (show bn < 9223372036854775808 by omega)
          clear hl0 hl1 hl hh
          go_upto_region 8 with (go_at_call 10; with_reducible refine H10.out.mono ?_; rintro e w3 ⟨bm, bx, bd, bsc, bse, n, ks, src, ak, ck, as', cs, v3, D, g, rfl, hMS, hKS, hg, hD, hF3, hblk, hblk2⟩)
          have M3 := hid hMS
          have K3 := hid hKS
          have HG := hid hg
          have HD := hid hD
          have F3 := hid (F2.out.trans hF3 (fun _ _ q => q))
          have hnn := hMS.nn
          clear hMS hKS hg hD hF3 hblk hblk2 H10 H9 H16
          have H11 := hid (graphOf_any w3 bm bx bd bsc bse n ks src ak ck as' cs v3 D (scAt g D n n) (fun _ => 0) 0 ae ce ra rc rl M3.out (HE.out.fr F3.out))
          have hDst : Dst g n D := ⟨fun u hu v hv => by
            rw [HG.out] at hv
            obtain ⟨s, _, hs⟩ := List.mem_filterMap.1 hv
            have := idx_lt hs
            rw [M3.out.kl] at this
            exact this, hnn, HD.out⟩
          have HDS := hid hDst
          clear hDst
          have H12 := hid (fun (w7 : World) (bg : Nat) (hG7 : GM w7 bg (gl rl ra rc ks src n)) (hF7 : Fr Nothing w3 w7) =>
            cycles_any bg (gl rl ra rc ks src n) ks (fun i => eA rl ra (src.getD i 0)) (fun i => rl.getD (src.getD i 0) []) (fun i => eC rl rc (src.getD i 0)) w7 n (nm_of K3.out M3.out.kl hnn HB2.out HB4.out hG7 (HE.out.fr (F3.out.trans hF7 (fun _ _ q => q)))) an HLA.out (sameB D n) (by rw [← HG.out]; exact HDS.out.rch))
          rw [← HG.out] at H12
          have H11R := hid (fun (w' : World) (hF : Fr Nothing w3 w') => graphOfR_any w' bm bx bd bsc bse n ks src ak ck as' cs v3 D (scAt g D n n) (fun _ => 0) 0 ae ce ra rc rl (M3.out.fr hF (fun _ _ q => q) (fun _ _ q => q)) (HE.out.fr (F3.out.trans hF (fun _ _ q => q))))
          have H12R := hid (fun (w7 : World) (bg : Nat) (hG7 : GM w7 bg (gl rl ra rc ks src n)) (hF7 : Fr Nothing w3 w7) (w9 : World) (bg9 : Nat) (hG9 : GM w9 bg9 (glr rl ra rc ks src n n)) (hF9 : Fr Nothing w3 w9) =>
            cycles_any bg9 (glr rl ra rc ks src n n) ks (fun i => eA rl ra (src.getD i 0)) (fun i => rl.getD (src.getD i 0) []) (fun i => eC rl rc (src.getD i 0)) w9 n (nm_ofR (nm_of K3.out M3.out.kl hnn HB2.out HB4.out hG7 (HE.out.fr (F3.out.trans hF7 (fun _ _ q => q)))) hG9 (HE.out.fr (F3.out.trans hF9 (fun _ _ q => q)))) bn HLB.out (sameB D n) (by rw [← HG.out]; exact HDS.out.rch))
          rw [← HG.out] at H12R
          go_upto_region 9 with (first | (go_at_call 11; with_reducible refine H11.out.mono ?_; rintro e w7 ⟨bg, rfl, hG7, hF7, hbg⟩; have G7 := hid hG7; have F7 := hid hF7; clear hG7 hF7 hbg) | (go_at_call 12; with_reducible refine (H12.out _ _ G7.out F7.out).mono ?_; rintro e w8 ⟨bmA, cnA, fmA, rfl, hM8, hF8, hN8, hbmr⟩; have M8 := hid hM8; have F8 := hid hF8; have N8 := hid hN8; clear hM8 hF8 hN8 hbmr))
          have F38 := hid (F7.out.trans F8.out (fun _ _ q => q))
          clear H11 H12
          go_upto_region 12 with (first | (go_at_call 11; with_reducible refine (H11R.out _ F38.out).mono ?_; rintro e w9 ⟨bg9, rfl, hG9, hF9, hbg9⟩; have G9 := hid hG9; have F9 := hid hF9; have F39 := hid (F38.out.trans hF9 (fun _ _ q => q)); clear hG9 hF9 hbg9) | (go_at_call 12; with_reducible refine (H12R.out _ _ G7.out F7.out _ _ G9.out F39.out).mono ?_; rintro e wA ⟨bmB, cnB, fmB, rfl, hMA, hFA, hNA, hbmB⟩; have MA := hid hMA; have FA := hid hFA; have NA := hid hNA; clear hMA hFA hNA hbmB))
          have F8A := hid (F9.out.trans FA.out (fun _ _ q => q))
          have f3A : Fr Nothing w3 wA := F39.out.trans FA.out (fun _ _ q => q)
          have MM := hid (M3.out.fr f3A (fun _ _ q => q) (fun _ _ q => q))
          have FF := hid (F3.out.trans f3A (fun _ _ q => q))
          have HCA := hid (fds_count HDS.out N8.out M3.out.kn M3.out.kl M8.out)
          have HCB := hid (fds_count HDS.out NA.out M3.out.kn M3.out.kl MA.out)
          have MZ := hid (show MapAt .string wA bmA cnA fmA from M8.out.of_block (F8A.out.block bmA M8.out.lt (fun q => q)))
          clear f3A H11R H12R G7 F7 F8 G9 F9 F39 FA F38
          go_loopg [12, 13, 14, 15, 16, 17, 18, 19, 20, 21, 22] n (fun gg s12 s13 s14 s15 s16 s17 s18 s19 s20 s21 s22 wr => ∃ (v : Nat), gg + v = n ∧ s13 = .int .i64 (v : Int) ∧ s12 = .int .i64 ((onC g D n v : Nat) : Int) ∧ Hid (Fr Nothing wA wr))
          case atStart => exact ⟨0, by omega, rfl, by simp [onC], hid (Fr.refl _ wA)⟩
          case round => as_aux_lemma =>
            obtain ⟨v, hgv, rfl, rfl, hFv⟩ := hrel
            have hMv := hid (MM.out.fr hFv.out (fun _ _ q => q) (fun _ _ q => q))
            have c0 := hMv.out.st.cell 0
            have c1 := hMv.out.st.cell 1
            have c5 := hMv.out.st.cell 5
            simp only [List.size_toArray, List.length_cons, List.length_nil, Nat.zero_add, Nat.reduceAdd, Nat.reduceLT, Nat.zero_lt_succ, getElem?_pos, List.getElem_toArray, List.getElem_cons_succ, List.getElem_cons_zero] at c0 c1 c5
            have MrA := hid (show MapAt .string wr bmA cnA fmA from MZ.out.of_block (hFv.out.block bmA MZ.out.lt (fun q => q)))
            have MrB := hid (show MapAt .string wr bmB cnB fmB from MA.out.of_block (hFv.out.block bmB MA.out.lt (fun q => q)))
            have FrW := hid (show Fr Nothing w wr from FF.out.trans hFv.out (fun _ _ q => q))
            obtain ⟨cv, hcv⟩ : ∃ cv, onC g D n v = cv := ⟨_, rfl⟩
            have hcv2 : cv ≤ v := by rw [← hcv]; exact onC_le v
            have HOC := hid (onC_succ (g := g) (D := D) (n := n) v)
            by_cases hv : v < n
            · have hkv : v < ks.length := by rw [M3.out.kl]; exact hv
              obtain ⟨gk1, hgk1, q1⟩ := hMv.out.k.cell (j := v) (v := .string (ks.getD v ByteArray.empty)) (by simp [strs, hkv])
              obtain ⟨key, hkey⟩ : ∃ key, ks.getD v ByteArray.empty = key := ⟨_, rfl⟩
              rw [hkey] at q1
              have hlkA := MrA.out.look (k := .string key) u28 Try.underlying9 (z39' wr) (isS key) true
              simp only [if_true] at hlkA
              have s5 := hMv.out.c.cell hv
              have scb := sc_bound HDS.out hv
              obtain ⟨sc, hsc⟩ : ∃ sc, scAt g D n n v = sc := ⟨_, rfl⟩
              rw [hsc] at s5 scb
              obtain ⟨scb1, scb2⟩ := scb
              by_cases hA : 0 < scAt g D n n v
              · obtain ⟨aA, cA, hfmA, hSlA, habA⟩ := fds_yes HDS.out N8.out hv hA
                obtain ⟨aB, cB, hfmB, hSlB, habB⟩ := fds_yes HDS.out NA.out hv hA
                have hOK := cyV_ok HDS.out hv hA
                have hpos : 0 < sc := by rw [← hsc]; exact hA
                rw [show kyV ks v = .string key by unfold kyV; rw [hkey]] at hfmA hfmB
                rw [hfmA] at hlkA
                simp only [Option.getD_some, Option.isSome_some] at hlkA
                generalize cyV g D n v = cy at *
                have HOK := hid hOK
                have gsc : decide (0 < sc) = true := by simpa using hpos
                have HCV := hid (show onC g D n (v + 1) = cv + 1 by rw [HOC.out, hcv, if_pos hA])
                have hlen := hOK.len
                obtain ⟨LL, hLL⟩ : ∃ L, cy.length = L := ⟨_, rfl⟩
                obtain ⟨KA, hKA⟩ : ∃ K, (cy.take an).length = K := ⟨_, rfl⟩
                obtain ⟨KB, hKB⟩ : ∃ K, (cy.take bn).length = K := ⟨_, rfl⟩
                have SA := hid (show Sl wr 9 1 aA KA cA (names ks (cy.take an)) by rw [← hKA]; exact hSlA.fr (F8A.out.trans hFv.out (fun _ _ q => q)) (fun _ _ q => q))
                have SB := hid (show Sl wr 9 1 aB KB cB (names ks (cy.take bn)) by rw [← hKB]; exact hSlB.fr hFv.out (fun _ _ q => q))
                have HKA := hid (show KA = min an LL by rw [← hKA, ← hLL, List.length_take])
                have HKB := hid (show KB = min bn LL by rw [← hKB, ← hLL, List.length_take])
                have HNA := hid (show ∀ i, i < KA → (names ks (cy.take an))[i]? = some (.string (ks.getD (cy.getD i 0) ByteArray.empty)) from fun i hi => lead_at (by rw [hKA]; exact hi))
                have HNB := hid (show ∀ i, i < KB → (names ks (cy.take bn))[i]? = some (.string (ks.getD (cy.getD i 0) ByteArray.empty)) from fun i hi => lead_at (by rw [hKB]; exact hi))
                have HN0 := hid (show ks.getD (cy.getD 0 0) ByteArray.empty = key by rw [hOK.ok.hd, hkey])
                have hsL : sc ≤ LL := by have := hOK.sc; rw [hsc, hLL] at this; exact this
                have HLE := hid (show leastN D n v = v → (LL : Int) = sc from fun e => by rw [← hLL, ← hsc]; exact hOK.least e.symm)
                rw [hLL, hKA] at hlkA
                rw [hLL, hKB] at hfmB
                rw [hLL] at hlen
                rw [hcv]
                clear hOK HOK hSlA hSlB habA habB hfmA hLL hKA hKB hcv hA
                obtain ⟨p15, hp15⟩ : ∃ p, p = wr.heap.size := ⟨_, rfl⟩
                go_upto_region 16 with fail
                rw [← hp15]
                have f15 : Fr Nothing wr (wr.alloc (Obj.cells #[.int .i64 (LL : Int), .slice aA KA cA] 39)) := (Fr.refl _ wr).alloc _
                have R15 := hid (show Rec (wr.alloc (Obj.cells #[.int .i64 (LL : Int), .slice aA KA cA] 39)) p15 39 #[.int .i64 (LL : Int), .slice aA KA cA] from Rec.newAt _ 39 p15 _ hp15.symm)
                have F15 := hid (show Fr Nothing wA (wr.alloc (Obj.cells #[.int .i64 (LL : Int), .slice aA KA cA] 39)) from hFv.out.alloc _)
                have SA1 := hid (SA.out.fr f15 (fun _ _ q => q))
                have SB1 := hid (SB.out.fr f15 (fun _ _ q => q))
                have MB1 := hid (show MapAt .string (wr.alloc (Obj.cells #[.int .i64 (LL : Int), .slice aA KA cA] 39)) bmB cnB fmB from MrB.out.of_block (f15.block bmB MrB.out.lt (fun q => q)))
                clear s5 c0 c1 c5 q1 hlkA hp15 f15 SA SB MrA MrB hMv FrW hFv
                generalize wr.alloc (Obj.cells #[.int .i64 (LL : Int), .slice aA KA cA] 39) = w15 at *
                have hlkB := MB1.out.look (k := .string key) u28 Try.underlying9 (z39' w15) (isS key) true
                rw [hfmB] at hlkB
                simp only [if_true, Option.getD_some, Option.isSome_some] at hlkB
                obtain ⟨p17, hp17⟩ : ∃ p, p = w15.heap.size := ⟨_, rfl⟩
                clear hfmB
                go_upto_region 17 with fail
                rw [← hp17]
                have f17 : Fr Nothing w15 (w15.alloc (Obj.cells #[.int .i64 (LL : Int), .slice aB KB cB] 39)) := (Fr.refl _ w15).alloc _
                have Q17 := hid (show Rec (w15.alloc (Obj.cells #[.int .i64 (LL : Int), .slice aB KB cB] 39)) p17 39 #[.int .i64 (LL : Int), .slice aB KB cB] from Rec.newAt _ 39 p17 _ hp17.symm)
                have R17 := hid (R15.out.fr f17 (fun q => q))
                have F17 := hid (F15.out.trans f17 (fun _ _ q => q))
                have SA2 := hid (SA1.out.fr f17 (fun _ _ q => q))
                have SB2 := hid (SB1.out.fr f17 (fun _ _ q => q))
                clear hlkB hp17 f17 SA1 SB1 MB1 R15 F15
                generalize w15.alloc (Obj.cells #[.int .i64 (LL : Int), .slice aB KB cB] 39) = w17 at *
                have hM17 := hid (MM.out.fr F17.out (fun _ _ q => q) (fun _ _ q => q))
                have c0 := hM17.out.st.cell 0
                have c5 := hM17.out.st.cell 5
                simp only [List.size_toArray, List.length_cons, List.length_nil, Nat.zero_add, Nat.reduceAdd, Nat.reduceLT, Nat.zero_lt_succ, getElem?_pos, List.getElem_toArray, List.getElem_cons_succ, List.getElem_cons_zero] at c0 c5
                have s6 := hM17.out.c.cell hv
                rw [hsc] at s6
                have r0 := R17.out.cell 0
                have x0 := Q17.out.cell 0
                simp at r0 x0
                have e0 : ((LL : Int) != (LL : Int)) = false := by simp
                have e1 : decide ((LL : Int) < sc) = false := by simp; omega
                go_upto_region 21 with fail
                go_quiet (fail)
                have hM18 := hid (hM17.out.drewN nq)
                have R18 := hid (show Rec (w17.drewN nq) p15 39 #[.int .i64 (LL : Int), .slice aA KA cA] from R17.out)
                have Q18 := hid (show Rec (w17.drewN nq) p17 39 #[.int .i64 (LL : Int), .slice aB KB cB] from Q17.out)
                have F18 := hid (F17.out.drewN nq)
                have SA3 := hid (SA2.out.drewN nq)
                have SB3 := hid (SB2.out.drewN nq)
                clear hM17 R17 Q17 F17 SA2 SB2 c0 c5 s6 r0 x0 e1
                generalize w17.drewN nq = w18 at *
                have t1 := hM18.out.st.cell 0
                have t4 := hM18.out.st.cell 4
                have c5 := hM18.out.st.cell 5
                simp only [List.size_toArray, List.length_cons, List.length_nil, Nat.zero_add, Nat.reduceAdd, Nat.reduceLT, Nat.zero_lt_succ, getElem?_pos, List.getElem_toArray, List.getElem_cons_succ, List.getElem_cons_zero] at t1 t4 c5
                have s6 := hM18.out.c.cell hv
                rw [hsc] at s6
                have r0 := R18.out.cell 0
                simp at r0
                obtain ⟨lm, hlm⟩ : ∃ lm, leastN D n v = lm := ⟨_, rfl⟩
                have H14 := hid (fun q => least_any bm bd n v D (w18.drewN q) hnn hv t1 t4 hM18.out.d)
                rw [hlm] at H14 HLE
                clear hlm t1 t4
                go_upto_region 23 with fail
                go_cut [130] (fun s130 wc => s130 = .bool false ∧ ∃ q, wc = w18.drewN q)
                case first =>
                  by_cases hvh : lm = v
                  · have hLs : (LL : Int) = sc := HLE.out hvh
                    have e1 : ((lm : Int) == (v : Int)) = true := by simp [hvh]
                    have e2 : ((LL : Int) != sc) = false := by simp [hLs]
                    have HVH := hid hvh
                    clear hvh hLs HLE
                    go_quiet ((refine (H14.out _).mono ?_; rintro e w'' ⟨he, kk, rfl⟩; first | exact ⟨he, _, rfl⟩ | exact ⟨he, _, by rw [World.drewN_drewN]⟩ | exact ⟨he, _, by rw [World.drewN_drewN, Nat.add_assoc]⟩))
                    go_wp2_with fail
                    go_meet
                    case rel => exact ⟨rfl, _, rfl⟩
                  · have e1 : ((lm : Int) == (v : Int)) = false := by simp; omega
                    clear HLE
                    go_quiet ((refine (H14.out _).mono ?_; rintro e w'' ⟨he, kk, rfl⟩; first | exact ⟨he, _, rfl⟩ | exact ⟨he, _, by rw [World.drewN_drewN]⟩ | exact ⟨he, _, by rw [World.drewN_drewN, Nat.add_assoc]⟩))
                    go_wp2_with fail
                    go_meet
                    case rel => exact ⟨rfl, _, rfl⟩
                case rest =>
                  obtain ⟨rfl, q, rfl⟩ := hcut
                  have R19 := hid (show Rec (w18.drewN q) p15 39 #[.int .i64 (LL : Int), .slice aA KA cA] from R18.out)
                  have Q19 := hid (show Rec (w18.drewN q) p17 39 #[.int .i64 (LL : Int), .slice aB KB cB] from Q18.out)
                  have F19 := hid (F18.out.drewN q)
                  have SA4 := hid (SA3.out.drewN q)
                  have SB4 := hid (SB3.out.drewN q)
                  clear hM18 R18 Q18 F18 SA3 SB3 c5 s6 r0 H14 HLE
                  generalize w18.drewN q = w19 at *
                  have r0 := R19.out.cell 0
                  have r1 := R19.out.cell 1
                  have x0 := Q19.out.cell 0
                  have x1 := Q19.out.cell 1
                  simp at r0 r1 x0 x1
                  go_upto_if 135 with fail
                  go_cut [19] (fun s19 wc => s19 = .int .i64 (KA : Int) ∧ wc = w19)
                  case first =>
                    by_cases hlt : LL < an
                    · have E := hid (show KA = LL by have := HKA.out; omega)
                      go_wp2_with fail
                      go_meet
                      case rel => exact ⟨by rw [E.out], rfl⟩
                    · have E := hid (show KA = an by have := HKA.out; omega)
                      go_wp2_with fail
                      go_meet
                      case rel => exact ⟨by rw [E.out], rfl⟩
                  case rest =>
                    obtain ⟨rfl, hw⟩ := hcut
                    replace hw := hw.symm
                    subst hw
                    go_upto_if 142 with fail
                    go_cut [20] (fun s20 wc => s20 = .int .i64 (KB : Int) ∧ wc = w19)
                    case first =>
                      by_cases hlt : LL < bn
                      · have E := hid (show KB = LL by have := HKB.out; omega)
                        go_wp2_with fail
                        go_meet
                        case rel => exact ⟨by rw [E.out], rfl⟩
                      · have E := hid (show KB = bn by have := HKB.out; omega)
                        go_wp2_with fail
                        go_meet
                        case rel => exact ⟨by rw [E.out], rfl⟩
                    case rest =>
                      obtain ⟨rfl, hw⟩ := hcut
                      replace hw := hw.symm
                      subst hw
                      have eA : ((KA : Int) != (KA : Int)) = false := by simp
                      have eB : ((KB : Int) != (KB : Int)) = false := by simp
                      go_upto_region 33 with fail
                      go_cut [166] (fun s166 wc => s166 = .bool false ∧ wc = w19)
                      case first =>
                        by_cases hz : KA = 0
                        · subst hz
                          go_wp2_with fail
                          go_meet
                          case rel => exact ⟨rfl, rfl⟩
                        · have hz' : 0 < KA := by omega
                          obtain ⟨ga, hga, y0⟩ := SA4.out.cell (HNA.out 0 hz')
                          rw [HN0.out] at y0
                          subst hga
                          clear hz
                          go_wp2_with fail
                          go_meet
                          case rel => exact ⟨rfl, rfl⟩
                      case rest =>
                        obtain ⟨rfl, hw⟩ := hcut
                        replace hw := hw.symm
                        subst hw
                        go_upto_region 35 with fail
                        go_cut [176] (fun s176 wc => s176 = .bool false ∧ wc = w19)
                        case first =>
                          by_cases hz : KB = 0
                          · subst hz
                            go_wp2_with fail
                            go_meet
                            case rel => exact ⟨rfl, rfl⟩
                          · have hz' : 0 < KB := by omega
                            obtain ⟨ga, hga, y0⟩ := SB4.out.cell (HNB.out 0 hz')
                            rw [HN0.out] at y0
                            subst hga
                            clear hz
                            go_wp2_with fail
                            go_meet
                            case rel => exact ⟨rfl, rfl⟩
                        case rest =>
                          obtain ⟨rfl, hw⟩ := hcut
                          replace hw := hw.symm
                          subst hw
                          obtain ⟨kk, hkk⟩ : ∃ kk, kk = min KA KB := ⟨_, rfl⟩
                          have HKK := hid hkk
                          have hkb : kk ≤ LL := by have := HKA.out; omega
                          clear hkk
                          go_upto_if 180 with fail
                          go_cut [21] (fun s21 wc => s21 = .int .i64 (kk : Int) ∧ wc = w19)
                          case first =>
                            by_cases hlt : KB < KA
                            · have E := hid (show kk = KB by have := HKK.out; omega)
                              go_wp2_with fail
                              go_meet
                              case rel => exact ⟨by rw [E.out], rfl⟩
                            · have E := hid (show kk = KA by have := HKK.out; omega)
                              go_wp2_with fail
                              go_meet
                              case rel => exact ⟨by rw [E.out], rfl⟩
                          case rest =>
                            obtain ⟨rfl, hw⟩ := hcut
                            replace hw := hw.symm
                            subst hw
                            go_wp2_with fail
                            go_loopg [22] kk (fun g2 s22 wi => ∃ (i : Nat), g2 + i = kk ∧ s22 = .int .i64 (i : Int) ∧ Hid (Fr Nothing w19 wi))
                            case atStart => exact ⟨0, by omega, rfl, hid (Fr.refl _ w19)⟩
                            case round => as_aux_lemma =>
                              obtain ⟨i, hgi, rfl, hFi⟩ := hrel
                              by_cases hi : i < kk
                              · have hiA : i < KA := by have := HKK.out; omega
                                have hiB : i < KB := by have := HKK.out; omega
                                obtain ⟨ga, hga, y0⟩ := SA4.out.cell (HNA.out i hiA)
                                obtain ⟨gb, hgb, y1⟩ := SB4.out.cell (HNB.out i hiB)
                                generalize ks.getD (cy.getD i 0) ByteArray.empty = nm at y0 y1
                                subst hga
                                subst hgb
                                have r2 := hFi.out.cell r1 (fun q => q)
                                have x2 := hFi.out.cell x1 (fun q => q)
                                have y2 := hFi.out.cell y0 (fun q => q)
                                have y3 := hFi.out.cell y1 (fun q => q)
                                clear r0 r1 x0 x1 y0 y1
                                go_upto_region 43 with fail
                                go_quiet (fail)
                                go_wp2_with fail
                                go_roundg (kk - i - 1)
                                case measure => omega
                                case rel => exact ⟨i + 1, by omega, by go_num, hid (hFi.out.drewN _)⟩
                              · go_wp2_with fail
                                go_roundg (n - v - 1)
                                case measure => omega
                                case rel => exact ⟨v + 1, by omega, by go_num, by rw [HCV.out]; go_num, hid (F19.out.trans hFi.out (fun _ _ q => q))⟩
              · have hnoA : fmA (.string key) = none := by
                  have := fds_no HDS.out N8.out M3.out.kn M3.out.kl hv hA
                  rw [show kyV ks v = .string key by unfold kyV; rw [hkey]] at this
                  exact this
                have hnoB : fmB (.string key) = none := by
                  have := fds_no HDS.out NA.out M3.out.kn M3.out.kl hv hA
                  rw [show kyV ks v = .string key by unfold kyV; rw [hkey]] at this
                  exact this
                rw [hnoA] at hlkA
                simp only [Option.getD_none, Option.isSome_none] at hlkA
                have hs0 : sc = 0 := by rw [hsc] at hA; omega
                have HCV := hid (show onC g D n (v + 1) = cv by rw [HOC.out, hcv, if_neg hA, Nat.add_zero])
                rw [hcv]
                subst hs0
                clear hcv hnoA hA hkey
                obtain ⟨p15, hp15⟩ : ∃ p, p = wr.heap.size := ⟨_, rfl⟩
                go_upto_region 16 with fail
                rw [← hp15]
                have f15 : Fr Nothing wr (wr.alloc (Obj.cells #[.int .i64 0, .slice none 0 0] 39)) := (Fr.refl _ wr).alloc _
                have F15 := hid (show Fr Nothing wA (wr.alloc (Obj.cells #[.int .i64 0, .slice none 0 0] 39)) from hFv.out.alloc _)
                have MB1 := hid (show MapAt .string (wr.alloc (Obj.cells #[.int .i64 0, .slice none 0 0] 39)) bmB cnB fmB from MrB.out.of_block (f15.block bmB MrB.out.lt (fun q => q)))
                clear s5 c0 c1 c5 q1 hlkA hp15 f15 MrA MrB hMv FrW hFv
                generalize wr.alloc (Obj.cells #[.int .i64 0, .slice none 0 0] 39) = w15 at *
                have hlkB := MB1.out.look (k := .string key) u28 Try.underlying9 (z39' w15) (isS key) true
                rw [hnoB] at hlkB
                simp only [if_true, Option.getD_none, Option.isSome_none] at hlkB
                obtain ⟨p17, hp17⟩ : ∃ p, p = w15.heap.size := ⟨_, rfl⟩
                clear hnoB
                go_upto_region 17 with fail
                rw [← hp17]
                have F17 := hid (show Fr Nothing wA (w15.alloc (Obj.cells #[.int .i64 0, .slice none 0 0] 39)) from F15.out.alloc _)
                clear hlkB hp17 MB1 F15
                generalize w15.alloc (Obj.cells #[.int .i64 0, .slice none 0 0] 39) = w17 at *
                have hM17 := hid (MM.out.fr F17.out (fun _ _ q => q) (fun _ _ q => q))
                have c0 := hM17.out.st.cell 0
                have c5 := hM17.out.st.cell 5
                simp only [List.size_toArray, List.length_cons, List.length_nil, Nat.zero_add, Nat.reduceAdd, Nat.reduceLT, Nat.zero_lt_succ, getElem?_pos, List.getElem_toArray, List.getElem_cons_succ, List.getElem_cons_zero] at c0 c5
                have s6 := hM17.out.c.cell hv
                rw [hsc] at s6
                go_wp2_with fail
                go_roundg (gk - 1)
                case measure => omega
                case rel => exact ⟨v + 1, by omega, by go_num, by rw [HCV.out], F17⟩
            · have hvn : v = n := by omega
              have hcA : cnA = cv := by rw [← hcv, hvn]; exact HCA.out
              have hcB : cnB = cv := by rw [← hcv, hvn]; exact HCB.out
              rw [hcv]
              have hlenA := MrA.out.len28'
              have hlenB := MrB.out.len28'
              have gA : ((cnA : Int) == (cv : Int)) = true := by simp [hcA]
              have gB : ((cnB : Int) == (cv : Int)) = true := by simp [hcB]
              clear hcA hcB hcv hvn
              go_wp2_with fail
              go_ret
              exact ⟨rfl, FrW.out⟩
end Go.Proofs.Qxb6615025a
