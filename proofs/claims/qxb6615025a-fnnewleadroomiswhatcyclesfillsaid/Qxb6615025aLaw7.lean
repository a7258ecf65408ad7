-- The law FnNewLeadRoomIsWhatCyclesFill (7).
import Derived.Test.Qxb6615025aLk
import Derived.Test.Qxb6615025aNewLead
import Derived.BigQuiet
import Derived.Deep.DeepCutAuto
namespace Go.Proofs.Qxb6615025a
open Go.RowKit Go.MapKept

set_option maxRecDepth 100000 in
set_option maxHeartbeats 16000000 in
theorem law7_any (ai ae : Option Addr) (ci ce : Nat) (ids : List ByteArray) (ra : Nat → Option Addr) (rc : Nat → Nat) (rl : List (List ByteArray)) (lead : Int) (w : World) (hi : Str w ai ids) (he : Edg w ae ra rc rl)
    (hl : lead < 9223372036854775808) :
    Calls Try.prog 7 #[.slice ai ids.length ci, .slice ae rl.length ce, .int .i64 lead] w fun e w' => e = .returned (.bool true) ∧ Fr Nothing w w' := by
  have HI := hid hi
  have HE := hid he
  have H16 := hid (fun w' (hf : Fr Nothing w w') => zzBytes20_any ai ae ci ce ids ra rc rl (.int .i64 lead) w' (hi.fr hf) (he.fr hf))
  have H9 := hid (fun w' (hf : Fr Nothing w w') => zzTooBig_any ai ae ci ce ids ra rc rl w' (hi.fr hf) (he.fr hf))
  clear hi he
  go_enter Try.func7, Try.ntmps7
  go_upto_if 19 with (go_at_call 20; with_reducible refine (H16.out _ (Fr.refl _ w)).mono ?_; rintro e w1 ⟨r, rfl, k1, hw1⟩; subst hw1)
  cases r with
  | false =>
    go_wp2_with fail
    go_ret
    exact ⟨rfl, (Fr.refl _ w).drewN _⟩
  | true =>
    have F1 := hid (show Fr Nothing w (w.drewN k1) from (Fr.refl _ w).drewN _)
    generalize w.drewN k1 = w1 at *
    go_upto_if 22 with (go_at_call 9; with_reducible refine (H9.out _ F1.out).mono ?_; rintro e w2 ⟨r, rfl, ⟨k2, hw2⟩, hbig⟩; subst hw2)
    cases r with
    | true =>
      go_wp2_with fail
      go_ret
      exact ⟨rfl, F1.out.drewN _⟩
    | false =>
      obtain ⟨hb1, hb2, hb3, hb4⟩ := hbig rfl
      have HB2 := hid hb2
      have HB4 := hid hb4
      clear hb2 hbig hb3 hb4
      have F2 := hid (F1.out.drewN k2)
      generalize w1.drewN k2 = w2 at *
      by_cases hl0 : lead < 0
      · go_wp2_with fail
        go_ret
        exact ⟨rfl, F2.out⟩
      · obtain ⟨ln, rfl⟩ : ∃ ln : Nat, lead = ln := ⟨lead.toNat, by omega⟩
        have H10 := hid (zzBuild_any ai ae ci ce ids ra rc rl w2 (HI.out.fr F2.out) (HE.out.fr F2.out) hb1 HB2.out (fun s => by
          have h1 := sm_tot rl (s + 1)
          have h2 : (rl.getD s []).length ≤ sm (fun i => (rl.getD i []).length) (s + 1) := by
            show _ ≤ sm _ s + (rl.getD s []).length
            omega
          have := HB4.out
          omega))
        have HLN := hid (show ln < 9223372036854775808 by omega)
        have gl0 : decide ((ln : Int) < 0) = false := by simp
        clear hl0 hl
        go_upto_region 8 with (go_at_call 10; with_reducible refine H10.out.mono ?_; rintro e w3 ⟨bm, bx, bd, bsc, bse, n, ks, src, ak, ck, as', cs, v3, D, g, rfl, hMS, hKS, hg, hD, hF3, hblk, hblk2⟩)
        have M3 := hid hMS
        have K3 := hid hKS
        have HG := hid hg
        have HD := hid hD
        have F3 := hid (F2.out.trans hF3 (fun _ _ q => q))
        have hs3 := F2.out.size
        have HBK := hid (show (∀ b ∈ [bm, bx, bd, bsc, bse], w.heap.size ≤ b) ∧ (∀ b, blk ak = some b ∨ blk as' = some b → w.heap.size ≤ b) from ⟨fun b hb => Nat.le_trans hs3 (hblk b hb), fun b hb => Nat.le_trans hs3 (hblk2 b hb)⟩)
        have hnn := hMS.nn
        clear hMS hKS hg hD hF3 hblk hblk2 H10 H9 H16 hs3
        have H11 := hid (graphOf_any w3 bm bx bd bsc bse n ks src ak ck as' cs v3 D (scAt g D n n) (fun _ => 0) 0 ae ce ra rc rl M3.out (HE.out.fr F3.out))
        have hDst : Dst g n D := ⟨fun u hu v hv => by
          rw [HG.out] at hv
          obtain ⟨s, _, hs⟩ := List.mem_filterMap.1 hv
          have := idx_lt hs
          rw [M3.out.kl] at this
          exact this, hnn, HD.out⟩
        have HDS := hid hDst
        clear hDst
        have H12 := hid (fun (w7 : World) (bg : Nat) (hG7 : GM w7 bg (gl rl ra rc ks src n)) (hF7 : Fr Nothing w3 w7) =>
          cycles_any bg (gl rl ra rc ks src n) ks (fun i => eA rl ra (src.getD i 0)) (fun i => rl.getD (src.getD i 0) []) (fun i => eC rl rc (src.getD i 0)) w7 n (nm_of K3.out M3.out.kl hnn HB2.out HB4.out hG7 (HE.out.fr (F3.out.trans hF7 (fun _ _ q => q)))) ln HLN.out (sameB D n) (by rw [← HG.out]; exact HDS.out.rch))
        rw [← HG.out] at H12
        go_upto_region 11 with (first | (go_at_call 11; with_reducible refine H11.out.mono ?_; rintro e w7 ⟨bg, rfl, hG7, hF7, hbg⟩; have G7 := hid hG7; have F7 := hid hF7; clear hG7 hF7 hbg) | (go_at_call 12; with_reducible refine (H12.out _ _ G7.out F7.out).mono ?_; rintro e w8 ⟨bmr, cn, fm, rfl, hM8, hF8, hN8, hbmr⟩; have M8 := hid hM8; have F8 := hid hF8; have N8 := hid hN8; clear hM8 hF8 hN8))
        have f38 : Fr Nothing w3 w8 := F7.out.trans F8.out (fun _ _ q => q)
        have hlt3 : ∀ b ∈ [bm, bx, bd, bsc, bse], b < w3.heap.size := fun b hb => by
          simp only [List.mem_cons, List.not_mem_nil, or_false] at hb
          rcases hb with rfl | rfl | rfl | rfl | rfl
          · exact M3.out.st.lt
          · exact M3.out.m.lt
          · exact Arr.lt M3.out.d
          · exact Arr.lt M3.out.c
          · exact Arr.lt M3.out.e
        have M9 := hid (M3.out.fr f38 (fun _ _ q => q) (fun _ _ q => q))
        have F9 := hid (F3.out.trans f38 (fun _ _ q => q))
        have HLT := hid (show (∀ b ∈ [bm, bx, bd, bsc, bse], b < w3.heap.size) ∧ w3.heap.size ≤ w7.heap.size ∧ w7.heap.size ≤ bmr from ⟨hlt3, F7.out.size, hbmr⟩)
        have HCN := hid (fds_count HDS.out N8.out M3.out.kn M3.out.kl M8.out)
        clear hlt3 f38 hbmr H11 H12 G7 F7 F8
        go_loopg [9, 10, 11, 12, 13, 14] n (fun gg s9 s10 s11 s12 s13 s14 wr => ∃ (v t : Nat) (se : Nat → Int), gg + v = n ∧ s10 = .int .i64 (v : Int) ∧ s9 = .int .i64 ((onC g D n v : Nat) : Int) ∧ t ≤ v ∧ Hid (MS wr bm bx bd bsc bse n ks src ak ck as' cs v3 D (scAt g D n n) se t) ∧ Hid (∀ x, x < n → se x ≤ t) ∧ Hid (Fr (fun k => k = bm ∨ k = bse) w8 wr))
        case atStart => exact ⟨0, 0, fun _ => 0, by omega, rfl, by simp [onC], Nat.le_refl _, M9, hid (fun _ _ => by simp), hid (Fr.refl _ w8)⟩
        case round =>
          obtain ⟨v, t, se, hgv, rfl, rfl, htv, hMv, hse, hFv⟩ := hrel
          have c0 := hMv.out.st.cell 0
          have c1 := hMv.out.st.cell 1
          have c5 := hMv.out.st.cell 5
          simp only [List.size_toArray, List.length_cons, List.length_nil, Nat.zero_add, Nat.reduceAdd, Nat.reduceLT, Nat.zero_lt_succ, getElem?_pos, List.getElem_toArray, List.getElem_cons_succ, List.getElem_cons_zero] at c0 c1 c5
          have hL := HLT.out
          have hbne : ∀ b, w3.heap.size ≤ b → ¬ (b = bm ∨ b = bse) := fun b hb q => by
            have h1 := hL.1 bm (by simp)
            have h2 := hL.1 bse (by simp)
            omega
          have HBNE := hid hbne
          have Mr := hid (show MapAt .string wr bmr cn fm from M8.out.of_block (hFv.out.block bmr M8.out.lt (hbne bmr (by omega))))
          have Fr9 := hid (show Fr Nothing w wr from F9.out.trans hFv.out (fun i hi q => by
            have := HBK.out.1
            rcases q with q | q
            · have := this bm (by simp); omega
            · have := this bse (by simp); omega))
          clear hL hbne
          obtain ⟨cv, hcv⟩ : ∃ cv, onC g D n v = cv := ⟨_, rfl⟩
          have hcv2 : cv ≤ v := by rw [← hcv]; exact onC_le v
          have HOC := hid (onC_succ (g := g) (D := D) (n := n) v)
          by_cases hv : v < n
          · have hkv : v < ks.length := by rw [M3.out.kl]; exact hv
            obtain ⟨gk1, hgk1, q1⟩ := hMv.out.k.cell (j := v) (v := .string (ks.getD v ByteArray.empty)) (by simp [strs, hkv])
            obtain ⟨key, hkey⟩ : ∃ key, ks.getD v ByteArray.empty = key := ⟨_, rfl⟩
            rw [hkey] at q1
            have hlk := Mr.out.look (k := .string key) u28 Try.underlying9 (z39' wr) (isS key) true
            simp only [if_true] at hlk
            have s5 := hMv.out.c.cell hv
            have scb := sc_bound HDS.out hv
            obtain ⟨sc, hsc⟩ : ∃ sc, scAt g D n n v = sc := ⟨_, rfl⟩
            rw [hsc] at s5 scb
            obtain ⟨scb1, scb2⟩ := scb
            by_cases hA : 0 < scAt g D n n v
            · obtain ⟨a, cc, hfm, hSl, hab⟩ := fds_yes HDS.out N8.out hv hA
              have hOK := cyV_ok HDS.out hv hA
              have hpos : 0 < sc := by rw [← hsc]; exact hA
              rw [show kyV ks v = .string key by unfold kyV; rw [hkey]] at hfm
              rw [hfm] at hlk
              simp only [Option.getD_some, Option.isSome_some] at hlk
              have HFS := hid (show Sl wr 9 1 a _ cc _ from hSl.fr hFv.out (fun b hb => HBNE.out b (by have := hab b hb; have := HLT.out; omega)))
              have HAB := hid (show ∀ b, blk a = some b → b ∉ [bm, bx, bd, bsc, bse] from fun b hb q => by have h1 := hab b hb; have h2 := HLT.out.1 b q; have h3 := HLT.out.2.1; omega)
              generalize cyV g D n v = cy at *
              have HOK := hid hOK
              have gsc : decide (0 < sc) = true := by simpa using hpos
              have HCV := hid (show onC g D n (v + 1) = cv + 1 by rw [HOC.out, hcv, if_pos hA])
              have hlen := hOK.len
              clear hOK hSl hab hfm
              rw [hcv]
              obtain ⟨LL, hLL⟩ : ∃ L, cy.length = L := ⟨_, rfl⟩
              obtain ⟨KK, hKK⟩ : ∃ K, (cy.take ln).length = K := ⟨_, rfl⟩
              rw [hLL, hKK] at hlk
              have HKM := hid (show KK = min ln LL by rw [← hKK, ← hLL, List.length_take])
              have hsL : sc ≤ LL := by have := HOK.out.sc; rw [hsc, hLL] at this; exact this
              have HHD := hid (show 0 < KK → (names ks (cy.take ln))[0]? = some (.string key) from fun q => by
                have h1 := HOK.out.ok.hd
                rw [← hKK] at q
                have h2 : (cy.take ln)[0]? = some v := by
                  have hp := HOK.out.ok.pos
                  have hln : 0 < ln := by simp at q; omega
                  rw [List.getElem?_take_of_lt hln]
                  rw [List.getD_eq_getElem?_getD, List.getElem?_eq_getElem hp] at h1
                  rw [List.getElem?_eq_getElem hp]
                  exact congrArg some h1
                unfold names
                rw [List.getElem?_map, h2, ← hkey]
                rfl)
              have FS1 := hid (show Sl wr 9 1 a KK cc (names ks (cy.take ln)) by rw [← hKK]; exact HFS.out)
              rw [hLL] at hlen
              clear hLL hKK hcv
              obtain ⟨p15, hp15⟩ : ∃ p, p = wr.heap.size := ⟨_, rfl⟩
              go_upto_region 15 with fail
              rw [← hp15]
              have R15 := hid (show Rec (wr.alloc (Obj.cells #[.int .i64 (LL : Int), .slice a KK cc] 39)) p15 39 #[.int .i64 (LL : Int), .slice a KK cc] from Rec.newAt _ 39 p15 _ hp15.symm)
              have M15 := hid (hMv.out.fr (M := Nothing) ((Fr.refl _ wr).alloc (Obj.cells #[.int .i64 (LL : Int), .slice a KK cc] 39)) (fun _ _ q => q) (fun _ _ q => q))
              have F15 := hid (show Fr Nothing wr (wr.alloc (Obj.cells #[.int .i64 (LL : Int), .slice a KK cc] 39)) from (Fr.refl _ wr).alloc _)
              have G15 := hid (show Fr (fun k => k = bm ∨ k = bse) w8 (wr.alloc (Obj.cells #[.int .i64 (LL : Int), .slice a KK cc] 39)) from hFv.out.alloc _)
              have P15 := hid (show bm < p15 ∧ bse < p15 by rw [hp15]; exact ⟨hMv.out.st.lt, Arr.lt hMv.out.e⟩)
              have s6 := F15.out.cell s5 (fun q => q)
              clear s5 c0 c1 c5 q1 hlk hp15
              generalize wr.alloc (Obj.cells #[.int .i64 (LL : Int), .slice a KK cc] 39) = w15 at *
              have c0 := M15.out.st.cell 0
              have c5 := M15.out.st.cell 5
              simp only [List.size_toArray, List.length_cons, List.length_nil, Nat.zero_add, Nat.reduceAdd, Nat.reduceLT, Nat.zero_lt_succ, getElem?_pos, List.getElem_toArray, List.getElem_cons_succ, List.getElem_cons_zero] at c0 c5
              have r0 := R15.out.cell 0
              have r1 := R15.out.cell 1
              simp at r0 r1
              have e1 : decide ((LL : Int) < sc) = false := by simp; omega
              have e2 : decide ((n : Int) < (LL : Int)) = false := by simp; omega
              have H21 := hid (fun w' => zzNewLead_any ln LL w' HLN.out (by omega))
              rw [← HKM.out] at H21
              have FS2 := hid (FS1.out.fr F15.out (fun _ _ q => q))
              go_upto_region 19 with fail
              go_quiet (fail)
              clear e1 e2
              have M17 := hid (M15.out.drewN nq)
              have G17 := hid (G15.out.drewN nq)
              have FS3 := hid (FS2.out.drewN nq)
              have F17 := hid (F15.out.drewN nq)
              have u0 : (w15.drewN nq).cell? ⟨p15, 0, none⟩ = some (.int .i64 (LL : Int)) := r0
              have u1 : (w15.drewN nq).cell? ⟨p15, 1, none⟩ = some (.slice a KK cc) := r1
              clear r0 r1 c0 c5 s6
              generalize w15.drewN nq = w17 at *
              go_upto_region 22 with (go_at_call 21; with_reducible refine (H21.out _).mono ?_; rintro e w16 ⟨brm, rfl, hF16⟩)
              have M16 := hid (M17.out.fr hF16 (fun _ _ q => q) (fun _ _ q => q))
              have F16 := hid (show Fr (fun k => k = bm ∨ k = bse) w8 w16 from G17.out.trans hF16 (fun _ _ q => q.elim))
              have FS4 := hid (FS3.out.fr hF16 (fun _ _ q => q))
              have t0 := hF16.cell u0 (fun q => q)
              have t1 := hF16.cell u1 (fun q => q)
              have e4 : decide ((ln : Int) < (KK : Int)) = false := by have := HKM.out; simp; omega
              have e5 : decide ((LL : Int) < (KK : Int)) = false := by have := HKM.out; simp; omega
              clear hF16 u0 u1 H21 M17 G17 FS3 F17
              have e6 : ((KK : Int) != (KK : Int)) = false := by simp
              have n1 : ¬ ln < KK := by have := HKM.out; omega
              have n2 : ¬ LL < KK := by have := HKM.out; omega
              have n3 : KK ≤ ln := by omega
              have n4 : KK ≤ LL := by omega
              have hqq : KK = ln ∨ (KK = LL ∧ KK < ln) := by have := HKM.out; omega
              rcases hqq with hq | ⟨hq, hq2⟩
              · subst hq
                by_cases hz : KK = 0
                · subst hz
                  go_wp2_with fail
                  rw [← hgk1]
                  go_roundg (gk - 1)
                  case measure => omega
                  case rel => exact ⟨v + 1, t, se, by omega, by go_num, by rw [HCV.out]; go_num, by omega, M16, hse, F16⟩
                · have hz' : 0 < KK := by omega
                  obtain ⟨ga, hga, x0⟩ := FS4.out.cell (HHD.out hz')
                  subst hga
                  clear hz
                  go_wp2_with fail
                  rw [← hgk1]
                  go_roundg (gk - 1)
                  case measure => omega
                  case rel => exact ⟨v + 1, t, se, by omega, by go_num, by rw [HCV.out]; go_num, by omega, M16, hse, F16⟩
              · subst hq
                have e3 : ((KK : Int) != (ln : Int)) = true := by simp; omega
                have hz' : 0 < KK := by omega
                obtain ⟨ga, hga, x0⟩ := FS4.out.cell (HHD.out hz')
                subst hga
                go_wp2_with fail
                rw [← hgk1]
                go_roundg (gk - 1)
                case measure => omega
                case rel => exact ⟨v + 1, t, se, by omega, by go_num, by rw [HCV.out]; go_num, by omega, M16, hse, F16⟩
            · have hno : fm (.string key) = none := by
                have := fds_no HDS.out N8.out M3.out.kn M3.out.kl hv hA
                rw [show kyV ks v = .string key by unfold kyV; rw [hkey]] at this
                exact this
              rw [hno] at hlk
              simp only [Option.getD_none, Option.isSome_none] at hlk
              have hs0 : sc = 0 := by rw [hsc] at hA; omega
              have HCV := hid (show onC g D n (v + 1) = cv by rw [HOC.out, hcv, if_neg hA, Nat.add_zero])
              rw [hcv]
              subst hs0
              clear hcv hno hA hkey
              obtain ⟨p15, hp15⟩ : ∃ p, p = wr.heap.size := ⟨_, rfl⟩
              go_upto_region 15 with fail
              rw [← hp15]
              have M15 := hid (hMv.out.fr (M := Nothing) ((Fr.refl _ wr).alloc (Obj.cells #[.int .i64 0, .slice none 0 0] 39)) (fun _ _ q => q) (fun _ _ q => q))
              have F15 := hid (show Fr Nothing wr (wr.alloc (Obj.cells #[.int .i64 0, .slice none 0 0] 39)) from (Fr.refl _ wr).alloc _)
              have G15 := hid (show Fr (fun k => k = bm ∨ k = bse) w8 (wr.alloc (Obj.cells #[.int .i64 0, .slice none 0 0] 39)) from hFv.out.alloc _)
              have s6 := F15.out.cell s5 (fun q => q)
              clear s5 c0 c1 c5 q1 hlk hp15
              generalize wr.alloc (Obj.cells #[.int .i64 0, .slice none 0 0] 39) = w15 at *
              have c0 := M15.out.st.cell 0
              have c5 := M15.out.st.cell 5
              simp only [List.size_toArray, List.length_cons, List.length_nil, Nat.zero_add, Nat.reduceAdd, Nat.reduceLT, Nat.zero_lt_succ, getElem?_pos, List.getElem_toArray, List.getElem_cons_succ, List.getElem_cons_zero] at c0 c5
              go_wp2_with fail
              rw [← hgk1]
              go_roundg (gk - 1)
              case measure => omega
              case rel => exact ⟨v + 1, t, se, by omega, by go_num, by rw [HCV.out], by omega, M15, hse, G15⟩
          · have hvn : v = n := by omega
            have hcn : cn = cv := by rw [← hcv, hvn]; exact HCN.out
            rw [hcv]
            have hlen := Mr.out.len28'
            have gcn : ((cn : Int) == (cv : Int)) = true := by simp [hcn]
            clear hcn hcv hvn
            go_wp2_with fail
            go_ret
            exact ⟨rfl, Fr9.out⟩
end Go.Proofs.Qxb6615025a
