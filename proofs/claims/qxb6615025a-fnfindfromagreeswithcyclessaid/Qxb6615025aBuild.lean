-- zzBuild (10).
import Derived.Test.Qxb6615025aBld1
namespace Go.Proofs.Qxb6615025a
open Go.RowKit Go.MapKept

set_option maxRecDepth 100000 in
set_option maxHeartbeats 16000000 in
set_option linter.unusedSimpArgs false in
theorem zzBuild_any (ai ae : Option Addr) (ci ce : Nat) (ids : List ByteArray) (ra : Nat → Option Addr) (rc : Nat → Nat) (rl : List (List ByteArray)) (w : World) (hi : Str w ai ids) (he : Edg w ae ra rc rl) (hil : ids.length ≤ 1024) (hsz : ∀ s ∈ ids, s.size ≤ 1048576) (ht : ∀ s : Nat, (rl.getD s []).length ≤ 1048576) :
    Calls Try.prog 10 #[.slice ai ids.length ci, .slice ae rl.length ce] w fun e w' => ∃ (bm bx bd bsc bse n : Nat) (ks : List ByteArray) (src : List Nat) (ak : Option Addr) (ck : Nat) (as' : Option Addr) (cs : Nat) (v3 : Value) (D : Nat → Int) (g : Nat → List Nat), e = .returned (.pointer (some ⟨bm, 0, none⟩)) ∧
      MS w' bm bx bd bsc bse n ks src ak ck as' cs v3 D (scAt g D n n) (fun _ => 0) 0 ∧ KS ids ids.length ks src ∧ g = nx ks (fun i => rl.getD (src.getD i 0) []) ∧ (∀ p q, p < n → q < n → D (p * n + q) = (bfs g n p).dp q) ∧ Fr Nothing w w' ∧
      (∀ b ∈ [bm, bx, bd, bsc, bse], w.heap.size ≤ b) ∧ (∀ b, blk ak = some b ∨ blk as' = some b → w.heap.size ≤ b) := by
  have HI := hid hi
  have HE := hid he
  have HSZ := hid hsz
  have HT := hid ht
  clear hi he hsz ht
  have hmm : ∀ w : World, (Instr.makeMap 35 none).run Try.prog w = .ok (.map (some w.heap.size)) (w.alloc (.map #[] 0)) := fun w => rfl
  obtain ⟨bx, hbx⟩ : ∃ bx, bx = w.heap.size := ⟨_, rfl⟩
  obtain ⟨bm, hbm⟩ : ∃ bm, bm = w.heap.size + 1 := ⟨_, rfl⟩
  obtain ⟨H, hH⟩ : ∃ H, H = w.heap.size + 2 := ⟨_, rfl⟩
  have HH := hid (show bx = w.heap.size ∧ bm = w.heap.size + 1 ∧ H = w.heap.size + 2 from ⟨hbx, hbm, hH⟩)
  go_enter Try.func10, Try.ntmps10
  go_wp2
  have Z0 := hid (show Z H bm bx ((w.alloc (Obj.map #[] 0)).alloc (Obj.cells #[Value.int IntKind.i64 0, Value.slice none 0 0, Value.slice none 0 0, Value.slice none 0 0, Value.slice none 0 0, Value.slice none 0 0, Value.slice none 0 0, Value.int IntKind.i64 0, Value.map (some bx)] 37)) [] [] none 0 none 0 by
    refine ⟨Rec.newAt _ 37 bm _ (by rw [World.size_alloc, hbm]), Sl.nil _ _ _, Sl.nil _ _ _, ?_, fun g hg => by simp [blk] at hg, fun g hg => by simp [blk] at hg, fun g hg => by simp [blk] at hg, by omega⟩
    rw [hbx]
    exact (MapAt.made .string w).of_block (Below.heap_alloc _ _ _ (by rw [World.size_alloc]; omega)))
  have F0 := hid (show Fr Nothing w ((w.alloc (Obj.map #[] 0)).alloc (Obj.cells #[Value.int IntKind.i64 0, Value.slice none 0 0, Value.slice none 0 0, Value.slice none 0 0, Value.slice none 0 0, Value.slice none 0 0, Value.slice none 0 0, Value.int IntKind.i64 0, Value.map (some bx)] 37)) from ((Fr.refl _ w).alloc _).alloc _)
  have G0 := hid (show H ≤ ((w.alloc (Obj.map #[] 0)).alloc (Obj.cells #[Value.int IntKind.i64 0, Value.slice none 0 0, Value.slice none 0 0, Value.slice none 0 0, Value.slice none 0 0, Value.slice none 0 0, Value.slice none 0 0, Value.int IntKind.i64 0, Value.map (some bx)] 37)).heap.size by rw [World.size_alloc, World.size_alloc]; omega)
  rw [← hbm, ← hbx]
  clear hbx hbm hH
  generalize (w.alloc (Obj.map #[] 0)).alloc (Obj.cells #[Value.int IntKind.i64 0, Value.slice none 0 0, Value.slice none 0 0, Value.slice none 0 0, Value.slice none 0 0, Value.slice none 0 0, Value.slice none 0 0, Value.int IntKind.i64 0, Value.map (some bx)] 37) = w0 at *
  go_loopg [6] ids.length (fun g s6 wr => ∃ (i : Nat) (ks : List ByteArray) (src : List Nat) (ak as' : Option Addr) (ck cs : Nat), g + i = ids.length ∧ s6 = .int .i64 i ∧ Hid (KS ids i ks src) ∧ Hid (Z H bm bx wr ks src ak ck as' cs) ∧ Hid (Fr Nothing w wr) ∧ H ≤ wr.heap.size)
  case atStart => exact ⟨0, [], [], none, none, 0, 0, by omega, rfl, hid (KS.nil _), Z0, F0, G0.out⟩
  case round =>
    obtain ⟨i, ks, src, ak, as', ck, cs, hg, rfl, hK, hZ, hF, hHs⟩ := hrel
    by_cases hi : i < ids.length
    · have hx : ids[i]? = some ids[i] := List.getElem?_eq_getElem hi
      have HX := hid hx
      clear hx
      generalize ids[i] = s at *
      obtain ⟨b0, off0, hb0, c0⟩ := HI.out i s HX.out
      have HC0 := hid c0
      clear c0
      have HAI := hid hb0
      subst hb0
      obtain ⟨w1, hw1⟩ : ∃ w1, w1 = wr := ⟨_, rfl⟩
      have HW1 := hid hw1
      clear hw1
      go_wp2_with fail
      go_loopg [7, 8] (ids.length - (i + 1)) (fun g2 s7 s8 wr2 => ∃ (j m : Nat), g2 + j = ids.length ∧ i < j ∧ s8 = .int .i64 j ∧ s7 = .bool true ∧ wr2 = w1.drewN m ∧ Hid (∀ j', i < j' → j' < j → ids[j']? ≠ some s))
      case atStart => exact ⟨i + 1, 0, by omega, by omega, by go_num, rfl, HW1.out.symm, hid (fun j' h1 h2 => by omega)⟩
      case round =>
        obtain ⟨j, m, hg2, hij, rfl, rfl, rfl, hno⟩ := hrel
        have HWF := hid (show Fr Nothing w w1 by rw [HW1.out]; exact hF.out)
        by_cases hj : j < ids.length
        · have c0 := HWF.out.cell HC0.out (fun q => q)
          obtain ⟨b2, off2, hb2, c2⟩ := HI.out j ids[j] (List.getElem?_eq_getElem hj)
          simp only [Option.some.injEq, Addr.mk.injEq, and_true] at hb2
          obtain ⟨rfl, rfl⟩ := hb2
          have c3 := HWF.out.cell c2 (fun q => q)
          clear c2
          have HJ := hid (show ids[j]? = some ids[j] from List.getElem?_eq_getElem hj)
          generalize ids[j] = t at *
          by_cases hts : t = s
          · subst hts
            go_upto_region 9 with fail
            go_quiet (fail)
            go_wp2_with fail
            go_roundg (ids.length - (i + 1))
            case measure => omega
            case rel => exact ⟨i + 1, ks, src, ak, as', ck, cs, by omega, by go_num, hid hK.out.skip, hid (by rw [HW1.out]; exact hZ.out.drewN _), hid (HWF.out.drewN _), by rw [HW1.out]; exact hHs⟩
          · have hne : (t.toList == s.toList) = false := str_ne hts
            go_upto_region 9 with fail
            go_quiet (fail)
            go_wp2_with fail
            go_roundg (gk - 1)
            case measure => omega
            case rel =>
              refine ⟨j + 1, m + nq, by omega, by omega, by go_num, rfl, rfl, hid fun j' h1 h2 => ?_⟩
              by_cases e : j' = j
              · subst e; rw [HJ.out]; simpa using hts
              · exact hno.out j' h1 (by omega)
        · have hlast : ∀ j', i < j' → ids[j']? ≠ some s := fun j' h1 h2 => by
            have h3 := (List.getElem?_eq_some_iff.1 h2).1
            exact hno.out j' h1 (by omega) h2
          have HL := hid hlast
          have Z1 := hid (show Z H bm bx w1 ks src ak ck as' cs by rw [HW1.out]; exact hZ.out)
          have hH1 : H ≤ w1.heap.size := by rw [HW1.out]; exact hHs
          have k1 := Z1.out.st.cell 1
          have k2 := HWF.out.cell HC0.out (fun q => q)
          simp at k1
          have hbl : bm < H := Z1.out.hb.1
          have hkl : ks.length ≤ 1024 := by have := hK.out.small; omega
          have hsl : src.length ≤ 1024 := by rw [hK.out.len]; exact hkl
          have hak : blk ak ≠ some bm := fun q => by have := Z1.out.fk _ q; omega
          have has : blk as' ≠ some bm := fun q => by have := Z1.out.fs _ q; omega
          have HF1 := hid (show Fr Nothing w w1 from HWF.out)
          have hbw : b0 < w.heap.size := World.block_lt_of_cell? _ _ HC0.out
          have hwH : w.heap.size ≤ H := by have := HH.out; omega
          clear hno hlast hZ HW1 hF hHs
          go_upto_region 12 with fail
          generalize hA : Act.mk _ _ = a0
          have hs : a0.tmps.size = 443 := by rw [← hA]; rfl
          have e0 : a0.eval (.tmp 0) = .slice (some ⟨b0, off0, none⟩) ids.length ci := by rw [← hA]; rfl
          have e5 : a0.eval (.tmp 5) = .pointer (some ⟨bm, 0, none⟩) := by rw [← hA]; rfl
          have e6 : a0.eval (.tmp 6) = .int .i64 i := by rw [← hA]; rfl
          refine wp_region_tailn (fun w' => w'.cell? ⟨bm, 1, none⟩ = some (.slice ak ks.length ck) ∧ w'.cell? ⟨b0, off0 + i, none⟩ = some (.string s)) 13 14 rfl (by kernel_rfl) ?_
          have S0 : (fun w' : World => w'.cell? ⟨bm, 1, none⟩ = some (.slice ak ks.length ck) ∧ w'.cell? ⟨b0, off0 + i, none⟩ = some (.string s)) (w1.drewN m).drew := ⟨k1, k2⟩
          refine wpAnyT_taked 0 (some 58) rfl rfl (by kernel_rfl) (fun _ _ _ h => h) S0 (y_move _ rfl rfl) ?_
          refine wpAnyT_taked 1 (some 59) rfl rfl (by kernel_rfl) (fun _ _ _ h => h) S0 (y_move _ rfl rfl) ?_
          refine wpAnyT_taked 2 (some 60) rfl rfl (by kernel_rfl) (fun _ _ _ h => h) S0 (y_nil _ rfl rfl ⟨bm, 0, none⟩ (by simp [ev_other, ev_same, sz_put, hs, e0, e5, e6])) ?_
          refine wpAnyT_taked 3 (some 61) rfl rfl (by kernel_rfl) (fun _ _ _ h => h) S0 (y_field 37 _ 1 rfl rfl ⟨bm, 0, none⟩ ⟨bm, 1, none⟩ (by simp [ev_other, ev_same, sz_put, hs, e0, e5, e6]) (fun w => by kernel_rfl)) ?_
          refine wpAnyT_taked 4 (some 62) rfl rfl (by kernel_rfl) (fun _ _ _ h => h) S0 (y_load 22 _ rfl rfl bm 1 (by simp [ev_other, ev_same, sz_put, hs, e0, e5, e6]) _ ld22 (fun w hw => hw.1)) ?_
          refine wpAnyT_taked 5 (some 63) rfl rfl (by kernel_rfl) (fun _ _ _ h => h) S0 (y_move _ rfl rfl) ?_
          refine wpAnyT_taked 6 (some 64) rfl rfl (by kernel_rfl) (fun _ _ _ h => h) S0 (y_move _ rfl rfl) ?_
          refine wpAnyT_taked 7 (some 65) rfl rfl (by kernel_rfl) (fun _ _ _ h => h) S0 (y_idx22 _ _ rfl rfl b0 off0 ids.length ci i (by simp [ev_other, ev_same, sz_put, hs, e0, e5, e6]) (by simp [ev_other, ev_same, sz_put, hs, e0, e5, e6]) hi) ?_
          refine wpAnyT_taked 8 (some 66) rfl rfl (by kernel_rfl) (fun _ _ _ h => h) S0 (y_load 9 _ rfl rfl b0 (off0 + i) (by simp [ev_other, ev_same, sz_put, hs, e0, e5, e6]) _ ld9 (fun w hw => hw.2)) ?_
          refine wpAnyT_one (i := 9) rfl (by kernel_rfl) rfl (wp_bslice22 _ rfl s (by simp [ev_other, ev_same, sz_put, hs, e0, e5, e6]) (d := some 67) rfl ⟨fun _ => ⟨?_, ?_⟩, ?_⟩)
          · exact (World.cell?_alloc_lt _ _ _ (by show bm < w1.heap.size; omega)).trans k1
          · exact (World.cell?_alloc_lt _ _ _ (by show b0 < w1.heap.size; omega)).trans k2
          refine T_app 10 (some 68) rfl rfl (by kernel_rfl) rfl (.tmp 62) (.tmp 67) rfl el22 ak ks.length ck (strs ks) (by simp [ev_other, ev_same, sz_put, hs, e0, e5, e6]) (Sl.alloc Z1.out.k _) w1.heap.size 9 #[.string s] (by simp [ev_other, ev_same, sz_put, hs, e0, e5, e6]) (Rec.new (w1.drewN m).drew 9 _) rfl ?_ (by omega) (w1.heap.size + 1) (World.size_alloc _ _) ?_
          · intro u hu; simp at hu; subst hu; rfl
          intro g c' w2 hS1 hg1 hat1 hlt1
          have f2 : Fr (fun q => blk ak = some q) w1 w2 := (((Fr.refl _ w1).drewN (m + 1)).alloc _).grown hg1 (fun q hq _ => hq)
          have s1 := f2.cell k1 hak
          have s2 := f2.cell k2 (fun q => by have := Z1.out.fk _ q; omega)
          have z1 := (Z1.out.st.fr f2 hak).frozen 1
          have S1 : (fun w' : World => w'.cell? ⟨bm, 1, none⟩ = some (.slice ak ks.length ck) ∧ w'.cell? ⟨b0, off0 + i, none⟩ = some (.string s)) w2 := ⟨s1, s2⟩
          refine ⟨fun _ => S1, ?_⟩
          refine T_val 11 (some 69) rfl rfl (by kernel_rfl) rfl _ w2 (r_nil (.tmp 58) rfl ⟨bm, 0, none⟩ (by simp [ev_other, ev_same, sz_put, hs, e0, e5, e6])) (fun _ => S1) ?_
          refine T_val 12 (some 70) rfl rfl (by kernel_rfl) rfl _ w2 (r_field 37 (.tmp 69) 1 rfl ⟨bm, 0, none⟩ ⟨bm, 1, none⟩ (by simp [ev_other, ev_same, sz_put, hs, e0, e5, e6]) (fun w => by kernel_rfl)) (fun _ => S1) ?_
          refine T_store 13 rfl rfl (by kernel_rfl) rfl 22 (.tmp 70) (.tmp 68) rfl (.pointer (some ⟨bm, 1, none⟩)) (.slice (some ⟨g, 0, none⟩) (ks.length + 1) c') (by simp [ev_other, ev_same, sz_put, hs, e0, e5, e6]) (by simp [ev_other, ev_same, sz_put, hs, e0, e5, e6]) _ (st22 w2 bm 1 _ _ _ _ s1 z1) (fun q => Bool.noConfusion ((show true = _ by kernel_rfl).trans q)) ?_
          refine wpAnyT_done (by kernel_rfl) ?_ _
          have Z2 := hid (Z1.out.keysApp (s := s) (g := g) (c1 := c') (by simpa using hS1) f2 (by
            rcases hat1 with q | q
            · exact .inl q
            · exact .inr (by omega)) hH1)
          have F2 := hid (show Fr Nothing w (w2.setCell ⟨bm, 1, none⟩ (.slice (some ⟨g, 0, none⟩) (ks.length + 1) c')) from (HF1.out.trans f2 (fun q hq r => by have := Z1.out.fk _ r; omega)).setCell (p := ⟨bm, 1, none⟩) (fun q => by have := HH.out; simp at q; omega) _)
          have hH2 : H ≤ (w2.setCell ⟨bm, 1, none⟩ (.slice (some ⟨g, 0, none⟩) (ks.length + 1) c')).heap.size := by
            have := f2.size
            simp
            omega
          subst hA
          clear S1 S0 s1 s2 z1 k1 k2 hS1 hg1 f2 hat1 hlt1 hs e0 e5 e6 hak HF1 Z1 hH1
          generalize w2.setCell ⟨bm, 1, none⟩ (.slice (some ⟨g, 0, none⟩) (ks.length + 1) c') = w3 at *
          have c2 := Z2.out.st.cell 2
          simp at c2
          have far := hid (fun (w4 : World) (q2 : (w3.alloc (Obj.cells #[Value.int IntKind.i64 (i : Int)] 3)).grownBy w4 (blk as')) => show Fr (fun q => blk as' = some q) w3 w4 from ((Fr.refl _ w3).alloc _).grown q2 (fun q hq _ => hq))
          go_upto_region 14 with (refine wpList_app _ _ rfl rfl el33 as' src.length cs (ints src) rfl (Z2.out.s.alloc _) w3.heap.size 3 #[.int .i64 i] rfl (Rec.new w3 3 _) rfl (by intro u hu; simp at hu; subst hu; rfl) (by omega) (w3.heap.size + 1) (World.size_alloc _ _) ?_; intro b4 c4 w4 q1 q2 q3 q4; have f4 := hid (far.out w4 q2); have x4 := (f4.out.cell c2 has); have y4 := (Z2.out.st.fr f4.out has).frozen 2)
          have Z3 := hid (Z2.out.srcApp (i := i) (g := b4) (c1 := c4) (by simpa using q1) f4.out (by
            rcases q3 with q | q
            · exact .inl q
            · exact .inr (by omega)) hH2)
          have F3 := hid (show Fr Nothing w (w4.setCell ⟨bm, 2, none⟩ (.slice (some ⟨b4, 0, none⟩) (src.length + 1) c4)) from (F2.out.trans f4.out (fun q hq r => by have := Z2.out.fs _ r; omega)).setCell (p := ⟨bm, 2, none⟩) (fun q => by have := HH.out; simp at q; omega) _)
          have hH3 : H ≤ (w4.setCell ⟨bm, 2, none⟩ (.slice (some ⟨b4, 0, none⟩) (src.length + 1) c4)).heap.size := by
            have := f4.out.size
            simp
            omega
          clear far f4 x4 y4 q1 q2 q3 q4 c2 Z2 F2 hH2 has
          generalize w4.setCell ⟨bm, 2, none⟩ (.slice (some ⟨b4, 0, none⟩) (src.length + 1) c4) = w5 at *
          have hfr := hK.out.fresh HX.out
          have HFR := hid hfr
          clear hfr
          have k1 := Z3.out.st.cell 1
          simp at k1
          go_wp2_with fail
          go_loopg [9, 10, 11] (ks.length + 1) (fun g3 s9 s10 s11 wr3 => ∃ (A B : List ByteArray) (SA SB : List Nat), g3 = A.length + 1 ∧ s9 = .int .i64 (A.length : Int) ∧ Hid (A ++ B = ks) ∧ Hid (SA ++ SB = src) ∧ Hid (SA.length = A.length) ∧ Hid (∀ y ∈ B, ltB s y) ∧
            Hid (Z H bm bx wr3 (A ++ s :: B) (SA ++ i :: SB) (some ⟨g, 0, none⟩) c' (some ⟨b4, 0, none⟩) c4) ∧ Hid (Fr Nothing w wr3) ∧ H ≤ wr3.heap.size)
          case atStart => exact ⟨ks, [], src, [], rfl, by go_num, hid (by simp), hid (by simp), hid hK.out.len, hid (by simp), Z3, F3, hH3⟩
          case round =>
            obtain ⟨A, B, SA, SB, rfl, rfl, hAB, hSS, hSA, hB, hZ3, hF3, hHw⟩ := hrel
            have hln : (A ++ s :: B).length = ks.length + 1 := by rw [← hAB.out]; simp; omega
            have hsn : (SA ++ i :: SB).length = ks.length + 1 := by
              have h1 := congrArg List.length hSS.out
              have h2 := hK.out.len
              have h3 := congrArg List.length hAB.out
              simp only [List.length_append, List.length_cons] at h1 h3 ⊢
              omega
            have c1 : wr.cell? ⟨bm, 1, none⟩ = some (.slice (some ⟨g, 0, none⟩) (ks.length + 1) c') := by
              have := hZ3.out.st.cell 1
              rw [hln] at this
              exact this
            have c2 : wr.cell? ⟨bm, 2, none⟩ = some (.slice (some ⟨b4, 0, none⟩) (ks.length + 1) c4) := by
              have := hZ3.out.st.cell 2
              rw [hsn] at this
              exact this
            have hAl : A.length ≤ ks.length := by
              have h3 := congrArg List.length hAB.out
              simp only [List.length_append] at h3
              omega
            have HAL := hid hAl
            rcases List.eq_nil_or_concat A with rfl | ⟨A', y, rfl⟩
            · have hSA0 : SA = [] := List.eq_nil_of_length_eq_zero hSA.out
              subst hSA0
              have K1 := hid (show KS ids (i + 1) ([] ++ s :: B) ([] ++ i :: SB) from KS.put (A := []) (SA := []) (by rw [hAB.out, hSS.out]; exact hK.out) HX.out HL.out hB.out (by simp))
              simp only [List.length_nil]
              clear c1 c2
              go_upto_region 15 with fail
              go_quiet (fail)
              go_wp2_with fail
              go_roundg (ids.length - (i + 1))
              case measure => omega
              case rel => exact ⟨i + 1, _, _, _, _, _, _, by omega, by go_num, K1, hid (hZ3.out.drewN nq), hid (hF3.out.drewN nq), hHw⟩
            · obtain ⟨k, hk⟩ : ∃ k, A'.length = k := ⟨_, rfl⟩
              obtain ⟨k1, hk1⟩ : ∃ k1, k1 = k + 1 := ⟨_, rfl⟩
              obtain ⟨n1, hn1⟩ : ∃ n1, n1 = ks.length + 1 := ⟨_, rfl⟩
              have hAc : (A'.concat y).length = k1 := by simp [hk, hk1]
              rw [hAc]
              rw [← hn1] at c1 c2
              obtain ⟨SA', z, rfl⟩ : ∃ SA' z, SA = SA' ++ [z] := by
                rcases List.eq_nil_or_concat SA with rfl | ⟨S', z, rfl⟩
                · have := hSA.out; simp at this
                · exact ⟨S', z, by simp⟩
              have hkk : k1 < n1 ∧ k < n1 ∧ n1 ≤ 1025 := by have := HAL.out; rw [hAc] at this; omega
              obtain ⟨hkk1, hkk2, hkk3⟩ := hkk
              have hSk : SA'.length = k := by have := hSA.out; rw [hAc, hk1] at this; simpa using this
              have HKL := hid (show A'.length = k ∧ SA'.length = k ∧ k1 = k + 1 ∧ n1 = ks.length + 1 from ⟨hk, hSk, hk1, hn1⟩)
              have hcc : A'.concat y ++ s :: B = A' ++ y :: s :: B := by simp
              have Z4 := hid (show Z H bm bx wr (A' ++ y :: s :: B) (SA' ++ z :: i :: SB) (some ⟨g, 0, none⟩) c' (some ⟨b4, 0, none⟩) c4 by have := hZ3.out; rw [hcc] at this; simpa using this)
              have HAB := hid (show A' ++ y :: B = ks by have := hAB.out; simpa using this)
              have HSS := hid (show SA' ++ z :: SB = src by have := hSS.out; simpa using this)
              clear hAB hSS hZ3 hSk hAc hcc hSA HAL hAl hln hsn hn1
              have d0 : wr.cell? ⟨g, k, none⟩ = some (.string y) := by
                obtain ⟨b, hb, hc⟩ := Z4.out.k.cell (j := k) (v := .string y) (by simp [strs, ← HKL.out.1])
                simp only [Option.some.injEq, Addr.mk.injEq, and_true] at hb
                obtain ⟨rfl, _⟩ := hb
                exact hc
              have d1 : wr.cell? ⟨g, k1, none⟩ = some (.string s) := by
                obtain ⟨b, hb, hc⟩ := Z4.out.k.cell (j := k1) (v := .string s) (by rw [hk1, ← HKL.out.1]; simp [strs, List.getElem?_append_right])
                simp only [Option.some.injEq, Addr.mk.injEq, and_true] at hb
                obtain ⟨rfl, _⟩ := hb
                exact hc
              have hk10 : 0 < k1 := by omega
              have hkm : IntKind.i64.wrap ((k1 : Int) - 1) = (k : Int) := by rw [IntKind.wrap_i64]; omega
              clear hk hk1
              have hys : y.size ≤ 1048576 := by
                obtain ⟨j2, _, h2, _⟩ := hK.out.ky y (by rw [← HAB.out]; simp)
                exact HSZ.out y (List.mem_of_getElem? h2)
              have hss : s.size ≤ 1048576 := HSZ.out s (List.mem_of_getElem? HX.out)
              have H22 := hid (fun w => zzLess_any s y w hss hys)
              by_cases hlt : ltB s y
              · have hdl : decide (s.data.toList < y.data.toList) = true := by simpa using hlt
                have H22' := hid (show ∀ w, Calls Try.prog 22 #[.string s, .string y] w fun e w' => e = .returned (.bool true) ∧ ∃ k, w' = w.drewN k from fun w => (H22.out w).mono (fun e w' h => ⟨by rw [← hdl]; exact h.1, h.2⟩))
                clear H22 hdl
                go_upto_region 15 with fail
                go_quiet ((refine (H22'.out _).mono ?_; rintro e w'' ⟨he, kk, rfl⟩; first | exact ⟨he, _, rfl⟩ | exact ⟨he, _, by rw [World.drewN_drewN]⟩ | exact ⟨he, _, by rw [World.drewN_drewN, Nat.add_assoc]⟩))
                go_upto_region 17 with fail
                have fz := Z4.out.k.frozen k
                go_region
                have Z5 := hid ((Z4.out.drewN (nq + 1)).setKey k s)
                have F5 := hid ((hF3.out.drewN (nq + 1)).setCell (p := ⟨g, k, none⟩) (fun q => by have := Z4.out.fk g rfl; simp at q; omega) (.string s))
                have hw5 : H ≤ ((wr.drewN (nq + 1)).setCell ⟨g, k, none⟩ (.string s)).heap.size := by simp; exact hHw
                clear c1 c2 d0 d1 fz H22'
                generalize (wr.drewN (nq + 1)).setCell ⟨g, k, none⟩ (.string s) = w6 at *
                have Z6 := hid (show Z H bm bx w6 (A' ++ s :: s :: B) (SA' ++ z :: i :: SB) (some ⟨g, 0, none⟩) c' (some ⟨b4, 0, none⟩) c4 by
                  have := Z5.out
                  rw [show (A' ++ y :: s :: B).set k s = A' ++ s :: s :: B by rw [← HKL.out.1]; simp] at this
                  exact this)
                have c1 : w6.cell? ⟨bm, 1, none⟩ = some (.slice (some ⟨g, 0, none⟩) n1 c') := by
                  have := Z6.out.st.cell 1
                  rw [show (A' ++ s :: s :: B).length = n1 by have h1 := congrArg List.length HAB.out; rw [HKL.out.2.2.2]; simp at h1 ⊢; omega] at this
                  exact this
                have c2 : w6.cell? ⟨bm, 2, none⟩ = some (.slice (some ⟨b4, 0, none⟩) n1 c4) := by
                  have := Z6.out.st.cell 2
                  rw [show (SA' ++ z :: i :: SB).length = n1 by have h1 := congrArg List.length HSS.out; have h2 := hK.out.len; rw [HKL.out.2.2.2]; simp at h1 ⊢; omega] at this
                  exact this
                have d1 : w6.cell? ⟨g, k1, none⟩ = some (.string s) := by
                  obtain ⟨b, hb, hc⟩ := Z6.out.k.cell (j := k1) (v := .string s) (by first | (rw [HKL.out.2.2.1, ← HKL.out.1]; simp [strs, List.getElem?_append_right]) | simp [strs, ← HKL.out.1])
                  simp only [Option.some.injEq, Addr.mk.injEq, and_true] at hb
                  obtain ⟨rfl, _⟩ := hb
                  exact hc
                have fz := Z6.out.k.frozen k1
                go_upto_region 19 with fail
                have Z7 := hid (show Z H bm bx (w6.setCell ⟨g, k1, none⟩ (.string y)) (A' ++ s :: y :: B) (SA' ++ z :: i :: SB) (some ⟨g, 0, none⟩) c' (some ⟨b4, 0, none⟩) c4 by
                  have := Z6.out.setKey k1 y
                  rw [show (A' ++ s :: s :: B).set k1 y = A' ++ s :: y :: B by rw [HKL.out.2.2.1, ← HKL.out.1]; simp [List.set_append_right]] at this
                  exact this)
                have F7 := hid (F5.out.setCell (p := ⟨g, k1, none⟩) (fun q => by have := Z6.out.fk g rfl; simp at q; omega) (.string y))
                have hw7 : H ≤ (w6.setCell ⟨g, k1, none⟩ (.string y)).heap.size := by simp; exact hw5
                clear c1 c2 d1 fz Z5 Z6 F5 hw5
                generalize w6.setCell ⟨g, k1, none⟩ (.string y) = w7 at *
                have c1 : w7.cell? ⟨bm, 1, none⟩ = some (.slice (some ⟨g, 0, none⟩) n1 c') := by
                  have := Z7.out.st.cell 1
                  rw [show (A' ++ s :: y :: B).length = n1 by have h1 := congrArg List.length HAB.out; rw [HKL.out.2.2.2]; simp at h1 ⊢; omega] at this
                  exact this
                have c2 : w7.cell? ⟨bm, 2, none⟩ = some (.slice (some ⟨b4, 0, none⟩) n1 c4) := by
                  have := Z7.out.st.cell 2
                  rw [show (SA' ++ z :: i :: SB).length = n1 by have h1 := congrArg List.length HSS.out; have h2 := hK.out.len; rw [HKL.out.2.2.2]; simp at h1 ⊢; omega] at this
                  exact this
                have d0 : w7.cell? ⟨b4, k, none⟩ = some (.int .i64 ((z : Nat) : Int)) := by
                  obtain ⟨b, hb, hc⟩ := Z7.out.s.cell (j := k) (v := .int .i64 ((z : Nat) : Int)) (by first | (rw [HKL.out.2.2.1, ← HKL.out.2.1]; simp [ints, List.getElem?_append_right]) | simp [ints, ← HKL.out.2.1])
                  simp only [Option.some.injEq, Addr.mk.injEq, and_true] at hb
                  obtain ⟨rfl, _⟩ := hb
                  exact hc
                have d1 : w7.cell? ⟨b4, k1, none⟩ = some (.int .i64 ((i : Nat) : Int)) := by
                  obtain ⟨b, hb, hc⟩ := Z7.out.s.cell (j := k1) (v := .int .i64 ((i : Nat) : Int)) (by first | (rw [HKL.out.2.2.1, ← HKL.out.2.1]; simp [ints, List.getElem?_append_right]) | simp [ints, ← HKL.out.2.1])
                  simp only [Option.some.injEq, Addr.mk.injEq, and_true] at hb
                  obtain ⟨rfl, _⟩ := hb
                  exact hc
                have fz := Z7.out.s.frozen k
                go_upto_region 20 with fail
                go_region
                have Z8 := hid (show Z H bm bx ((w7.setCell ⟨b4, k, none⟩ (.int .i64 (i : Int))).drew) (A' ++ s :: y :: B) (SA' ++ i :: i :: SB) (some ⟨g, 0, none⟩) c' (some ⟨b4, 0, none⟩) c4 by
                  have := (Z7.out.setSrc k i).drew
                  rw [show (SA' ++ z :: i :: SB).set k i = SA' ++ i :: i :: SB by rw [← HKL.out.2.1]; simp] at this
                  exact this)
                have F8 := hid ((F7.out.setCell (p := ⟨b4, k, none⟩) (fun q => by have := Z7.out.fs b4 rfl; simp at q; omega) (.int .i64 (i : Int))).drew)
                have hw8 : H ≤ ((w7.setCell ⟨b4, k, none⟩ (.int .i64 (i : Int))).drew).heap.size := by simp; exact hw7
                clear c1 c2 d0 d1 fz Z7 F7 hw7
                generalize (w7.setCell ⟨b4, k, none⟩ (.int .i64 (i : Int))).drew = w8 at *
                have c2 : w8.cell? ⟨bm, 2, none⟩ = some (.slice (some ⟨b4, 0, none⟩) n1 c4) := by
                  have := Z8.out.st.cell 2
                  rw [show (SA' ++ i :: i :: SB).length = n1 by have h1 := congrArg List.length HSS.out; have h2 := hK.out.len; rw [HKL.out.2.2.2]; simp at h1 ⊢; omega] at this
                  exact this
                have d1 : w8.cell? ⟨b4, k1, none⟩ = some (.int .i64 ((i : Nat) : Int)) := by
                  obtain ⟨b, hb, hc⟩ := Z8.out.s.cell (j := k1) (v := .int .i64 ((i : Nat) : Int)) (by first | (rw [HKL.out.2.2.1, ← HKL.out.2.1]; simp [ints, List.getElem?_append_right]) | simp [ints, ← HKL.out.2.1])
                  simp only [Option.some.injEq, Addr.mk.injEq, and_true] at hb
                  obtain ⟨rfl, _⟩ := hb
                  exact hc
                have fz := Z8.out.s.frozen k1
                go_wp2_with fail
                go_roundg (k + 1)
                case measure => have := HKL.out; simp; omega
                case rel =>
                  refine ⟨A', y :: B, SA', z :: SB, by rw [HKL.out.1], by rw [HKL.out.1], hid HAB.out, hid HSS.out, hid (by rw [HKL.out.1, HKL.out.2.1]), hid (fun x hx => ?_), hid ?_, hid ?_, by simp; exact hw8⟩
                  · simp only [List.mem_cons] at hx
                    rcases hx with rfl | hx
                    · exact hlt
                    · exact hB.out x hx
                  · have := Z8.out.setSrc k1 z
                    rw [show (SA' ++ i :: i :: SB).set k1 z = SA' ++ i :: z :: SB by rw [HKL.out.2.2.1, ← HKL.out.2.1]; simp [List.set_append_right]] at this
                    exact this
                  · exact F8.out.setCell (p := ⟨b4, k1, none⟩) (fun q => by have := Z8.out.fs b4 rfl; simp at q; omega) _
              · have hdl : decide (s.data.toList < y.data.toList) = false := by simpa using hlt
                have H22' := hid (show ∀ w, Calls Try.prog 22 #[.string s, .string y] w fun e w' => e = .returned (.bool false) ∧ ∃ k, w' = w.drewN k from fun w => (H22.out w).mono (fun e w' h => ⟨by rw [← hdl]; exact h.1, h.2⟩))
                have K1 := hid (show KS ids (i + 1) ((A' ++ [y]) ++ s :: B) ((SA' ++ [z]) ++ i :: SB) from KS.put (by rw [show (A' ++ [y]) ++ B = ks by rw [← HAB.out]; simp, show (SA' ++ [z]) ++ SB = src by rw [← HSS.out]; simp]; exact hK.out) HX.out HL.out hB.out (by
                  have hso := hK.out.so
                  rw [← HAB.out, List.pairwise_append] at hso
                  have hys2 : ltB y s := ltB_total hlt (fun e => HFR.out (by rw [e, ← HAB.out]; simp))
                  intro x hx
                  simp only [List.mem_append, List.mem_singleton] at hx
                  rcases hx with hx | rfl
                  · exact ltB_trans (hso.2.2 x hx y (by simp)) hys2
                  · exact hys2))
                clear H22 hdl
                go_upto_region 15 with fail
                go_quiet ((refine (H22'.out _).mono ?_; rintro e w'' ⟨he, kk, rfl⟩; first | exact ⟨he, _, rfl⟩ | exact ⟨he, _, by rw [World.drewN_drewN]⟩ | exact ⟨he, _, by rw [World.drewN_drewN, Nat.add_assoc]⟩))
                go_wp2_with fail
                go_roundg (ids.length - (i + 1))
                case measure => omega
                case rel => exact ⟨i + 1, _, _, _, _, _, _, by omega, by go_num, K1, hid (by have := Z4.out.drewN nq; simpa using this), hid (hF3.out.drewN nq), hHw⟩
    · obtain ⟨n, hn⟩ : ∃ n, n = ks.length := ⟨_, rfl⟩
      have hii : i = ids.length := by omega
      have K1 := hid (show KS ids ids.length ks src by rw [← hii]; exact hK.out)
      have hn1 : n ≤ 1024 := by have := hK.out.small; omega
      have HN := hid hn
      have HSL := hid (show src.length = n by rw [hn]; exact hK.out.len)
      have c1 : wr.cell? ⟨bm, 1, none⟩ = some (.slice ak n ck) := by rw [hn]; exact hZ.out.st.cell 1
      have c0 := hZ.out.st.cell 0
      have z0 := hZ.out.st.frozen 0
      simp at c0
      clear hn hii hK
      go_upto_region 25 with fail
      have Y0 := hid (show Y H bm bx n (wr.setCell ⟨bm, 0, none⟩ (.int .i64 (n : Int))) ks src ak ck as' cs (.slice none 0 0) (.slice none 0 0) (.slice none 0 0) (.slice none 0 0) 0 (fix (ks.take 0)) by
        have hz := hZ.out
        have hb := hz.hb
        refine ⟨?_, ?_, ?_, ?_, hz.fk, hz.fs, hz.ap, hb⟩
        · have := hz.st.set 0 (.int .i64 (n : Int))
          rw [show ks.length = n from HN.out.symm, HSL.out] at this
          simpa using this
        · have := hz.k.setOther (p := ⟨bm, 0, none⟩) (fun q => by have := hz.fk _ q; simp at this; omega) (.int .i64 (n : Int))
          rw [show ks.length = n from HN.out.symm] at this
          exact this
        · have := hz.s.setOther (p := ⟨bm, 0, none⟩) (fun q => by have := hz.fs _ q; simp at this; omega) (.int .i64 (n : Int))
          rw [HSL.out] at this
          exact this
        · exact (hz.m.of_block (Below.heap_setCell _ _ _ bx (by simp; omega))).congr fun k hk => by cases k <;> simp [fix, idx])
      have F0' := hid (hF.out.setCell (p := ⟨bm, 0, none⟩) (fun q => by have := HH.out; simp at q; omega) (.int .i64 (n : Int)))
      have hH0 : H ≤ (wr.setCell ⟨bm, 0, none⟩ (.int .i64 (n : Int))).heap.size := by simp; exact hHs
      clear hZ hF hHs c1 c0 z0 Z0 F0 G0
      generalize wr.setCell ⟨bm, 0, none⟩ (.int .i64 (n : Int)) = w1 at *
      go_wp2_with fail
      go_loopg [13] n (fun gg s13 wr => ∃ (k : Nat), gg + k = n ∧ s13 = .int .i64 (k : Int) ∧ Hid (Y H bm bx n wr ks src ak ck as' cs (.slice none 0 0) (.slice none 0 0) (.slice none 0 0) (.slice none 0 0) k (fix (ks.take k))) ∧ Hid (Fr Nothing w wr) ∧ H ≤ wr.heap.size)
      case atStart => exact ⟨0, by omega, rfl, Y0, F0', hH0⟩
      case round =>
        obtain ⟨k, hgk, rfl, hY, hF, hHs⟩ := hrel
        by_cases hk : k < n
        · have hkl : k < ks.length := by rw [← HN.out]; exact hk
          have c1 := hY.out.st.cell 1
          have c8 := hY.out.st.cell 8
          simp at c1 c8
          obtain ⟨g, hg, q1⟩ := hY.out.k.cell (j := k) (v := .string ks[k]) (by simp [strs, hkl])
          have hnot : ks[k] ∉ ks.take k := fun q => by
            obtain ⟨i, hi, e⟩ := List.getElem_of_mem q
            simp only [List.length_take] at hi
            rw [List.getElem_take] at e
            have := (List.getElem?_inj hkl (sorted_nodup K1.out.so)).1 (by rw [List.getElem?_eq_getElem hkl, List.getElem?_eq_getElem (by omega), e] : ks[k]? = ks[i]?)
            omega
          obtain ⟨w5, hrun, hm5, o1, o2, o3, o4, o5⟩ := (hY.out.drew.m).update und35 Try.underlying9 (isS ks[k]) (.int .i64 (k : Int))
          have hnone : (fix (ks.take k) (.string ks[k])).isSome = false := by
            cases hi : idx (ks.take k) ks[k] with
            | none => simp [fix, hi]
            | some j => exact absurd (List.mem_of_getElem? (idx_some hi)) hnot
          rw [hnone] at hm5
          have hf5 : Fr (fun b => b = bx) wr w5 := ⟨o1, o2, o3, by rw [o4]; exact Nat.le_refl _, fun b _ hb => o5 b hb⟩
          have Y5 := hid (show Y H bm bx n w5 ks src ak ck as' cs (.slice none 0 0) (.slice none 0 0) (.slice none 0 0) (.slice none 0 0) (k + 1) (fix (ks.take (k + 1))) from hY.out.setMap hf5 (hm5.congr fun v hv => by
            have := fix_snoc hnot v hv
            rw [List.length_take, Nat.min_eq_left (by omega)] at this
            rw [List.take_succ_eq_append_getElem hkl]
            exact this))
          have F5 := hid (show Fr Nothing w w5 from hF.out.trans hf5 (fun i hi q => by have := HH.out; omega))
          have hH5 : H ≤ w5.heap.size := by have := hf5.size; omega
          clear hm5 o1 o2 o3 o4 o5 hnot hnone hf5
          generalize ks[k] = s at *
          go_upto_region 28 with fail
          go_region
          go_wp2_with fail
          go_roundg (gk - 1)
          case measure => omega
          case rel => exact ⟨k + 1, by omega, by go_num, Y5, F5, hH5⟩
        · have hkn : n = k := by omega
          have Y6 := hid (show Y H bm bx n wr ks src ak ck as' cs (.slice none 0 0) (.slice none 0 0) (.slice none 0 0) (.slice none 0 0) n (fix ks) by
            have := hY.out
            rw [← hkn, List.take_of_length_le (by rw [← HN.out]; exact Nat.le_refl _)] at this
            exact this)
          clear hY Y0 F0' hkn
          have hmk := fun w => run_make1 el34 rfl w n (by omega)
          have Y7 := hid (Y6.out.fr (M := Nothing) ((Fr.refl _ wr).alloc (Obj.cells (Array.ofFn fun _ : Fin n => Value.slice none 0 0) 33)) (fun q => q) (fun q => q) (fun _ _ q => q) (fun _ _ q => q))
          have c3 := Y7.out.st.cell 3
          have z3 := Y7.out.st.frozen 3
          simp only [List.size_toArray, List.length_cons, List.length_nil, Nat.zero_add, Nat.reduceAdd, Nat.reduceLT, getElem?_pos, List.getElem_toArray, List.getElem_cons_succ, List.getElem_cons_zero] at c3
          obtain ⟨ba, hba⟩ : ∃ ba, ba = wr.heap.size := ⟨_, rfl⟩
          have R0 := hid (show Rw ba (wr.alloc (Obj.cells (Array.ofFn fun _ : Fin n => Value.slice none 0 0) 33)) ba n (fun _ => none) (fun _ => 0) (fun _ => []) from
            ⟨⟨Rec.newAt _ 33 ba _ hba.symm, fun i hi => Sl.nil _ _ _⟩, fun i hi b hb => by simp [blk] at hb, fun i j hi hj hij b hb => by simp [blk] at hb, Nat.le_refl _⟩)
          have F7 := hid (hF.out.alloc (Obj.cells (Array.ofFn fun _ : Fin n => Value.slice none 0 0) 33))
          have hs7 : (wr.alloc (Obj.cells (Array.ofFn fun _ : Fin n => Value.slice none 0 0) 33)).heap.size = ba + 1 := by rw [World.size_alloc, hba]
          have hHb : H ≤ ba := by omega
          have HAK := hid (show ∀ g, blk ak = some g ∨ blk as' = some g → g < ba from fun g hg => by
            rw [hba]
            rcases hg with q | q
            · exact Y6.out.k.lt q
            · exact Y6.out.s.lt q)
          go_upto_region 30 with fail
          rw [← hba]
          clear hba hF hHs Y6
          generalize wr.alloc (Obj.cells (Array.ofFn fun _ : Fin n => Value.slice none 0 0) 33) = w7 at *
          have Y8 := hid (Y7.out.cellSet 3 (.slice (some ⟨ba, 0, none⟩) n n) (u3 := .slice (some ⟨ba, 0, none⟩) n n) (u4 := .slice none 0 0) (u5 := .slice none 0 0) (u6 := .slice none 0 0) rfl)
          have F8 := hid (F7.out.setCell (p := ⟨bm, 3, none⟩) (fun q => by have := HH.out; simp at q; omega) (.slice (some ⟨ba, 0, none⟩) n n))
          have R8 := hid (R0.out.fr ((Fr.refl (fun k => k = bm) w7).setCell (p := ⟨bm, 3, none⟩) (fun _ => rfl) (.slice (some ⟨ba, 0, none⟩) n n)) (fun q => by have := Y7.out.hb; omega) (fun i hi b hb => by simp [blk] at hb))
          have hs8 : (w7.setCell ⟨bm, 3, none⟩ (.slice (some ⟨ba, 0, none⟩) n n)).heap.size = ba + 1 := by simp; exact hs7
          clear Y7 F7 R0 c3 z3 hs7
          obtain ⟨w8, hw8⟩ : ∃ w8, w8 = w7.setCell ⟨bm, 3, none⟩ (.slice (some ⟨ba, 0, none⟩) n n) := ⟨_, rfl⟩
          rw [← hw8] at Y8 F8 R8 hs8 ⊢
          clear hw8
          have HKS := hid (sorted_nodup K1.out.so)
          have HSR := hid (show ∀ k, k < n → (ints src)[k]? = some (.int .i64 ((src.getD k 0 : Nat) : Int)) from fun k hk => by
            have : k < src.length := by rw [HSL.out]; exact hk
            simp [ints, this])
          go_wp2_with fail
          go_loopg [14] n (fun gg s14 wr => ∃ (k : Nat) (ao : Nat → Option Addr) (c : Nat → Nat), gg + k = n ∧ s14 = .int .i64 (k : Int) ∧ Hid (Rw ba wr ba n ao c (fun i => if i < k then nx ks (fun i => rl.getD (src.getD i 0) []) i else [])) ∧ Hid (Fr (fun q => q = ba) w8 wr))
          case atStart => exact ⟨0, _, _, by omega, rfl, hid (R8.out.congr fun i hi => by simp), hid (Fr.refl _ w8)⟩
          case round =>
            obtain ⟨k, ao, c, hgk2, rfl, hR, hF9⟩ := hrel
            by_cases hk2 : k < n
            · have Y9 := hid (Y8.out.fr hF9.out (fun q => by have := Y8.out.hb; omega) (fun q => by have := Y8.out.hb; omega) (fun g hg q => by have := HAK.out g (.inl hg); omega) (fun g hg q => by have := HAK.out g (.inr hg); omega))
              have c2 := Y9.out.st.cell 2
              simp at c2
              obtain ⟨gs, hgs, q1⟩ := Y9.out.s.cell (HSR.out k hk2)
              have F9 := hid (F8.out.trans hF9.out (fun i hi q => by have := HH.out; omega))
              have hE := HE.out.fr F9.out
              have HS := hid (HE.out.row (src.getD k 0))
              obtain ⟨s, hsk⟩ : ∃ s, src.getD k 0 = s := ⟨_, rfl⟩
              obtain ⟨row, hrow⟩ : ∃ row, rl.getD s [] = row := ⟨_, rfl⟩
              obtain ⟨ak2, hak2⟩ : ∃ x, eA rl ra s = x := ⟨_, rfl⟩
              obtain ⟨ck2, hck2⟩ : ∃ x, eC rl rc s = x := ⟨_, rfl⟩
              have H23 := hid (show Calls Try.prog 23 #[.slice ae rl.length ce, .int .i64 s] wr fun e w' => e = .returned (.slice ak2 row.length ck2) ∧ w' = wr from by rw [← hrow, ← hak2, ← hck2]; exact zzEdgesOf_any ae ce ra rc rl s wr hE)
              rw [hsk] at q1 HS
              rw [hrow, hak2] at HS
              have hgu : row.length ≤ 1048576 := by rw [← hrow]; exact HT.out s
              have HROW := hid (show nx ks (fun i => rl.getD (src.getD i 0) []) k = row.filterMap (idx ks) by show (rl.getD (src.getD k 0) []).filterMap (idx ks) = _; rw [hsk, hrow])
              clear hE hrow hak2 hck2 hsk
              go_wp2_with (go_at_call 23; with_reducible refine H23.out.mono ?_; rintro e w' ⟨rfl, rfl⟩)
              go_loopg [16] row.length (fun g2 s16 wr2 => ∃ (j : Nat) (ao3 : Nat → Option Addr) (c3 : Nat → Nat), g2 + j = row.length ∧ s16 = .int .i64 (j : Int) ∧ Hid (Rw ba wr2 ba n ao3 c3 (upd (fun i => if i < k then nx ks (fun i => rl.getD (src.getD i 0) []) i else []) k ((row.take j).filterMap (idx ks)))) ∧ Hid (Fr (fun q => q = ba) w8 wr2))
              case atStart => exact ⟨0, ao, c, by omega, rfl, hid (hR.out.congr fun i hi => by
                by_cases e : i = k
                · subst e; simp
                · rw [upd_other _ _ e]), hF9⟩
              case round =>
                obtain ⟨j, ao3, c3, hj, rfl, hR3, hF10⟩ := hrel
                by_cases hj2 : j < row.length
                · have F11 := hid (F8.out.trans hF10.out (fun i hi q => by have := HH.out; omega))
                  obtain ⟨b2, off2, hb2, q2⟩ := (HS.out.fr F11.out) j row[j] (List.getElem?_eq_getElem hj2)
                  have Y11 := hid (Y8.out.fr hF10.out (fun q => by have := Y8.out.hb; omega) (fun q => by have := Y8.out.hb; omega) (fun g hg q => by have := HAK.out g (.inl hg); omega) (fun g hg q => by have := HAK.out g (.inr hg); omega))
                  have c8 := Y11.out.st.cell 8
                  simp at c8
                  have hTk : (row.take (j + 1)).filterMap (idx ks) = (row.take j).filterMap (idx ks) ++ (idx ks row[j]).toList := by
                    rw [List.take_succ_eq_append_getElem hj2, List.filterMap_append]
                    cases h : idx ks row[j] <;> simp [h]
                  have hlen : ((row.take j).filterMap (idx ks)).length ≤ 1048576 := by
                    have := List.length_filterMap_le (idx ks) (row.take j)
                    rw [List.length_take] at this
                    omega
                  have HTK := hid hTk
                  clear hTk
                  have hl2 : ∀ q, (Instr.lookup 35 (.map (some bx)) (.string row[j]) true).run Try.prog (wr.drewN q) = _ := fun q => ((Y11.out.drewN q).m).look (k := .string row[j]) und35 Try.underlying9 (z3 (wr.drewN q)) (isS row[j]) true
                  simp only [if_true, fix] at hl2
                  generalize row[j] = s2 at *
                  generalize hL : (row.take j).filterMap (idx ks) = L at *
                  cases hix : idx ks s2 with
                  | none =>
                    rw [hix] at HTK
                    simp only [hix, Option.map_none, Option.getD_none, Option.isSome_none] at hl2
                    go_upto_region 37 with fail
                    go_quiet (fail)
                    go_wp2_with fail
                    go_roundg (gk - 1)
                    case measure => omega
                    case rel => exact ⟨j + 1, ao3, c3, by omega, by go_num, hid (by rw [HTK.out]; simp only [Option.toList_none, List.append_nil]; exact hR3.out.drewN nq), hid (hF10.out.drewN nq)⟩
                  | some t =>
                    rw [hix] at HTK
                    simp only [hix, Option.map_some, Option.getD_some, Option.isSome_some] at hl2
                    have c3' := Y11.out.st.cell 3
                    simp at c3'
                    have q4 := Arr.cell hR3.out.adj.arr hk2
                    have hrow := hid (hR3.out.adj.row k hk2)
                    rw [upd_same] at q4 hrow
                    have hbva : blk (ao3 k) ≠ some ba := fun q => (hR3.out.far k hk2 ba q).2 rfl
                    have hbvm : blk (ao3 k) ≠ some bm := fun q => by have := (hR3.out.far k hk2 bm q).1; have := Y8.out.hb; omega
                    obtain ⟨av, hav⟩ : ∃ av, ao3 k = av := ⟨_, rfl⟩
                    rw [hav] at q4 hrow hbva hbvm
                    have hbm0 : bm < ba := by have := Y8.out.hb; omega
                    clear hix
                    go_upto_region 37 with fail
                    go_quiet (fail)
                    go_upto_region 39 with fail
                    generalize hA : Act.mk _ _ = a0
                    have hs : a0.tmps.size = 443 := by rw [← hA]; rfl
                    have e5 : a0.eval (.tmp 5) = .pointer (some ⟨bm, 0, none⟩) := by rw [← hA]; rfl
                    have e14 : a0.eval (.tmp 14) = .int .i64 k := by rw [← hA]; rfl
                    have e17 : a0.eval (.tmp 17) = .int .i64 t := by rw [← hA]; rfl
                    refine wp_region_tailn (fun w' => w'.cell? ⟨bm, 3, none⟩ = some (.slice (some ⟨ba, 0, none⟩) n n) ∧ w'.cell? ⟨ba, k, none⟩ = some (.slice av L.length (c3 k))) 16 17 rfl (by kernel_rfl) ?_
                    have S0 : (fun w' : World => w'.cell? ⟨bm, 3, none⟩ = some (.slice (some ⟨ba, 0, none⟩) n n) ∧ w'.cell? ⟨ba, k, none⟩ = some (.slice av L.length (c3 k))) (wr.drewN nq).drew := ⟨c3', q4⟩
                    refine wpAnyT_taked 0 (some 231) rfl rfl (by kernel_rfl) (fun _ _ _ h => h) S0 (y_move _ rfl rfl) ?_
                    refine wpAnyT_taked 1 (some 232) rfl rfl (by kernel_rfl) (fun _ _ _ h => h) S0 (y_nil _ rfl rfl ⟨bm, 0, none⟩ (by simp [ev_other, ev_same, sz_put, hs, e5, e14, e17])) ?_
                    refine wpAnyT_taked 2 (some 233) rfl rfl (by kernel_rfl) (fun _ _ _ h => h) S0 (y_field 37 _ 3 rfl rfl ⟨bm, 0, none⟩ ⟨bm, 3, none⟩ (by simp [ev_other, ev_same, sz_put, hs, e5, e14, e17]) (fun w => by kernel_rfl)) ?_
                    refine wpAnyT_taked 3 (some 234) rfl rfl (by kernel_rfl) (fun _ _ _ h => h) S0 (y_load 34 _ rfl rfl bm 3 (by simp [ev_other, ev_same, sz_put, hs, e5, e14, e17]) _ ld34 (fun w hw => hw.1)) ?_
                    refine wpAnyT_taked 4 (some 235) rfl rfl (by kernel_rfl) (fun _ _ _ h => h) S0 (y_move _ rfl rfl) ?_
                    refine wpAnyT_taked 5 (some 236) rfl rfl (by kernel_rfl) (fun _ _ _ h => h) S0 (y_move _ rfl rfl) ?_
                    refine wpAnyT_taked 6 (some 237) rfl rfl (by kernel_rfl) (fun _ _ _ h => h) S0 (y_nil _ rfl rfl ⟨bm, 0, none⟩ (by simp [ev_other, ev_same, sz_put, hs, e5, e14, e17])) ?_
                    refine wpAnyT_taked 7 (some 238) rfl rfl (by kernel_rfl) (fun _ _ _ h => h) S0 (y_field 37 _ 3 rfl rfl ⟨bm, 0, none⟩ ⟨bm, 3, none⟩ (by simp [ev_other, ev_same, sz_put, hs, e5, e14, e17]) (fun w => by kernel_rfl)) ?_
                    refine wpAnyT_taked 8 (some 239) rfl rfl (by kernel_rfl) (fun _ _ _ h => h) S0 (y_load 34 _ rfl rfl bm 3 (by simp [ev_other, ev_same, sz_put, hs, e5, e14, e17]) _ ld34 (fun w hw => hw.1)) ?_
                    refine wpAnyT_taked 9 (some 240) rfl rfl (by kernel_rfl) (fun _ _ _ h => h) S0 (y_move _ rfl rfl) ?_
                    refine wpAnyT_taked 10 (some 241) rfl rfl (by kernel_rfl) (fun _ _ _ h => h) S0 (y_idx _ _ 34 rfl rfl ba n n k ⟨ba, k, none⟩ (by simp [ev_other, ev_same, sz_put, hs, e5, e14, e17]) (by simp [ev_other, ev_same, sz_put, hs, e5, e14, e17]) (fun w => idx34 w _ _ _ _ hk2)) ?_
                    refine wpAnyT_taked 11 (some 242) rfl rfl (by kernel_rfl) (fun _ _ _ h => h) S0 (y_load 33 _ rfl rfl ba k (by simp [ev_other, ev_same, sz_put, hs, e5, e14, e17]) _ load33 (fun w hw => hw.2)) ?_
                    refine wpAnyT_taked 12 (some 243) rfl rfl (by kernel_rfl) (fun _ _ _ h => h) S0 (y_move _ rfl rfl) ?_
                    have hba1 : ba < wr.heap.size := hR3.out.adj.arr.lt
                    refine wpAnyT_one (i := 13) rfl (by kernel_rfl) rfl (wp_bslice33 _ rfl t (by simp [ev_other, ev_same, sz_put, hs, e5, e14, e17]) (d := some 244) rfl ⟨fun _ => ⟨?_, ?_⟩, ?_⟩)
                    · exact (World.cell?_alloc_lt _ _ _ (by show bm < wr.heap.size; omega)).trans c3'
                    · exact (World.cell?_alloc_lt _ _ _ (by show ba < wr.heap.size; omega)).trans q4
                    refine T_app 14 (some 245) rfl rfl (by kernel_rfl) rfl (.tmp 242) (.tmp 244) rfl el33 av L.length (c3 k) (ints L) (by simp [ev_other, ev_same, sz_put, hs, e5, e14, e17]) (Sl.alloc hrow.out _) wr.heap.size 3 #[.int .i64 t] (by simp [ev_other, ev_same, sz_put, hs, e5, e14, e17]) (Rec.new (wr.drewN nq).drew 3 _) rfl ?_ (by omega) (wr.heap.size + 1) (World.size_alloc _ _) ?_
                    · intro u hu; simp at hu; subst hu; rfl
                    intro g c' w2 hS1 hg1 hat1 hlt1
                    have f2 : Fr (fun q => blk av = some q) wr w2 := (((Fr.refl _ wr).drewN (nq + 1)).alloc _).grown hg1 (fun q hq _ => hq)
                    have s1 := f2.cell c3' hbvm
                    have s2' := f2.cell q4 hbva
                    have z1 := Arr.frozen (Arr.fr hR3.out.adj.arr f2 hbva) k
                    have S1 : (fun w' : World => w'.cell? ⟨bm, 3, none⟩ = some (.slice (some ⟨ba, 0, none⟩) n n) ∧ w'.cell? ⟨ba, k, none⟩ = some (.slice av L.length (c3 k))) w2 := ⟨s1, s2'⟩
                    refine ⟨fun _ => S1, ?_⟩
                    refine T_val 15 (some 246) rfl rfl (by kernel_rfl) rfl _ w2 (r_idx34 (.tmp 234) (.tmp 235) rfl ba n n k (by simp [ev_other, ev_same, sz_put, hs, e5, e14, e17]) (by simp [ev_other, ev_same, sz_put, hs, e5, e14, e17]) hk2) (fun _ => S1) ?_
                    refine T_store 16 rfl rfl (by kernel_rfl) rfl 33 (.tmp 246) (.tmp 245) rfl (.pointer (some ⟨ba, k, none⟩)) (.slice (some ⟨g, 0, none⟩) (L.length + 1) c') (by simp [ev_other, ev_same, sz_put, hs, e5, e14, e17]) (by simp [ev_other, ev_same, sz_put, hs, e5, e14, e17]) _ (store33 w2 ba k _ _ _ _ s2' z1) (fun q => Bool.noConfusion ((show true = _ by kernel_rfl).trans q)) ?_
                    refine wpAnyT_done (by kernel_rfl) ?_ _
                    subst hA
                    have R4 := hid (show Rw ba (w2.setCell ⟨ba, k, none⟩ (.slice (some ⟨g, 0, none⟩) (L.length + 1) c')) ba n (upd ao3 k (some ⟨g, 0, none⟩)) (upd c3 k c') (upd (fun i => if i < k then nx ks (fun i => rl.getD (src.getD i 0) []) i else []) k ((row.take (j + 1)).filterMap (idx ks))) by
                      rw [HTK.out]
                      have := hR3.out.app hk2 (w1 := w2) (v := t) (g1 := g) (c1 := c') (by rw [upd_same]; simpa using hS1) (fun b hb hne => by rw [hav] at hne; exact f2.block b hb hne) (by
                        rw [hav]
                        rcases hat1 with q | q
                        · exact .inl q
                        · exact .inr (by omega))
                      rw [upd_same] at this
                      refine this.congr fun i hi => ?_
                      by_cases e : i = k
                      · subst e; simp
                      · rw [upd_other _ _ e, upd_other _ _ e, upd_other _ _ e])
                    have F12 := hid (show Fr (fun q => q = ba) w8 (w2.setCell ⟨ba, k, none⟩ (.slice (some ⟨g, 0, none⟩) (L.length + 1) c')) from (hF10.out.trans f2 (fun i hi q => by
                      have := (hR3.out.far k hk2 i (by rw [hav]; exact q)).1
                      omega)).setCell (p := ⟨ba, k, none⟩) (fun _ => rfl) _)
                    clear S1 S0 s1 s2' z1 q4 hS1 hg1 f2 hat1 hlt1 hs e5 e14 e17 hbva hbvm c3' hR3 hF10 c8 q2 Y11 F11 hrow
                    generalize w2.setCell ⟨ba, k, none⟩ (.slice (some ⟨g, 0, none⟩) (L.length + 1) c') = w3 at *
                    go_wp2_with fail
                    rw [← hb2]
                    go_roundg (gk - 1)
                    case measure => omega
                    case rel => exact ⟨j + 1, _, _, by omega, by go_num, R4, F12⟩
                · have hjl : row.length = j := by omega
                  have R4 := hid (show Rw ba wr ba n ao3 c3 (fun i => if i < k + 1 then nx ks (fun i => rl.getD (src.getD i 0) []) i else []) by
                    refine hR3.out.congr fun i hi => ?_
                    by_cases e : i = k
                    · subst e
                      rw [upd_same, if_pos (by omega), ← hjl, List.take_length]
                      exact HROW.out.symm
                    · rw [upd_other _ _ e]
                      by_cases h : i < k
                      · rw [if_pos h, if_pos (by omega)]
                      · rw [if_neg h, if_neg (by omega)])
                  clear hR3 hjl
                  go_wp2_with fail
                  go_roundg (n - (k + 1))
                  case measure => omega
                  case rel => exact ⟨k + 1, ao3, c3, by omega, by go_num, R4, hF10⟩
            · have R5 := hid (show Rw ba wr ba n ao c (nx ks (fun i => rl.getD (src.getD i 0) [])) from hR.out.congr fun i hi => by rw [if_pos (by omega)])
              clear hR
              have Y9 := hid (Y8.out.fr hF9.out (fun q => by have := Y8.out.hb; omega) (fun q => by have := Y8.out.hb; omega) (fun g hg q => by have := HAK.out g (.inl hg); omega) (fun g hg q => by have := HAK.out g (.inr hg); omega))
              have F9 := hid (F8.out.trans hF9.out (fun i hi q => by have := HH.out; omega))
              have hs9 : ba < wr.heap.size := R5.out.adj.arr.lt
              have hnn : n * n ≤ 1048576 := Nat.mul_le_mul hn1 hn1
              have hmd := fun w => run_make1 el33 rfl w (n * n) (by omega)
              have hmq := fun w => run_make0 el33 rfl w n (by omega)
              obtain ⟨g, hgd⟩ : ∃ g, g = nx ks (fun i => rl.getD (src.getD i 0) []) := ⟨_, rfl⟩
              rw [← hgd] at R5
              have HGD := hid hgd
              have HGL := hid (show ∀ i, i < n → (∀ x ∈ g i, x < n) ∧ (g i).length ≤ 1048576 from fun i hi => by
                rw [hgd]
                refine ⟨fun x hx => ?_, ?_⟩
                · obtain ⟨s, _, hs⟩ := List.mem_filterMap.1 hx
                  have := idx_lt hs
                  rw [← HN.out] at this
                  exact this
                · exact Nat.le_trans (List.length_filterMap_le _ _) (HT.out _))
              clear hgd hF9 R8 Y8 F8
              obtain ⟨bd, hbd⟩ : ∃ bd, bd = wr.heap.size := ⟨_, rfl⟩
              have Yd := hid (Y9.out.fr (M := Nothing) ((Fr.refl _ wr).alloc (Obj.cells (Array.ofFn fun _ : Fin (n * n) => Value.int IntKind.i64 0) 3)) (fun q => q) (fun q => q) (fun _ _ q => q) (fun _ _ q => q))
              have c4 := Yd.out.st.cell 4
              have z4 := Yd.out.st.frozen 4
              simp only [List.size_toArray, List.length_cons, List.length_nil, Nat.zero_add, Nat.reduceAdd, Nat.reduceLT, getElem?_pos, List.getElem_toArray, List.getElem_cons_succ, List.getElem_cons_zero] at c4
              rw [show ((n * n : Nat) : Int) = (n : Int) * (n : Int) by omega] at hmd
              go_upto_region 41 with fail
              have Ye := hid (Yd.out.cellSet 4 (.slice (some ⟨bd, 0, none⟩) (n * n) (n * n)) (u3 := .slice (some ⟨ba, 0, none⟩) n n) (u4 := .slice (some ⟨bd, 0, none⟩) (n * n) (n * n)) (u5 := .slice none 0 0) (u6 := .slice none 0 0) rfl)
              have hbm1 : bm < ba := by have := Yd.out.hb; omega
              have f1 : Fr (fun k => k = bm) wr ((wr.alloc (Obj.cells (Array.ofFn fun _ : Fin (n * n) => Value.int IntKind.i64 0) 3)).setCell ⟨bm, 4, none⟩ (.slice (some ⟨bd, 0, none⟩) (n * n) (n * n))) := ((Fr.refl (fun k => k = bm) wr).alloc _).setCell (p := ⟨bm, 4, none⟩) (fun _ => rfl) _
              have Re := hid (R5.out.fr f1 (fun q => by omega) (fun i hi b hb q => by have := (R5.out.far i hi b hb).1; omega))
              have Fe := hid (F9.out.trans f1 (fun i hi q => by have := HH.out; omega))
              have De := hid (show Ints ((wr.alloc (Obj.cells (Array.ofFn fun _ : Fin (n * n) => Value.int IntKind.i64 0) 3)).setCell ⟨bm, 4, none⟩ (.slice (some ⟨bd, 0, none⟩) (n * n) (n * n))) bd (n * n) (fun _ => 0) from Arr.setOther (Ints.newAt wr (n * n) bd hbd.symm) (by simp; omega) _)
              have hse : ((wr.alloc (Obj.cells (Array.ofFn fun _ : Fin (n * n) => Value.int IntKind.i64 0) 3)).setCell ⟨bm, 4, none⟩ (.slice (some ⟨bd, 0, none⟩) (n * n) (n * n))).heap.size = bd + 1 := by simp; omega
              have hbad : ba < bd := by omega
              have HAO := hid (show ∀ i, i < n → ∀ b, blk (ao i) = some b → ba ≤ b ∧ b < bd ∧ b ≠ ba from fun i hi b hb => by
                have h1 := R5.out.far i hi b hb
                have h2 := (R5.out.adj.row i hi).lt hb
                omega)
              rw [← hbd]
              clear f1 c4 z4 Yd R5 F9 Y9 hbd hs9
              generalize (wr.alloc (Obj.cells (Array.ofFn fun _ : Fin (n * n) => Value.int IntKind.i64 0) 3)).setCell ⟨bm, 4, none⟩ (.slice (some ⟨bd, 0, none⟩) (n * n) (n * n)) = we at *
              have Yq := hid (Ye.out.fr (M := Nothing) ((Fr.refl _ we).alloc (Obj.cells (Array.ofFn fun _ : Fin n => Value.int IntKind.i64 0) 3)) (fun q => q) (fun q => q) (fun _ _ q => q) (fun _ _ q => q))
              have Rq := hid (Re.out.fr (M := Nothing) ((Fr.refl _ we).alloc (Obj.cells (Array.ofFn fun _ : Fin n => Value.int IntKind.i64 0) 3)) (fun q => q) (fun _ _ _ _ q => q))
              have Fq := hid (Fe.out.alloc (Obj.cells (Array.ofFn fun _ : Fin n => Value.int IntKind.i64 0) 3))
              have Dq := hid (show Ints (we.alloc (Obj.cells (Array.ofFn fun _ : Fin n => Value.int IntKind.i64 0) 3)) bd (n * n) (fun _ => 0) from Arr.alloc De.out _)
              have Qq := hid (show Sl (we.alloc (Obj.cells (Array.ofFn fun _ : Fin n => Value.int IntKind.i64 0) 3)) 3 1 (some ⟨bd + 1, 0, none⟩) (([] : List Nat)).length n (ints []) from Sl.mk (Rec.newAt we 3 (bd + 1) _ hse) (Nat.zero_le _) (Nat.le_trans hn1 (by decide)) (by simp) (by simp [ints]))
              go_wp2_with fail
              have hsq : (we.alloc (Obj.cells (Array.ofFn fun _ : Fin n => Value.int IntKind.i64 0) 3)).heap.size = bd + 2 := by rw [World.size_alloc, hse]
              clear hse Ye Re Fe De
              obtain ⟨wq, hwq⟩ : ∃ wq, wq = we.alloc (Obj.cells (Array.ofFn fun _ : Fin n => Value.int IntKind.i64 0) 3) := ⟨_, rfl⟩
              rw [← hwq] at Yq Rq Fq Dq Qq hsq ⊢
              clear hwq
              have HAKd := hid (show ∀ g, blk ak = some g ∨ blk as' = some g → g < bd from fun g hg => by have := HAK.out g hg; omega)
              have HY := hid (show ∀ wr, Fr (fun q => q = bd ∨ q = bd + 1) wq wr → Y H bm bx n wr ks src ak ck as' cs (.slice (some ⟨ba, 0, none⟩) n n) (.slice (some ⟨bd, 0, none⟩) (n * n) (n * n)) (.slice none 0 0) (.slice none 0 0) n (fix ks) ∧ Adj wr ba n ao c g from fun wr hf =>
                ⟨Yq.out.fr hf (fun q => by have := Yq.out.hb; omega) (fun q => by have := Yq.out.hb; omega) (fun g hg q => by have := HAKd.out g (.inl hg); omega) (fun g hg q => by have := HAKd.out g (.inr hg); omega),
                 Rq.out.adj.fr hf (fun q => by omega) (fun i hi b hb q => by have := HAO.out i hi b hb; omega)⟩)
              clear Yq Rq
              go_loopg [19, 20] n (fun gg s19 s20 wr => ∃ (u bq cq : Nat) (ql : List Nat) (D : Nat → Int), gg + u = n ∧ s20 = .int .i64 (u : Int) ∧ s19 = .slice (some ⟨bq, 0, none⟩) ql.length cq ∧ Hid (Sl wr 3 1 (some ⟨bq, 0, none⟩) ql.length cq (ints ql)) ∧ bd < bq ∧ Hid (Ints wr bd (n * n) D) ∧
                Hid (∀ u', u' < u → ∀ v, v < n → D (u' * n + v) = (bfs g n u').dp v) ∧ Hid (Fr (fun q => q = bd ∨ q = bd + 1) wq wr))
              case atStart => exact ⟨0, bd + 1, n, [], fun _ => 0, by omega, rfl, rfl, Qq, by omega, Dq, hid (fun u' h => by omega), hid (Fr.refl _ wq)⟩
              case round => as_aux_lemma =>
                obtain ⟨u, bq, cq, ql, D, hgu, rfl, rfl, hQ, hbq, hD, hDu, hFq⟩ := hrel
                by_cases hu : u < n
                · obtain ⟨hYr, hAr⟩ := HY.out wr hFq.out
                  have HYr := hid hYr
                  clear hYr hAr
                  go_wp2_with fail
                  go_loopg [21] n (fun gg s21 wr => ∃ (v : Nat) (D2 : Nat → Int), gg + v = n ∧ s21 = .int .i64 (v : Int) ∧ Hid (Sl wr 3 1 (some ⟨bq, 0, none⟩) ql.length cq (ints ql)) ∧ Hid (Ints wr bd (n * n) D2) ∧ Hid (∀ v', v' < v → D2 (u * n + v') = -1) ∧
                    Hid (∀ u', u' < u → ∀ v, v < n → D2 (u' * n + v) = (bfs g n u').dp v) ∧ Hid (Fr (fun q => q = bd ∨ q = bd + 1) wq wr))
                  case atStart => exact ⟨0, D, by omega, rfl, hQ, hD, hid (fun v' h => by omega), hDu, hFq⟩
                  case round => as_aux_lemma =>
                    obtain ⟨v, D2, hgv, rfl, hQ2, hD2, hDv, hDu2, hFq2⟩ := hrel
                    by_cases hv : v < n
                    · have hYr := (HY.out wr hFq2.out).1
                      have c4 := hYr.st.cell 4
                      simp only [List.size_toArray, List.length_cons, List.length_nil, Nat.zero_add, Nat.reduceAdd, Nat.reduceLT, getElem?_pos, List.getElem_toArray, List.getElem_cons_succ, List.getElem_cons_zero] at c4
                      obtain ⟨sb1, sb2⟩ := sq_bound hn1 hu hv
                      have d1 := hD2.out.cell sb1
                      have z1 := hD2.out.frozen (u * n + v)
                      have m1 : u * n ≤ 1048576 := by omega
                      clear hYr
                      go_wp2_with fail
                      go_roundg (gk - 1)
                      case measure => omega
                      case rel =>
                        refine ⟨v + 1, upd D2 (u * n + v) (-1), by omega, by go_num, hid (hQ2.out.setOther (p := ⟨bd, u * n + v, none⟩) (by simp [blk]; omega) _), hid (Ints.set hD2.out _ _), hid (fun v' h => ?_), hid (fun u' hu' v' hv' => ?_), hid (hFq2.out.setCell (p := ⟨bd, u * n + v, none⟩) (fun _ => .inl rfl) _)⟩
                        · by_cases e : v' = v
                          · subst e; simp
                          · rw [upd_other _ _ (by omega)]
                            exact hDv.out v' (by omega)
                        · have := row_lt hu' hv'
                          rw [upd_other _ _ (by omega)]
                          exact hDu2.out u' hu' v' hv'
                    · have hvn : n = v := by omega
                      subst hvn
                      have hYr := (HY.out wr hFq2.out).1
                      have c4 := hYr.st.cell 4
                      simp only [List.size_toArray, List.length_cons, List.length_nil, Nat.zero_add, Nat.reduceAdd, Nat.reduceLT, getElem?_pos, List.getElem_toArray, List.getElem_cons_succ, List.getElem_cons_zero] at c4
                      obtain ⟨sb1, sb2⟩ := sq_bound hn1 hu hu
                      have d1 := hD2.out.cell sb1
                      have z1 := hD2.out.frozen (u * n + u)
                      have m1 : u * n ≤ 1048576 := by omega
                      clear hYr
                      go_upto_region 50 with fail
                      have Q3 := hid (hQ2.out.setOther (p := ⟨bd, u * n + u, none⟩) (by simp [blk]; omega) (.int .i64 0))
                      have D3 := hid (Ints.set hD2.out (u * n + u) 0)
                      have F3 := hid (hFq2.out.setCell (p := ⟨bd, u * n + u, none⟩) (fun _ => .inl rfl) (.int .i64 0))
                      have V3 := hid (show ∀ v, v < n → upd D2 (u * n + u) 0 (u * n + v) = (grow0 (fun _ => -2) (fun _ => -1) u).dp v from fun v hv => by
                        simp only [grow0]
                        by_cases e : v = u
                        · subst e; simp
                        · rw [upd_other _ _ (by omega), upd_other _ _ e]
                          exact hDv.out v hv)
                      have U3 := hid (show ∀ u', u' < u → ∀ v, v < n → upd D2 (u * n + u) 0 (u' * n + v) = (bfs g n u').dp v from fun u' hu' v hv => by
                        have := row_lt hu' hv
                        rw [upd_other _ _ (by omega)]
                        exact hDu2.out u' hu' v hv)
                      clear c4 d1 z1 hQ2 hD2 hFq2 hDv hDu2 hQ hD hDu hFq HYr
                      generalize wr.setCell ⟨bd, u * n + u, none⟩ (.int .i64 0) = w3 at *
                      generalize upd D2 (u * n + u) 0 = D3' at *
                      have P3 := hid (Q3.out.pre (m := 0) (Nat.zero_le _))
                      have far := hid (fun (w4 : World) (q2 : (w3.alloc (Obj.cells #[Value.int IntKind.i64 (u : Int)] 3)).grownBy w4 (blk (some ⟨bq, 0, none⟩))) => show Fr (fun q => q = bq) w3 w4 from ((Fr.refl _ w3).alloc _).grown q2 (fun q hq _ => by simpa [blk] using hq.symm))
                      go_upto_region 52 with (refine wpList_app _ _ rfl rfl el33 (some ⟨bq, 0, none⟩) 0 cq [] rfl (by simpa using P3.out.alloc _) w3.heap.size 3 #[.int .i64 u] rfl (Rec.new w3 3 _) rfl (by intro u hu; simp at hu; subst hu; rfl) (by omega) (w3.heap.size + 1) (World.size_alloc _ _) ?_; intro b4 c4 w4 q1 q2 q3 q4; have f4 := hid (far.out w4 q2))
                      have hb4 : bd < b4 := by
                        rcases q3 with q | q
                        · simp [blk] at q; omega
                        · have := F3.out.size; omega
                      have F4 := hid (show Fr (fun q => q = bd ∨ q = bd + 1) wq w4 from F3.out.trans f4.out (fun i hi q => by omega))
                      have D4 := hid (show Ints w4 bd (n * n) D3' from Arr.fr D3.out f4.out (by omega))
                      have Q4 := hid (show Sl w4 3 1 (some ⟨b4, 0, none⟩) (grow0 (fun _ => -2) (fun _ => -1) u).rc.length c4 (ints (grow0 (fun _ => -2) (fun _ => -1) u).rc) by simpa [grow0, ints] using q1)
                      clear far f4 q1 q2 q3 q4 P3 Q3 D3 F3
                      go_wp2_with fail
                      go_loopg [19, 22] (n + 1) (fun gg s19 s22 wr => ∃ (h br cr : Nat) (s : GS) (D : Nat → Int), gg + h = n + 1 ∧ s22 = .int .i64 (h : Int) ∧ s19 = .slice (some ⟨br, 0, none⟩) s.rc.length cr ∧ h ≤ s.rc.length ∧ bd < br ∧ Hid (Sl wr 3 1 (some ⟨br, 0, none⟩) s.rc.length cr (ints s.rc)) ∧ Hid (Ints wr bd (n * n) D) ∧
                        Hid (∀ v, v < n → D (u * n + v) = s.dp v) ∧ Hid (∀ u', u' < u → ∀ v, v < n → D (u' * n + v) = (bfs g n u').dp v) ∧ Hid (GI n s) ∧ Hid (GD n s) ∧ Hid (growL (fun _ => true) g gg h s = bfs g n u) ∧ Hid (Fr (fun q => q = bd ∨ q = bd + 1) wq wr))
                      case atStart => exact ⟨0, b4, c4, grow0 (fun _ => -2) (fun _ => -1) u, D3', by omega, rfl, rfl, Nat.zero_le _, hb4, Q4, D4, V3, U3, hid (GI.start _ _ hu), hid GD.start, hid rfl, F4⟩
                      case round => as_aux_lemma =>
                        obtain ⟨h, br, cr, s, D, hgh, rfl, rfl, hh, hbr, hQ, hD, hV, hU, hGI, hGD, hL, hF⟩ := hrel
                        have hlen := hGI.out.len
                        by_cases hh2 : h < s.rc.length
                        · obtain ⟨gg, rfl⟩ : ∃ q, gk = q + 1 := ⟨gk - 1, by omega⟩
                          have hx : s.rc[h] < n := hGI.out.lt _ (List.getElem_mem hh2)
                          have humem : s.rc[h] ∈ s.rc := List.getElem_mem hh2
                          have UMEM := hid humem
                          have hL2 := hL.out
                          rw [growL_step hh2] at hL2
                          have HL2 := hid hL2
                          have hxx : (ints s.rc)[h]? = some (.int .i64 (s.rc[h] : Int)) := by simp [ints, hh2]
                          generalize hX : s.rc[h] = x at *
                          have p1 : wr.cell? ⟨br, h, none⟩ = some (.int .i64 (x : Int)) := by
                            obtain ⟨b, hb, hc⟩ := hQ.out.cell hxx
                            simp at hb
                            subst hb
                            exact hc
                          clear hL hL2 hxx humem hX
                          obtain ⟨au, hau⟩ : ∃ au, ao x = au := ⟨_, rfl⟩
                          have hgx := (HGL.out x hx).2
                          go_wp2_with fail
                          go_loopg [19, 24] (g x).length (fun g2 s19 s24 wr2 => ∃ (j br2 cr2 : Nat) (s2 : GS) (D2 : Nat → Int), g2 + j = (g x).length ∧ s24 = .int .i64 (j : Int) ∧ s19 = .slice (some ⟨br2, 0, none⟩) s2.rc.length cr2 ∧ h < s2.rc.length ∧ bd < br2 ∧ Hid (Sl wr2 3 1 (some ⟨br2, 0, none⟩) s2.rc.length cr2 (ints s2.rc)) ∧ Hid (Ints wr2 bd (n * n) D2) ∧
                            Hid (∀ v, v < n → D2 (u * n + v) = s2.dp v) ∧ Hid (∀ u', u' < u → ∀ v, v < n → D2 (u' * n + v) = (bfs g n u').dp v) ∧ Hid (GI n s2) ∧ Hid (GD n s2) ∧ Hid (x ∈ s2.rc) ∧ Hid (((g x).drop j).foldl (visit (fun _ => true) x) s2 = (g x).foldl (visit (fun _ => true) x) s) ∧ Hid (Fr (fun q => q = bd ∨ q = bd + 1) wq wr2))
                          case atStart => exact ⟨0, br, cr, s, D, by omega, rfl, rfl, hh2, hbr, hQ, hD, hV, hU, hGI, hGD, UMEM, hid rfl, hF⟩
                          case round => as_aux_lemma =>
                            obtain ⟨j, br2, cr2, s2, D2, hj, rfl, rfl, hh3, hbr2, hQ2, hD2, hV2, hU2, hGI2, hGD2, hx2, hL3, hF2⟩ := hrel
                            have hlen2 := hGI2.out.len
                            obtain ⟨hYr, hAr⟩ := HY.out wr hF2.out
                            have c3 := hYr.st.cell 3
                            have c4 := hYr.st.cell 4
                            simp only [List.size_toArray, List.length_cons, List.length_nil, Nat.zero_add, Nat.reduceAdd, Nat.reduceLT, getElem?_pos, List.getElem_toArray, List.getElem_cons_succ, List.getElem_cons_zero] at c3 c4
                            have p2 := Arr.cell hAr.arr hx
                            rw [hau] at p2
                            have HAr := hid hAr
                            clear hYr hAr
                            by_cases hj2 : j < (g x).length
                            · have hv : (g x)[j] < n := (HGL.out x hx).1 _ (List.getElem_mem hj2)
                              have hL4 := hL3.out
                              rw [List.drop_eq_getElem_cons hj2, List.foldl_cons] at hL4
                              have HL4 := hid hL4
                              have hxx : (ints (g x))[j]? = some (.int .i64 ((g x)[j] : Int)) := by simp [ints, hj2]
                              generalize hV' : (g x)[j] = y at *
                              obtain ⟨by', hby, p3⟩ := (HAr.out.row x hx).cell hxx
                              rw [hau] at hby
                              obtain ⟨sb1, sb2⟩ := sq_bound hn1 hu hv
                              obtain ⟨sb3, sb4⟩ := sq_bound hn1 hu hx
                              have d1 := hD2.out.cell sb1
                              have d2 := hD2.out.cell sb3
                              have z1 := hD2.out.frozen (u * n + y)
                              rw [hV2.out y hv] at d1
                              rw [hV2.out x hx] at d2
                              have m1 : u * n ≤ 1048576 := by omega
                              clear hL4 hxx hV' hL3
                              have hdx : 0 ≤ s2.dp x ∧ s2.dp x ≤ 1024 := by
                                obtain ⟨i, hi, hiu⟩ := List.getElem_of_mem hx2.out
                                have := hGI2.out.dp i hi
                                rw [hiu] at this
                                omega
                              obtain ⟨hdx1, hdx2⟩ := hdx
                              have GI3 := hid (hGI2.out.visit (within := fun _ => true) hx2.out hv)
                              have GD3 := hid (hGD2.out.visit (v := y) hdx1)
                              by_cases hfr : s2.fr y = -2
                              · have hneg : s2.dp y < 0 := (hGD2.out y hv).1 hfr
                                have hvis : visit (fun _ => true) x s2 y = ⟨upd s2.fr y x, upd s2.dp y (s2.dp x + 1), s2.rc ++ [y]⟩ := by simp [visit, hfr]
                                have HVIS := hid hvis
                                clear hvis hfr
                                go_upto_region 61 with fail
                                go_region
                                have Q5 := hid ((hQ2.out.setOther (p := ⟨bd, u * n + y, none⟩) (by simp [blk]; omega) (.int .i64 (s2.dp x + 1))).drew)
                                have D5 := hid (show Ints (wr.setCell ⟨bd, u * n + y, none⟩ (.int .i64 (s2.dp x + 1))).drew bd (n * n) (upd D2 (u * n + y) (s2.dp x + 1)) from Ints.set hD2.out (u * n + y) (s2.dp x + 1))
                                have F5 := hid ((hF2.out.setCell (p := ⟨bd, u * n + y, none⟩) (fun _ => .inl rfl) (.int .i64 (s2.dp x + 1))).drew)
                                have V5 := hid (show ∀ v, v < n → upd D2 (u * n + y) (s2.dp x + 1) (u * n + v) = (visit (fun _ => true) x s2 y).dp v from fun v hv => by
                                  rw [HVIS.out]
                                  simp only
                                  by_cases e : v = y
                                  · subst e; simp
                                  · rw [upd_other _ _ (by omega), upd_other _ _ e]
                                    exact hV2.out v hv)
                                have U5 := hid (show ∀ u', u' < u → ∀ v, v < n → upd D2 (u * n + y) (s2.dp x + 1) (u' * n + v) = (bfs g n u').dp v from fun u' hu' v hv => by
                                  have := row_lt hu' hv
                                  rw [upd_other _ _ (by omega)]
                                  exact hU2.out u' hu' v hv)
                                have XM := hid (show x ∈ (visit (fun _ => true) x s2 y).rc by rw [HVIS.out]; simp [hx2.out])
                                have hs5 := F5.out.size
                                clear hQ2 hD2 hF2 hV2 hU2 c3 c4 p1 p2 p3 d1 d2 z1 HAr hneg hx2 hGI2 hGD2
                                generalize (wr.setCell ⟨bd, u * n + y, none⟩ (.int .i64 (s2.dp x + 1))).drew = w5 at *
                                have far := hid (fun (w6 : World) (q2 : (w5.alloc (Obj.cells #[Value.int IntKind.i64 (y : Int)] 3)).grownBy w6 (blk (some ⟨br2, 0, none⟩))) => show Fr (fun q => q = br2) w5 w6 from ((Fr.refl _ w5).alloc _).grown q2 (fun q hq _ => by simpa [blk] using hq.symm))
                                go_wp2_with (refine wpList_app _ _ rfl rfl el33 (some ⟨br2, 0, none⟩) s2.rc.length cr2 (ints s2.rc) rfl (Q5.out.alloc _) w5.heap.size 3 #[.int .i64 y] rfl (Rec.new w5 3 _) rfl (by intro u hu; simp at hu; subst hu; rfl) (by omega) (w5.heap.size + 1) (World.size_alloc _ _) ?_; intro b6 c6 w6 q1 q2 q3 q4; have f6 := hid (far.out w6 q2))
                                rw [← hby]
                                go_roundg (gk - 1)
                                case measure => omega
                                case rel =>
                                  have hb6 : bd < b6 := by
                                    rcases q3 with q | q
                                    · simp [blk] at q; omega
                                    · omega
                                  refine ⟨j + 1, b6, c6, visit (fun _ => true) x s2 y, upd D2 (u * n + y) (s2.dp x + 1), by omega, by go_num, ?_, ?_, hb6, hid ?_, hid (Arr.fr D5.out f6.out (by omega)), V5, U5, GI3, GD3, XM, HL4, hid (F5.out.trans f6.out (fun i hi q => by omega))⟩
                                  · rw [HVIS.out]; simp
                                  · rw [HVIS.out]; simp; omega
                                  · rw [HVIS.out]; simpa [ints] using q1
                              · have hpos : 0 ≤ s2.dp y := by
                                  rcases Int.lt_or_le (s2.dp y) 0 with q | q
                                  · exact absurd ((hGD2.out y hv).2 q) hfr
                                  · exact q
                                have hvis : visit (fun _ => true) x s2 y = s2 := by simp [visit, hfr]
                                have HL5 := hid (show ((g x).drop (j + 1)).foldl (visit (fun _ => true) x) s2 = (g x).foldl (visit (fun _ => true) x) s by have := HL4.out; rw [hvis] at this; exact this)
                                clear hvis hfr HL4 GI3 GD3
                                go_wp2_with fail
                                rw [← hby]
                                go_roundg (gk - 1)
                                case measure => omega
                                case rel => exact ⟨j + 1, br2, cr2, s2, D2, by omega, by go_num, rfl, hh3, hbr2, hQ2, hD2, hV2, hU2, hGI2, hGD2, hx2, HL5, hF2⟩
                            · have hjl : j = (g x).length := by omega
                              have hs2 : s2 = (g x).foldl (visit (fun _ => true) x) s := by have := hL3.out; rw [hjl, List.drop_length] at this; exact this
                              have HL6 := hid (show growL (fun _ => true) g gg (h + 1) s2 = bfs g n u by rw [hs2]; exact HL2.out)
                              clear hs2 hL3
                              go_wp2_with fail
                              go_roundg gg
                              case measure => omega
                              case rel => exact ⟨h + 1, br2, cr2, s2, D2, by omega, by go_num, rfl, by omega, hbr2, hQ2, hD2, hV2, hU2, hGI2, hGD2, HL6, hF2⟩
                        · have hs : s = bfs g n u := by have := hL.out; rw [growL_stop (by omega)] at this; exact this
                          have U7 := hid (show ∀ u', u' < u + 1 → ∀ v, v < n → D (u' * n + v) = (bfs g n u').dp v from fun u' hu' v hv => by
                            by_cases e : u' = u
                            · subst e; rw [← hs]; exact hV.out v hv
                            · exact hU.out u' (by omega) v hv)
                          clear hs hL
                          go_wp2_with fail
                          go_roundg (n - (u + 1))
                          case measure => omega
                          case rel => exact ⟨u + 1, br, cr, s.rc, D, by omega, by go_num, rfl, hQ, hbr, hD, U7, hF⟩
                · have hun : n = u := by omega
                  subst hun
                  have hYr := (HY.out wr hFq.out).1
                  have hAr := (HY.out wr hFq.out).2
                  have Fw := hid (Fq.out.trans hFq.out (fun i hi q => by have := HH.out; omega))
                  have hmc := fun w => run_make1 el33 rfl w n (by omega)
                  have hsw := hFq.out.size
                  have hdlt : bd < wr.heap.size := Arr.lt hD.out
                  obtain ⟨bsc, hbsc⟩ : ∃ bsc, bsc = wr.heap.size := ⟨_, rfl⟩
                  have Yc := hid (hYr.fr (M := Nothing) ((Fr.refl _ wr).alloc (Obj.cells (Array.ofFn fun _ : Fin n => Value.int IntKind.i64 0) 3)) (fun q => q) (fun q => q) (fun _ _ q => q) (fun _ _ q => q))
                  have c5 := Yc.out.st.cell 5
                  have z5 := Yc.out.st.frozen 5
                  simp only [List.size_toArray, List.length_cons, List.length_nil, Nat.zero_add, Nat.reduceAdd, Nat.reduceLT, getElem?_pos, List.getElem_toArray, List.getElem_cons_succ, List.getElem_cons_zero] at c5
                  have HAr := hid hAr
                  clear hYr hAr
                  go_upto_region 64 with fail
                  have Yd := hid (Yc.out.cellSet 5 (.slice (some ⟨bsc, 0, none⟩) n n) (u3 := .slice (some ⟨ba, 0, none⟩) n n) (u4 := .slice (some ⟨bd, 0, none⟩) (n * n) (n * n)) (u5 := .slice (some ⟨bsc, 0, none⟩) n n) (u6 := .slice none 0 0) rfl)
                  have hbm1 : bm < ba := by have := Yc.out.hb; omega
                  have f1 : Fr (fun k => k = bm) wr ((wr.alloc (Obj.cells (Array.ofFn fun _ : Fin n => Value.int IntKind.i64 0) 3)).setCell ⟨bm, 5, none⟩ (.slice (some ⟨bsc, 0, none⟩) n n)) := ((Fr.refl (fun k => k = bm) wr).alloc _).setCell (p := ⟨bm, 5, none⟩) (fun _ => rfl) _
                  have Ad := hid (HAr.out.fr f1 (fun q => by omega) (fun i hi b hb q => by have := HAO.out i hi b hb; omega))
                  have Dd := hid (show Ints _ bd (n * n) D from Arr.fr hD.out f1 (by omega))
                  have Fd := hid (Fw.out.trans f1 (fun i hi q => by have := HH.out; omega))
                  have Cd := hid (show Ints ((wr.alloc (Obj.cells (Array.ofFn fun _ : Fin n => Value.int IntKind.i64 0) 3)).setCell ⟨bm, 5, none⟩ (.slice (some ⟨bsc, 0, none⟩) n n)) bsc n (fun _ => 0) from Arr.setOther (Ints.newAt wr n bsc hbsc.symm) (by simp; omega) _)
                  have hsd : ((wr.alloc (Obj.cells (Array.ofFn fun _ : Fin n => Value.int IntKind.i64 0) 3)).setCell ⟨bm, 5, none⟩ (.slice (some ⟨bsc, 0, none⟩) n n)).heap.size = bsc + 1 := by simp; omega
                  have hbdc : bd < bsc := by omega
                  rw [← hbsc]
                  clear f1 c5 z5 Yc hbsc Fw
                  obtain ⟨wd, hwd⟩ : ∃ wd, wd = (wr.alloc (Obj.cells (Array.ofFn fun _ : Fin n => Value.int IntKind.i64 0) 3)).setCell ⟨bm, 5, none⟩ (.slice (some ⟨bsc, 0, none⟩) n n) := ⟨_, rfl⟩
                  rw [← hwd] at Yd Ad Dd Fd Cd hsd ⊢
                  clear hwd
                  have DV := hid (show ∀ p q, p < n → q < n → D (p * n + q) = (bfs g n p).dp q from fun p q hp hq => hDu.out p hp q hq)
                  have DB := hid (show ∀ p q, p < n → q < n → -1 ≤ D (p * n + q) ∧ D (p * n + q) ≤ 1024 from fun p q hp hq => by
                    rw [DV.out p q hp hq]
                    exact bfs_bound (fun i hi => (HGL.out i hi).1) hn1 hp)
                  have HYc := hid (show ∀ wr, Fr (fun q => q = bsc) wd wr → Y H bm bx n wr ks src ak ck as' cs (.slice (some ⟨ba, 0, none⟩) n n) (.slice (some ⟨bd, 0, none⟩) (n * n) (n * n)) (.slice (some ⟨bsc, 0, none⟩) n n) (.slice none 0 0) n (fix ks) ∧ Adj wr ba n ao c g ∧ Ints wr bd (n * n) D from fun wr hf =>
                    ⟨Yd.out.fr hf (fun q => by have := Yd.out.hb; omega) (fun q => by have := Yd.out.hb; omega) (fun g hg q => by have := HAKd.out g (.inl hg); omega) (fun g hg q => by have := HAKd.out g (.inr hg); omega),
                     Ad.out.fr hf (fun q => by omega) (fun i hi b hb q => by have := HAO.out i hi b hb; omega), Arr.fr Dd.out hf (by omega)⟩)
                  go_wp2_with fail
                  go_loopg [26] n (fun gg s26 wr => ∃ (u : Nat), gg + u = n ∧ s26 = .int .i64 (u : Int) ∧ Hid (Ints wr bsc n (scAt g D n u)) ∧ Hid (Fr (fun q => q = bsc) wd wr))
                  case atStart => exact ⟨0, by omega, rfl, Cd, hid (Fr.refl _ wd)⟩
                  case round => as_aux_lemma =>
                    obtain ⟨u, hgu2, rfl, hC, hFc⟩ := hrel
                    by_cases hu : u < n
                    · obtain ⟨au, hau⟩ : ∃ au, ao u = au := ⟨_, rfl⟩
                      have hgx := (HGL.out u hu).2
                      go_wp2_with fail
                      go_loopg [27] (g u).length (fun g2 s27 wr2 => ∃ (j : Nat), g2 + j = (g u).length ∧ s27 = .int .i64 (j : Int) ∧ Hid (Ints wr2 bsc n (((g u).take j).foldl (scStep D n u) (scAt g D n u))) ∧ Hid (Fr (fun q => q = bsc) wd wr2))
                      case atStart => exact ⟨0, by omega, rfl, hC, hFc⟩
                      case round => as_aux_lemma =>
                        obtain ⟨j, hj, rfl, hC2, hF2⟩ := hrel
                        obtain ⟨hYr, hAr, hDr⟩ := HYc.out wr hF2.out
                        have c3 := hYr.st.cell 3
                        have c4 := hYr.st.cell 4
                        have c5 := hYr.st.cell 5
                        simp only [List.size_toArray, List.length_cons, List.length_nil, Nat.zero_add, Nat.reduceAdd, Nat.reduceLT, getElem?_pos, List.getElem_toArray, List.getElem_cons_succ, List.getElem_cons_zero] at c3 c4 c5
                        have p2 := Arr.cell hAr.arr hu
                        rw [hau] at p2
                        by_cases hj2 : j < (g u).length
                        · have hv : (g u)[j] < n := (HGL.out u hu).1 _ (List.getElem_mem hj2)
                          have HTK := hid (show ((g u).take (j + 1)).foldl (scStep D n u) (scAt g D n u) = scStep D n u (((g u).take j).foldl (scStep D n u) (scAt g D n u)) (g u)[j] by rw [List.take_succ_eq_append_getElem hj2, List.foldl_append]; rfl)
                          have hxx : (ints (g u))[j]? = some (.int .i64 ((g u)[j] : Int)) := by simp [ints, hj2]
                          generalize hV' : (g u)[j] = y at *
                          obtain ⟨by', hby, p3⟩ := (hAr.row u hu).cell hxx
                          rw [hau] at hby
                          obtain ⟨sb1, sb2⟩ := sq_bound hn1 hv hu
                          have d1 := hDr.cell sb1
                          have m1 : y * n ≤ 1048576 := by omega
                          have hb1 := DB.out y u hv hu
                          have e1 := hC2.out.cell hv
                          have z1 := hC2.out.frozen y
                          generalize hfc : ((g u).take j).foldl (scStep D n u) (scAt g D n u) = fc at *
                          obtain ⟨dd, hdd⟩ : ∃ dd, D (y * n + u) = dd := ⟨_, rfl⟩
                          rw [hdd] at d1 hb1
                          obtain ⟨hb2, hb3⟩ := hb1
                          obtain ⟨sy, hsy⟩ : ∃ sy, fc y = sy := ⟨_, rfl⟩
                          rw [hsy] at e1
                          have HST := hid (show scStep D n u fc y = if 0 ≤ dd ∧ (sy = 0 ∨ dd + 1 < sy) then upd fc y (dd + 1) else fc by unfold scStep; rw [hdd, hsy])
                          clear hxx hV' hfc hdd hsy hYr hAr hDr
                          by_cases hcond : 0 ≤ dd ∧ (sy = 0 ∨ dd + 1 < sy)
                          · have C3 := hid (show Ints (wr.setCell ⟨bsc, y, none⟩ (.int .i64 (dd + 1))) bsc n (((g u).take (j + 1)).foldl (scStep D n u) (scAt g D n u)) by rw [HTK.out, HST.out, if_pos hcond]; exact Ints.set hC2.out y (dd + 1))
                            obtain ⟨hc1, hc2⟩ := hcond
                            by_cases hsy0 : sy = 0
                            · subst hsy0
                              go_wp2_with fail
                              rw [← hby]
                              go_roundg (gk - 1)
                              case measure => omega
                              case rel => exact ⟨j + 1, by omega, by go_num, C3, hid (hF2.out.setCell (p := ⟨bsc, y, none⟩) (fun _ => rfl) _)⟩
                            · have hlt : dd + 1 < sy := by omega
                              have g1 : (sy == 0) = false := by simpa using hsy0
                              have g2 : decide (dd + 1 < sy) = true := by simpa using hlt
                              go_wp2_with fail
                              rw [← hby]
                              go_roundg (gk - 1)
                              case measure => omega
                              case rel => exact ⟨j + 1, by omega, by go_num, C3, hid (hF2.out.setCell (p := ⟨bsc, y, none⟩) (fun _ => rfl) _)⟩
                          · have C3 := hid (show Ints wr bsc n (((g u).take (j + 1)).foldl (scStep D n u) (scAt g D n u)) by rw [HTK.out, HST.out, if_neg hcond]; exact hC2.out)
                            by_cases hd0 : 0 ≤ dd
                            · have hsy0 : sy ≠ 0 := fun q => hcond ⟨hd0, .inl q⟩
                              have hlt : ¬ dd + 1 < sy := fun q => hcond ⟨hd0, .inr q⟩
                              have g1 : (sy == 0) = false := by simpa using hsy0
                              have g2 : decide (dd + 1 < sy) = false := by simpa using hlt
                              clear hcond
                              go_wp2_with fail
                              rw [← hby]
                              go_roundg (gk - 1)
                              case measure => omega
                              case rel => exact ⟨j + 1, by omega, by go_num, C3, hF2⟩
                            · clear hcond
                              go_wp2_with fail
                              rw [← hby]
                              go_roundg (gk - 1)
                              case measure => omega
                              case rel => exact ⟨j + 1, by omega, by go_num, C3, hF2⟩
                        · have C4 := hid (show Ints wr bsc n (scAt g D n (u + 1)) by
                            have := hC2.out
                            rw [List.take_of_length_le (by omega)] at this
                            exact this)
                          clear hYr hAr hDr hC2
                          go_wp2_with fail
                          go_roundg (n - (u + 1))
                          case measure => omega
                          case rel => exact ⟨u + 1, by omega, by go_num, C4, hF2⟩
                    · have hun2 : u = n := by omega
                      have C5 := hid (show Ints wr bsc n (scAt g D n n) by have := hC.out; rw [hun2] at this; exact this)
                      clear hun2 hC
                      obtain ⟨hYr, hAr, hDr⟩ := HYc.out wr hFc.out
                      obtain ⟨bse, hbse⟩ : ∃ bse, bse = wr.heap.size := ⟨_, rfl⟩
                      have hclt : bsc < wr.heap.size := Arr.lt C5.out
                      have Ye := hid (hYr.fr (M := Nothing) ((Fr.refl _ wr).alloc (Obj.cells (Array.ofFn fun _ : Fin n => Value.int IntKind.i64 0) 3)) (fun q => q) (fun q => q) (fun _ _ q => q) (fun _ _ q => q))
                      have c6 := Ye.out.st.cell 6
                      have z6 := Ye.out.st.frozen 6
                      simp only [List.size_toArray, List.length_cons, List.length_nil, Nat.zero_add, Nat.reduceAdd, Nat.reduceLT, getElem?_pos, List.getElem_toArray, List.getElem_cons_succ, List.getElem_cons_zero] at c6
                      have HDr := hid hDr
                      clear hYr hAr hDr
                      go_upto_region 75 with fail
                      have Yf := hid (Ye.out.cellSet 6 (.slice (some ⟨bse, 0, none⟩) n n) (u3 := .slice (some ⟨ba, 0, none⟩) n n) (u4 := .slice (some ⟨bd, 0, none⟩) (n * n) (n * n)) (u5 := .slice (some ⟨bsc, 0, none⟩) n n) (u6 := .slice (some ⟨bse, 0, none⟩) n n) rfl)
                      have f1 : Fr (fun k => k = bm) wr ((wr.alloc (Obj.cells (Array.ofFn fun _ : Fin n => Value.int IntKind.i64 0) 3)).setCell ⟨bm, 6, none⟩ (.slice (some ⟨bse, 0, none⟩) n n)) := ((Fr.refl (fun k => k = bm) wr).alloc _).setCell (p := ⟨bm, 6, none⟩) (fun _ => rfl) _
                      have Cf := hid (show Ints _ bsc n (scAt g D n n) from Arr.fr C5.out f1 (by omega))
                      have Df := hid (show Ints _ bd (n * n) D from Arr.fr HDr.out f1 (by omega))
                      have Ef := hid (show Ints ((wr.alloc (Obj.cells (Array.ofFn fun _ : Fin n => Value.int IntKind.i64 0) 3)).setCell ⟨bm, 6, none⟩ (.slice (some ⟨bse, 0, none⟩) n n)) bse n (fun _ => 0) from Arr.setOther (Ints.newAt wr n bse hbse.symm) (by simp; omega) _)
                      have Ff := hid ((Fd.out.trans hFc.out (fun i hi q => by have := HH.out; omega)).trans f1 (fun i hi q => by have := HH.out; omega))
                      have hbce : bsc < bse := by omega
                      rw [← hbse]
                      clear f1 c6 z6 Ye hbse C5 HDr
                      generalize (wr.alloc (Obj.cells (Array.ofFn fun _ : Fin n => Value.int IntKind.i64 0) 3)).setCell ⟨bm, 6, none⟩ (.slice (some ⟨bse, 0, none⟩) n n) = wf at *
                      go_wp2_with fail
                      go_ret
                      have hH := HH.out
                      have hbb := Yf.out.hb
                      refine ⟨bm, bx, bd, bsc, bse, n, ks, src, ak, ck, as', cs, .slice (some ⟨ba, 0, none⟩) n n, D, g, rfl, ⟨Yf.out.st, Yf.out.k, Yf.out.s, Yf.out.m, Df.out, Cf.out, Ef.out, by simp; omega, fun g hg q => ?_, fun g hg q => ?_, HN.out.symm, HSL.out, sorted_nodup K1.out.so, hn1⟩, K1.out, HGD.out, DV.out, Ff.out, fun b hb => ?_, fun g hg => ?_⟩
                      · have h1 := HAKd.out g (.inl hg)
                        have h2 := Yf.out.fk g hg
                        simp at q
                        omega
                      · have h1 := HAKd.out g (.inr hg)
                        have h2 := Yf.out.fs g hg
                        simp at q
                        omega
                      · simp at hb
                        omega
                      · rcases hg with q | q
                        · have := Yf.out.fk g q; omega
                        · have := Yf.out.fs g q; omega
end Go.Proofs.Qxb6615025a
