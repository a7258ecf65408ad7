/- numbered (24). -/
import Derived.Test.Qxb6615025aGmap
import Derived.Test.Qxb6615025aArgs
import Derived.Laws.Rows
namespace Go.Proofs.Qxb6615025a
open Go.RowKit Go.MapKept

theorem load52 (w : World) (b : Nat) (x y : Value) (h : Rec w b 52 #[x, y]) : (loadVar 52 ⟨b, 0, none⟩).run Try.prog w = .ok (.agg #[x, y]) w :=
  run_loadVar_row w b 52 52 #[x, y] (0, 0) _ h Try.underlying52 rfl (by kernel_rfl)

theorem results_cell1 {fn : Func} {p : Tmp} {ty : TypeId} (h : fn.results = #[.cell p ty]) (tmps : Array Value) (P : Program) (w : World) :
    (results fn tmps).run P w = ((asAddr (tmps.getD p undef)).run P w).andThen fun a w₁ => (loadVar ty a).run P w₁ := by
  simp only [results, h]
  simp [Sem.run_bind, Result.andThen]

theorem keys35_any (b : Nat) (w : World) : Calls Try.prog 35 #[.map (some b)] w fun e w' => e = .returned (.func (.func 46) #[] #[.pointer (some ⟨w.heap.size, 0, none⟩)]) ∧ w' = w.alloc (.cells #[.map (some b)] 30) :=
  callsIn_wide.1 (Try.maps_Keys_35 (some b) w)

theorem sorted34_any (b : Nat) (l : List (ByteArray × Value)) (ks : List ByteArray) (w : World) (h : GM w b l) (hp : (l.map Prod.fst).Perm ks) (hs : ks.Pairwise (fun a b => a.data.toList < b.data.toList)) (hn : ks.length ≤ 1024) (hsz : ∀ s ∈ ks, s.size ≤ 1048576) :
    Calls Try.prog 34 #[.func (.func 46) #[] #[.pointer (some ⟨w.heap.size, 0, none⟩)]] (w.alloc (.cells #[.map (some b)] 30)) fun e w' => ∃ ao c, e = .returned (.slice ao ks.length c) ∧ Sl w' 9 1 ao ks.length c (strs ks) ∧ (∀ g, blk ao = some g → w.heap.size < g) ∧ Fr Nothing w w' := by
  have hl : l.length = ks.length := by simpa using hp.length_eq
  have hmx : (1048576 : Nat) ≤ maxLen := by decide
  obtain ⟨D0, ho, hk, hz⟩ := h.owns (fun p hp' => by have := hsz p.1 (hp.mem_iff.1 (List.mem_map.2 ⟨p, hp', rfl⟩)); omega) (by omega)
  refine (callsIn_wide.1 (Try.slices_Sorted_keys_34_35 b l.length D0 _ w ho (by omega) (by omega))).mono ?_
  rintro e w' ⟨v, ss, rfl, hss, hrow, hnil, hbel⟩
  have hk2 : ss.Perm (ks.map fun s => s.data.toList) := hss.trans (hk.trans (by
    have := hp.map (fun s : ByteArray => s.data.toList)
    rw [List.map_map] at this
    exact this))
  have hsl : ss.length = ks.length := by simpa using hk2.length_eq
  rw [sort_keys hs hk2, hsl] at hrow
  have e1 : (ks.map fun s => s.data.toList).map encStr = strs ks := by
    rw [List.map_map]
    apply List.map_congr_left
    intro s _
    simp [encStr]
  rw [e1] at hrow
  have hfr : Fr Nothing w w' := ((Fr.refl _ w).alloc _).trans (Fr.of_below hbel) (fun _ _ q => q)
  obtain ⟨hx, hrow2⟩ := hrow
  rcases hrow2 with ⟨hv, h0⟩ | ⟨g, cap, cur, hv, hg, hh, a1, a2, a3, a4⟩
  · refine ⟨none, 0, by rw [hv, h0], ⟨hx, .inl ⟨by rw [h0], h0⟩⟩, fun g hg => by simp [blk] at hg, hfr⟩
  · refine ⟨some ⟨g, 0, none⟩, cap, by rw [hv], Sl.mk hh a1 a2 a3 a4, fun g' hg' => ?_, hfr⟩
    simp [blk] at hg'
    subst hg'
    simp at hg
    omega

theorem und35 : Try.prog.underlying 35 = some (.map 9 3) := by kernel_rfl
theorem mkMap35 (w : World) (n : Int) : (Instr.makeMap 35 (some (.int .i64 n))).run Try.prog w = .ok (.map (some w.heap.size)) (w.alloc (.map #[] 0)) := by kernel_rfl
theorem und30 : Try.prog.underlying 30 = some (.map 9 22) := by kernel_rfl
theorem z3 (w : World) : (zeroValue 3).run Try.prog w = .ok (.int .i64 0) w := by kernel_rfl
theorem z22 (w : World) : (zeroValue 22).run Try.prog w = .ok (.slice none 0 0) w := by kernel_rfl

theorem Rw.low {H H' : Nat} {w : World} {bn n : Nat} {ao : Nat → Option Addr} {c : Nat → Nat} {g : Nat → List Nat} (h : Rw H w bn n ao c g) (hH : H' ≤ H) : Rw H' w bn n ao c g :=
  ⟨h.adj, fun i hi b hb => ⟨Nat.le_trans hH (h.far i hi b hb).1, (h.far i hi b hb).2⟩, h.dis, Nat.le_trans hH h.hb⟩

theorem Rw.congr {H : Nat} {w : World} {bn n : Nat} {ao : Nat → Option Addr} {c : Nat → Nat} {g g' : Nat → List Nat} (h : Rw H w bn n ao c g) (he : ∀ i, i < n → g i = g' i) : Rw H w bn n ao c g' :=
  ⟨⟨h.adj.arr.congr fun i hi => by rw [he i hi], fun i hi => by rw [← he i hi]; exact h.adj.row i hi⟩, h.far, h.dis, h.hb⟩

/-- The edges inside the graph. -/
def nx (ks : List ByteArray) (rl : Nat → List ByteArray) (i : Nat) : List Nat := (rl i).filterMap (idx ks)

set_option maxRecDepth 100000 in
set_option maxHeartbeats 8000000 in
theorem numbered_any (b : Nat) (l : List (ByteArray × Value)) (ks : List ByteArray) (ra : Nat → Option Addr) (rl : Nat → List ByteArray) (rcp : Nat → Nat) (w : World) (n : Nat) (hG : GM w b l) (hp : (l.map Prod.fst).Perm ks) (hs : ks.Pairwise (fun a b => a.data.toList < b.data.toList))
    (hkn : ks.length = n) (hn : n ≤ 1024) (hsz : ∀ s ∈ ks, s.size ≤ 1048576) (hv : ∀ i s, ks[i]? = some s → (s, Value.slice (ra i) (rl i).length (rcp i)) ∈ l ∧ Str w (ra i) (rl i)) (hrl : ∀ i, i < n → (rl i).length ≤ 1048576) :
    Calls Try.prog 24 #[.map (some b)] w fun e w' => ∃ aoi ci bn ao c, e = .returned (.agg #[.slice aoi n ci, .slice (some ⟨bn, 0, none⟩) n n]) ∧ Sl w' 9 1 aoi n ci (strs ks) ∧ Rw w.heap.size w' bn n ao c (nx ks rl) ∧
      (∀ g, blk aoi = some g → w.heap.size ≤ g ∧ g ≠ bn ∧ ∀ i, i < n → blk (ao i) ≠ some g) ∧ Fr Nothing w w' := by
  have hnd := sorted_nodup hs
  have H35 := hid (fun w => keys35_any b w)
  have H34 := hid (show ∀ (w' : World) (B : Nat), w'.heap.size = B → Fr Nothing w w' → Calls Try.prog 34 #[.func (.func 46) #[] #[.pointer (some ⟨B, 0, none⟩)]] (w'.alloc (.cells #[.map (some b)] 30)) fun e w'' => ∃ ao c, e = .returned (.slice ao n c) ∧ Sl w'' 9 1 ao n c (strs ks) ∧ (∀ g, blk ao = some g → B < g) ∧ Fr Nothing w' w'' from by
    intro w' B hB hf
    subst hB
    have := sorted34_any b l ks w' (hG.fr hf (fun q => q)) hp hs (by omega) hsz
    rw [hkn] at this
    exact this)
  have HV := hid hv
  have HRL := hid hrl
  have HKN := hid hkn
  have HND := hid hnd
  have HG := hid hG
  clear hv hrl hG hs hp hsz hkn hnd
  have hmk := fun w => run_make1 el34 rfl w n (by omega)
  have hmm := fun w => mkMap35 w n
  go_enter Try.func24, Try.ntmps24
  go_wp2_with (first | (go_at_call 35; with_reducible refine (H35.out _).mono ?_; rintro e w' ⟨rfl, rfl⟩) | (go_at_call 34; with_reducible refine (H34.out _ _ (World.size_alloc _ _) ((Fr.refl _ w).alloc _)).mono ?_; rintro e w3 ⟨aoi, ci, rfl, hS3, hA3, hF3⟩; have C3 := hid ((Rec.new w 52 _).fr hF3 (fun q => q)); have S3 := hid hS3; have A3 := hid hA3; have F3 := hid (((Fr.refl Nothing w).alloc _).trans hF3 (fun _ _ q => q)); clear hS3 hA3 hF3))
  obtain ⟨bi, hbi⟩ : ∃ bi, bi = w3.heap.size := ⟨_, rfl⟩
  have M0 := hid (MapAt.made .string w3)
  rw [← hbi] at M0
  rw [← hbi]
  have F4 := hid (show Fr Nothing w3 (w3.alloc (.map #[] 0)) from (Fr.refl _ w3).alloc _)
  have HBI := hid hbi
  clear hbi
  generalize w3.alloc (.map #[] 0) = w4 at *
  go_loopg [22] n (fun gg s22 wr => ∃ (k : Nat), gg + k = n ∧ s22 = .int .i64 (k : Int) ∧ Hid (MapAt .string wr bi k (fix (ks.take k))) ∧ Hid (Fr Nothing w3 wr))
  case atStart => exact ⟨0, by omega, rfl, hid (M0.out.congr fun k hk => by cases k <;> simp [fix, idx]), F4⟩
  case round =>
    obtain ⟨k, hgk, rfl, hM, hF⟩ := hrel
    by_cases hk : k < n
    · have hkl : k < ks.length := by rw [HKN.out]; exact hk
      have hx : (strs ks)[k]? = some (.string ks[k]) := by simp [strs, hkl]
      obtain ⟨g, hg, q1⟩ := (S3.out.fr hF.out (fun _ _ q => q)).cell hx
      have hnot : ks[k] ∉ ks.take k := fun q => by
        obtain ⟨i, hi, e⟩ := List.getElem_of_mem q
        simp only [List.length_take] at hi
        rw [List.getElem_take] at e
        have := (List.getElem?_inj hkl HND.out).1 (by rw [List.getElem?_eq_getElem hkl, List.getElem?_eq_getElem (by omega), e] : ks[k]? = ks[i]?)
        omega
      obtain ⟨w5, hrun, hm5, o1, o2, o3, o4, o5⟩ := hM.out.update und35 Try.underlying9 (isS ks[k]) (.int .i64 (k : Int))
      have hnone : (fix (ks.take k) (.string ks[k])).isSome = false := by
        cases hi : idx (ks.take k) ks[k] with
        | none => simp [fix, hi]
        | some j => exact absurd (List.mem_of_getElem? (idx_some hi)) hnot
      rw [hnone] at hm5
      have M5 := hid (show MapAt .string w5 bi (k + 1) (fix (ks.take (k + 1))) by
        refine hm5.congr fun v hv => ?_
        have := fix_snoc hnot v hv
        rw [List.length_take, Nat.min_eq_left (by omega)] at this
        rw [List.take_succ_eq_append_getElem hkl]
        exact this)
      have F5 := hid (show Fr Nothing w3 w5 from hF.out.trans ⟨o1, o2, o3, by omega, fun b _ hb => o5 b hb⟩ (N := fun b => b = bi) (fun i hi q => by have := HBI.out; omega))
      clear hm5 o1 o2 o3 o4 o5 hnot hnone hx
      generalize ks[k] = s at *
      go_wp2_with fail
      go_roundg (gk - 1)
      case measure => omega
      case rel => exact ⟨k + 1, by omega, by go_num, M5, F5⟩
    · have hkn : n = k := by omega
      subst hkn
      have M6 := hid (show MapAt .string wr bi n (fix ks) by have := hM.out; rw [List.take_of_length_le (by rw [HKN.out]; exact Nat.le_refl _)] at this; exact this)
      clear hM
      go_wp2_with fail
      obtain ⟨w6, hw6⟩ : ∃ w6, w6 = wr := ⟨_, rfl⟩
      obtain ⟨bn, hbn⟩ : ∃ bn, bn = wr.heap.size := ⟨_, rfl⟩
      rw [← hbn]
      have R0 := hid (show Rw w6.heap.size (wr.alloc (Obj.cells (Array.ofFn fun _ : Fin n => Value.slice none 0 0) 33)) bn n (fun _ => none) (fun _ => 0) (fun _ => []) by
        refine ⟨⟨?_, fun i hi => Sl.nil _ _ _⟩, fun i hi b hb => by simp [blk] at hb, fun i j hi hj hij b hb => by simp [blk] at hb, by rw [hw6, hbn]; exact Nat.le_refl _⟩
        exact Rec.newAt _ 33 bn _ hbn.symm)
      have F6 := hid (show Fr Nothing w6 (wr.alloc (Obj.cells (Array.ofFn fun _ : Fin n => Value.slice none 0 0) 33)) by rw [hw6]; exact (Fr.refl _ wr).alloc _)
      rw [← hw6] at M6 hF hbn
      have HBN := hid hbn
      clear hbn
      generalize wr.alloc (Obj.cells (Array.ofFn fun _ : Fin n => Value.slice none 0 0) 33) = w7 at *
      clear hw6
      have S6 := hid (S3.out.fr hF.out (fun _ _ q => q))
      have F36 := hid (F3.out.trans hF.out (fun _ _ q => q))
      obtain ⟨fm, hfm, hfv⟩ := (HG.out.fr F36.out (fun q => q)).mapAt
      have HFM := hid hfm
      have HFV := hid hfv
      clear hfm hfv
      go_loopg [36] n (fun gg s36 wr => ∃ (k : Nat) (ao : Nat → Option Addr) (c : Nat → Nat), gg + k = n ∧ s36 = .int .i64 (k : Int) ∧ Hid (Rw w6.heap.size wr bn n ao c (fun i => if i < k then nx ks rl i else [])) ∧ Hid (Fr Nothing w6 wr))
      case atStart => exact ⟨0, _, _, by omega, rfl, hid (R0.out.congr fun i hi => by simp), F6⟩
      case round =>
        obtain ⟨k, ao, c, hgk2, rfl, hR, hF7⟩ := hrel
        by_cases hk2 : k < n
        · have hkl : k < ks.length := by rw [HKN.out]; exact hk2
          have hx : (strs ks)[k]? = some (.string ks[k]) := by simp [strs, hkl]
          obtain ⟨g, hg, q1⟩ := (S6.out.fr hF7.out (fun _ _ q => q)).cell hx
          obtain ⟨hmem, hStr⟩ := HV.out k ks[k] (List.getElem?_eq_getElem hkl)
          have hlk := (HFM.out.of_block (hF7.out.block b (HFM.out.lt) (fun q => q))).look (k := .string ks[k]) und30 Try.underlying9 (z22 wr) (isS ks[k]) false
          rw [HFV.out _ hmem] at hlk
          simp only [Option.getD_some, Bool.false_eq_true, if_false] at hlk
          have HS := hid hStr
          have hrk := HRL.out k hk2
          clear hx hmem hStr
          generalize ks[k] = s at *
          generalize hak : ra k = ak at *
          generalize rcp k = ck at *
          go_wp2_with fail
          go_loopg [45] (rl k).length (fun g2 s45 wr2 => ∃ (j : Nat) (ao3 : Nat → Option Addr) (c3 : Nat → Nat), g2 + j = (rl k).length ∧ s45 = .int .i64 (j : Int) ∧ Hid (Rw w6.heap.size wr2 bn n ao3 c3 (upd (fun i => if i < k then nx ks rl i else []) k (((rl k).take j).filterMap (idx ks)))) ∧ Hid (Fr Nothing w6 wr2))
          case atStart => exact ⟨0, ao, c, by omega, rfl, hid (hR.out.congr fun i hi => by
            by_cases e : i = k
            · subst e; simp
            · rw [upd_other _ _ e]), hF7⟩
          case round =>
            obtain ⟨j, ao3, c3, hj, rfl, hR3, hF8⟩ := hrel
            by_cases hj2 : j < (rl k).length
            · have F39 := hid (F36.out.trans hF8.out (fun _ _ q => q))
              obtain ⟨b2, off2, hb2, q2⟩ := (HS.out.fr F39.out) j (rl k)[j] (List.getElem?_eq_getElem hj2)
              have hTk : ((rl k).take (j + 1)).filterMap (idx ks) = ((rl k).take j).filterMap (idx ks) ++ (idx ks (rl k)[j]).toList := by
                rw [List.take_succ_eq_append_getElem hj2, List.filterMap_append]
                cases h : idx ks (rl k)[j] <;> simp [h]
              have hlen : (((rl k).take j).filterMap (idx ks)).length ≤ 1048576 := by
                have := List.length_filterMap_le (idx ks) ((rl k).take j)
                rw [List.length_take] at this
                omega
              have HTK := hid hTk
              clear hTk
              have hl2 := (M6.out.of_block (hF8.out.block bi M6.out.lt (fun q => q))).look (k := .string (rl k)[j]) und35 Try.underlying9 (z3 wr) (isS (rl k)[j]) true
              simp only [if_true, fix] at hl2
              generalize (rl k)[j] = s2 at *
              generalize hL : ((rl k).take j).filterMap (idx ks) = L at *
              cases hix : idx ks s2 with
              | none =>
                rw [hix] at hl2 HTK
                simp only [Option.map_none, Option.getD_none, Option.isSome_none] at hl2
                go_wp2_with fail
                go_roundg (gk - 1)
                case measure => omega
                case rel => exact ⟨j + 1, ao3, c3, by omega, by go_num, hid (by rw [HTK.out]; simpa using hR3.out), hF8⟩
              | some t =>
                rw [hix] at hl2 HTK
                simp only [Option.map_some, Option.getD_some, Option.isSome_some] at hl2
                have HTT := hid (show t < n by have := idx_lt hix; rw [HKN.out] at this; exact this)
                have q4 := Arr.cell hR3.out.adj.arr hk2
                have z4 := Arr.frozen hR3.out.adj.arr k
                have hrow := hid (hR3.out.adj.row k hk2)
                rw [upd_same] at q4 hrow
                have hbva : blk (ao3 k) ≠ some bn := fun q => (hR3.out.far k hk2 bn q).2 rfl
                obtain ⟨av, hav⟩ : ∃ av, ao3 k = av := ⟨_, rfl⟩
                rw [hav] at q4 hrow hbva
                have far := hid (fun (w4 : World) (k2 : (wr.alloc (Obj.cells #[Value.int IntKind.i64 (t : Int)] 3)).grownBy w4 (blk av)) => show Fr (fun q => blk av = some q) wr w4 from ((Fr.refl _ wr).alloc _).grown k2 (fun q hq _ => hq))
                clear hix
                go_wp2_with (refine wpList_app _ _ rfl rfl el33 av L.length (c3 k) (ints L) rfl (hrow.out.alloc _) wr.heap.size 3 #[.int .i64 t] rfl (Rec.new wr 3 _) rfl (by intro u hu; simp at hu; subst hu; rfl) (by omega) (wr.heap.size + 1) (World.size_alloc _ _) ?_; intro b4 c4 w4 k1 k2 k3 k4; have f4 := hid (far.out w4 k2); have x4 := (f4.out.cell q4 hbva); have y4 := Arr.frozen (Arr.fr hR3.out.adj.arr f4.out hbva) k)
                rw [← hg, ← hb2]
                go_roundg (gk - 1)
                case measure => omega
                case rel =>
                  refine ⟨j + 1, upd ao3 k (some ⟨b4, 0, none⟩), upd c3 k c4, by omega, by go_num, hid ?_, hid ?_⟩
                  · rw [HTK.out]
                    have := hR3.out.app hk2 (w1 := w4) (v := t) (g1 := b4) (c1 := c4) (by rw [upd_same]; simpa using k1) (fun b hb hne => by rw [hav] at hne; exact f4.out.block b hb hne) (by
                      rw [hav]
                      rcases k3 with q | q
                      · exact .inl q
                      · exact .inr (by omega))
                    rw [upd_same] at this
                    refine this.congr fun i hi => ?_
                    by_cases e : i = k
                    · subst e; simp
                    · rw [upd_other _ _ e, upd_other _ _ e, upd_other _ _ e]
                  · exact (hF8.out.trans f4.out (fun i hi q => by have := (hR3.out.far k hk2 i (hav ▸ q)).1; omega)).setCell (p := ⟨bn, k, none⟩) (fun q => by have := HBN.out; simp at q; omega) _
            · have hjl : (rl k).length = j := by omega
              have R4 := hid (show Rw w6.heap.size wr bn n ao3 c3 (fun i => if i < k + 1 then nx ks rl i else []) by
                refine hR3.out.congr fun i hi => ?_
                by_cases e : i = k
                · subst e
                  rw [upd_same, if_pos (by omega), ← hjl, List.take_length]
                  rfl
                · rw [upd_other _ _ e]
                  by_cases h : i < k
                  · rw [if_pos h, if_pos (by omega)]
                  · rw [if_neg h, if_neg (by omega)])
              clear hR3 hjl
              go_wp2_with fail
              go_roundg (n - (k + 1))
              case measure => omega
              case rel => exact ⟨k + 1, ao3, c3, by omega, by go_num, R4, hF8⟩
        · have R5 := hid (show Rw w6.heap.size wr bn n ao c (nx ks rl) from hR.out.congr fun i hi => by rw [if_pos (by omega)])
          clear hR
          have F9 := hid (F36.out.trans hF7.out (fun _ _ q => q))
          have C9 := hid ((C3.out.fr hF.out (fun q => q)).fr hF7.out (fun q => q))
          have c9 := C9.out.cell 0
          have d9 := C9.out.cell 1
          have e9 := C9.out.frozen 0
          have f9 := C9.out.frozen 1
          simp at c9 d9
          have hsz := F36.out.size
          have C10 := hid (show Rec ((wr.setCell ⟨w.heap.size, 0, none⟩ (Value.slice aoi n ci)).setCell ⟨w.heap.size, 1, none⟩ (Value.slice (some ⟨bn, 0, none⟩) n n)) w.heap.size 52 #[Value.slice aoi n ci, Value.slice (some ⟨bn, 0, none⟩) n n] from by
            simpa using (C9.out.set 0 (Value.slice aoi n ci)).set 1 (Value.slice (some ⟨bn, 0, none⟩) n n))
          have hlt3 := C3.out.lt
          have hFs := hF.out.size
          have F10 := hid (show Fr (fun k => k = w.heap.size) wr ((wr.setCell ⟨w.heap.size, 0, none⟩ (Value.slice aoi n ci)).setCell ⟨w.heap.size, 1, none⟩ (Value.slice (some ⟨bn, 0, none⟩) n n)) from ((Fr.refl (fun k => k = w.heap.size) wr).setCell (p := ⟨w.heap.size, 0, none⟩) (fun _ => rfl) _).setCell (p := ⟨w.heap.size, 1, none⟩) (fun _ => rfl) _)
          have HF9 := hid (show Fr Nothing w ((wr.setCell ⟨w.heap.size, 0, none⟩ (Value.slice aoi n ci)).setCell ⟨w.heap.size, 1, none⟩ (Value.slice (some ⟨bn, 0, none⟩) n n)) from F9.out.trans F10.out (fun i hi q => by omega))
          go_wp2_with fail
          refine bodyPost_ret (v := .agg #[Value.slice aoi n ci, Value.slice (some ⟨bn, 0, none⟩) n n]) ?_ rfl ?_
          · rw [results_cell1 rfl]
            show ((asAddr (Value.pointer (some ⟨w.heap.size, 0, none⟩))).run Try.prog _).andThen _ = _
            simp only [asAddr, Sem.run_pure, Result.andThen]
            rw [load52 _ _ _ _ C10.out]
          · have hB := HBN.out
            refine ⟨aoi, ci, bn, ao, c, rfl, ?_, ?_, ?_, HF9.out⟩
            · refine ((S6.out.fr hF7.out (fun _ _ q => q)).fr F10.out (fun g hg q => ?_))
              have := A3.out g hg
              omega
            · refine (R5.out.low (by omega)).fr F10.out (fun q => by omega) (fun i hi b hb q => ?_)
              have := (R5.out.far i hi b hb).1
              omega
            · intro g hg
              have h1 := A3.out g hg
              have h2 := S6.out.lt hg
              refine ⟨by omega, by omega, fun i hi q => ?_⟩
              have := (R5.out.far i hi g q).1
              omega
end Go.Proofs.Qxb6615025a
