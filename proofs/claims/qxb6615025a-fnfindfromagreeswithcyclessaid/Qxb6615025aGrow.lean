/-
  Rows of edges in memory; grow (37).
-/
import Derived.Test.Qxb6615025aForest
import Derived.Test.Qxb6615025aBfs
namespace Go.Proofs.Qxb6615025a
open Go.RowKit

def ints (l : List Nat) : List Value := l.map fun x : Nat => .int .i64 (x : Int)

/-- Rows of numbers in memory: the edges. -/
structure Adj (w : World) (bn n : Nat) (ao : Nat → Option Addr) (c : Nat → Nat) (g : Nat → List Nat) : Prop where
  arr : Arr w bn 33 n fun i => .slice (ao i) (g i).length (c i)
  row : ∀ i, i < n → Sl w 3 1 (ao i) (g i).length (c i) (ints (g i))

theorem Adj.fr {M : Nat → Prop} {w w' : World} {bn n : Nat} {ao : Nat → Option Addr} {c : Nat → Nat} {g : Nat → List Nat} (h : Adj w bn n ao c g) (hf : Fr M w w') (h1 : ¬ M bn) (h2 : ∀ i, i < n → ∀ b, blk (ao i) = some b → ¬ M b) : Adj w' bn n ao c g :=
  ⟨Arr.fr h.arr hf h1, fun i hi => (h.row i hi).fr hf (h2 i hi)⟩


theorem Fo.setFrom {w : World} {bf b0 b1 b2 b3 n : Nat} {f d s p : Nat → Int} (h : Fo w bf b0 b1 b2 b3 n f d s p) (i : Nat) (v : Int) : Fo (w.setCell ⟨b0, i, none⟩ (.int .i64 v)) bf b0 b1 b2 b3 n (upd f i v) d s p := by
  have hd := h.nd
  simp at hd
  obtain ⟨⟨x1, x2, x3, x4⟩, ⟨y1, y2, y3⟩, ⟨z1, z2⟩, u⟩ := hd
  exact ⟨h.str.setOther x1 _, Ints.set h.i0 i v, Arr.setOther h.i1 (fun q => y1 q.symm) _, Arr.setOther h.i2 (fun q => y2 q.symm) _, Arr.setOther h.i3 (fun q => y3 q.symm) _, h.nd⟩
theorem Fo.setDepth {w : World} {bf b0 b1 b2 b3 n : Nat} {f d s p : Nat → Int} (h : Fo w bf b0 b1 b2 b3 n f d s p) (i : Nat) (v : Int) : Fo (w.setCell ⟨b1, i, none⟩ (.int .i64 v)) bf b0 b1 b2 b3 n f (upd d i v) s p := by
  have hd := h.nd
  simp at hd
  obtain ⟨⟨x1, x2, x3, x4⟩, ⟨y1, y2, y3⟩, ⟨z1, z2⟩, u⟩ := hd
  exact ⟨h.str.setOther x2 _, Arr.setOther h.i0 y1 _, Ints.set h.i1 i v, Arr.setOther h.i2 (fun q => z1 q.symm) _, Arr.setOther h.i3 (fun q => z2 q.symm) _, h.nd⟩
theorem Fo.setSize {w : World} {bf b0 b1 b2 b3 n : Nat} {f d s p : Nat → Int} (h : Fo w bf b0 b1 b2 b3 n f d s p) (i : Nat) (v : Int) : Fo (w.setCell ⟨b2, i, none⟩ (.int .i64 v)) bf b0 b1 b2 b3 n f d (upd s i v) p := by
  have hd := h.nd
  simp at hd
  obtain ⟨⟨x1, x2, x3, x4⟩, ⟨y1, y2, y3⟩, ⟨z1, z2⟩, u⟩ := hd
  exact ⟨h.str.setOther x3 _, Arr.setOther h.i0 y2 _, Arr.setOther h.i1 z1 _, Ints.set h.i2 i v, Arr.setOther h.i3 (fun q => u q.symm) _, h.nd⟩
theorem Fo.setPos {w : World} {bf b0 b1 b2 b3 n : Nat} {f d s p : Nat → Int} (h : Fo w bf b0 b1 b2 b3 n f d s p) (i : Nat) (v : Int) : Fo (w.setCell ⟨b3, i, none⟩ (.int .i64 v)) bf b0 b1 b2 b3 n f d s (upd p i v) := by
  have hd := h.nd
  simp at hd
  obtain ⟨⟨x1, x2, x3, x4⟩, ⟨y1, y2, y3⟩, ⟨z1, z2⟩, u⟩ := hd
  exact ⟨h.str.setOther x4 _, Arr.setOther h.i0 y3 _, Arr.setOther h.i1 z2 _, Arr.setOther h.i2 u _, Ints.set h.i3 i v, h.nd⟩
theorem Fo.of_heap {w w' : World} {bf b0 b1 b2 b3 n : Nat} {f d s p : Nat → Int} (h : Fo w bf b0 b1 b2 b3 n f d s p) (hb : ∀ b, b ∈ [bf, b0, b1, b2, b3] → w'.heap[b]? = w.heap[b]?) : Fo w' bf b0 b1 b2 b3 n f d s p :=
  ⟨h.str.of_heap (hb _ (by simp)), Arr.of_heap h.i0 (hb _ (by simp)), Arr.of_heap h.i1 (hb _ (by simp)), Arr.of_heap h.i2 (hb _ (by simp)), Arr.of_heap h.i3 (hb _ (by simp)), h.nd⟩
theorem Fo.lt {w : World} {bf b0 b1 b2 b3 n : Nat} {f d s p : Nat → Int} (h : Fo w bf b0 b1 b2 b3 n f d s p) : ∀ b, b ∈ [bf, b0, b1, b2, b3] → b < w.heap.size := by
  intro b hb
  simp at hb
  rcases hb with rfl | rfl | rfl | rfl | rfl
  · exact h.str.lt
  · exact Arr.lt h.i0
  · exact Arr.lt h.i1
  · exact Arr.lt h.i2
  · exact Arr.lt h.i3
theorem Fo.fr {M : Nat → Prop} {w w' : World} {bf b0 b1 b2 b3 n : Nat} {f d s p : Nat → Int} (h : Fo w bf b0 b1 b2 b3 n f d s p) (hf : Fr M w w') (hm : ∀ b, b ∈ [bf, b0, b1, b2, b3] → ¬ M b) : Fo w' bf b0 b1 b2 b3 n f d s p :=
  h.of_heap fun b hb => hf.block b (h.lt b hb) (hm b hb)
theorem Fo.drew {w : World} {bf b0 b1 b2 b3 n : Nat} {f d s p : Nat → Int} (h : Fo w bf b0 b1 b2 b3 n f d s p) : Fo w.drew bf b0 b1 b2 b3 n f d s p := h.of_heap fun _ _ => rfl
theorem Fo.drewN {w : World} {bf b0 b1 b2 b3 n : Nat} {f d s p : Nat → Int} (h : Fo w bf b0 b1 b2 b3 n f d s p) (k : Nat) : Fo (w.drewN k) bf b0 b1 b2 b3 n f d s p := h.of_heap fun _ _ => rfl

set_option maxRecDepth 100000 in
set_option maxHeartbeats 2000000 in
theorem grow_any (bf b0 b1 b2 b3 n : Nat) (fr dp size pos : Nat → Int) (bn : Nat) (ao : Nat → Option Addr) (c : Nat → Nat) (g : Nat → List Nat) (start f : Nat) (cap : Array Value) (within : Nat → Bool) (w : World)
    (hF : Fo w bf b0 b1 b2 b3 n fr dp size pos) (hA : Adj w bn n ao c g) (hg : ∀ i, i < n → ∀ x ∈ g i, x < n) (hgl : ∀ i, i < n → (g i).length ≤ 1048576) (hs : start < n) (hn : n ≤ 1024)
    (hcf : ∀ args w', (callFunc f args).run Try.prog w' = .ok (.enter f args) w')
    (hw : ∀ v w', v < n → Fr (fun k => k = b0 ∨ k = b1) w w' → Calls Try.prog f (#[.int .i64 v] ++ cap) w' fun e w'' => e = .returned (.bool (within v)) ∧ ∃ k, w'' = w'.drewN k)
    (d1 : bn ≠ b0 ∧ bn ≠ b1) (d2 : ∀ i, i < n → blk (ao i) ≠ some b0 ∧ blk (ao i) ≠ some b1) :
    Calls Try.prog 37 #[.pointer (some ⟨bf, 0, none⟩), .slice (some ⟨bn, 0, none⟩) n n, .int .i64 start, .func (.func f) #[] cap, Value.nilFunc] w fun e w' => ∃ br cr,
      e = .returned (.tuple #[.slice (some ⟨br, 0, none⟩) (growL within g (n + 1) 0 (grow0 fr dp start)).rc.length cr, .int .i64 (-1)]) ∧
      Sl w' 3 1 (some ⟨br, 0, none⟩) (growL within g (n + 1) 0 (grow0 fr dp start)).rc.length cr (ints (growL within g (n + 1) 0 (grow0 fr dp start)).rc) ∧
      Fo w' bf b0 b1 b2 b3 n (growL within g (n + 1) 0 (grow0 fr dp start)).fr (growL within g (n + 1) 0 (grow0 fr dp start)).dp size pos ∧
      Fr (fun k => k = b0 ∨ k = b1) w w' ∧ w.heap.size ≤ br ∧ GI n (growL within g (n + 1) 0 (grow0 fr dp start)) := by
  have c0 := hF.str.cell 0
  have c1 := hF.str.cell 1
  have e0 := hF.i0.cell hs
  have e1 := hF.i1.cell hs
  have z0 := hF.i0.frozen start
  have z1 := hF.i1.frozen start
  simp at c0 c1
  have hb0 := Arr.lt hF.i0
  have hb1 := Arr.lt hF.i1
  have hnd := hF.nd
  simp at hnd
  have hne : b0 ≠ b1 := fun q => hnd.2.1.1 q
  have hf0 : bf ≠ b0 := fun q => hnd.1.1 q
  have hf1 : bf ≠ b1 := fun q => hnd.1.2.1 q
  clear hnd
  have HF := hid hF
  have HA := hid hA
  have HG := hid hg
  have HGL := hid hgl
  have HW := hid hw
  have D1 := hid d1
  have D2 := hid d2
  clear hF hA hg hgl hw d1 d2
  have hnf : ∀ w : World, (binOp BinOp.neq 64 Value.nilFunc Value.nilFunc).run Try.prog w = .ok (.bool false) w := fun w => by kernel_rfl
  go_enter Try.func37, Try.ntmps37
  go_upto_region 1 with fail
  go_region
  have F1 := hid (((HF.out.setFrom start (-1)).setDepth start 0).drew)
  have R1 := hid ((((Fr.refl (fun k => k = b0 ∨ k = b1) w).setCell (p := ⟨b0, start, none⟩) (fun _ => .inl rfl) (.int .i64 (-1))).setCell (p := ⟨b1, start, none⟩) (fun _ => .inr rfl) (.int .i64 0)).drew)
  clear c0 c1 e0 e1 z0 z1
  generalize ((w.setCell ⟨b0, start, none⟩ (.int .i64 (-1))).setCell ⟨b1, start, none⟩ (.int .i64 0)).drew = w1 at *
  have hsz := R1.out.size
  go_wp2
  go_loopg [12, 13] (n + 1) (fun gg s12 s13 wr => ∃ (k br cr : Nat) (s : GS), gg + k = n + 1 ∧ s13 = .int .i64 k ∧ s12 = .slice (some ⟨br, 0, none⟩) s.rc.length cr ∧ k ≤ s.rc.length ∧
     w.heap.size ≤ br ∧ Hid (Sl wr 3 1 (some ⟨br, 0, none⟩) s.rc.length cr (ints s.rc)) ∧ Hid (Fo wr bf b0 b1 b2 b3 n s.fr s.dp size pos) ∧ Hid (Fr (fun k => k = b0 ∨ k = b1) w wr) ∧ Hid (GI n s) ∧ Hid (growL within g gg k s = growL within g (n + 1) 0 (grow0 fr dp start)))
  case atStart =>
    refine ⟨0, w1.heap.size, 1, grow0 fr dp start, by omega, rfl, rfl, by omega, hsz, hid ?_, hid ?_, hid (R1.out.alloc _), hid (GI.start fr dp hs), hid rfl⟩
    · exact Sl.mk (Rec.new w1 3 _) (by simp [grow0]) (by decide) (by simp) (by simp [grow0, ints])
    · exact F1.out.fr (M := Nothing) ((Fr.refl _ w1).alloc _) (fun _ _ q => q)
  case round =>
    obtain ⟨k, br, cr, s, hgk, rfl, rfl, hk, hbr, hS, hFo, hR, hGI, hL⟩ := hrel
    have hlen := hGI.out.len
    by_cases hk2 : k < s.rc.length
    · obtain ⟨gg, rfl⟩ : ∃ q, gk = q + 1 := ⟨gk - 1, by omega⟩
      have hu : s.rc[k] < n := hGI.out.lt _ (List.getElem_mem hk2)
      have humem : s.rc[k] ∈ s.rc := List.getElem_mem hk2
      have UMEM := hid humem
      have hL2 := hL.out
      rw [growL_step hk2] at hL2
      have HL2 := hid hL2
      have hx : (ints s.rc)[k]? = some (.int .i64 (s.rc[k] : Int)) := by simp [ints, hk2]
      generalize hU : s.rc[k] = u at *
      have q1 : wr.cell? ⟨br, k, none⟩ = some (.int .i64 (u : Int)) := by
        obtain ⟨b, hb, hc⟩ := hS.out.cell hx
        simp at hb
        subst hb
        exact hc
      have A1 := hid (HA.out.fr hR.out (by rintro (q | q); exact D1.out.1 q; exact D1.out.2 q) (fun i hi b hb => by rintro (q | q); exact (D2.out i hi).1 (q ▸ hb); exact (D2.out i hi).2 (q ▸ hb)))
      have q2 := Arr.cell A1.out.arr hu
      clear hL hL2 hx humem hU
      obtain ⟨au, hau⟩ : ∃ au, ao u = au := ⟨_, rfl⟩
      rw [hau] at q2
      go_wp2_with fail
      have hgu := HGL.out u hu
      go_loopg [12, 55] (g u).length (fun g2 s12 s55 wr2 => ∃ (j br2 cr2 : Nat) (s2 : GS), g2 + j = (g u).length ∧ s55 = .int .i64 j ∧ s12 = .slice (some ⟨br2, 0, none⟩) s2.rc.length cr2 ∧ k < s2.rc.length ∧
         w.heap.size ≤ br2 ∧ Hid (Sl wr2 3 1 (some ⟨br2, 0, none⟩) s2.rc.length cr2 (ints s2.rc)) ∧ Hid (Fo wr2 bf b0 b1 b2 b3 n s2.fr s2.dp size pos) ∧ Hid (Fr (fun k => k = b0 ∨ k = b1) w wr2) ∧ Hid (GI n s2) ∧ Hid (u ∈ s2.rc) ∧ Hid (((g u).drop j).foldl (visit within u) s2 = (g u).foldl (visit within u) s))
      case atStart => exact ⟨0, br, cr, s, by omega, rfl, rfl, hk2, hbr, hS, hFo, hR, hGI, UMEM, hid rfl⟩
      case round =>
        obtain ⟨j, br2, cr2, s2, hj, rfl, rfl, hk3, hbr2, hS2, hFo2, hR2, hGI2, hu2, hL3⟩ := hrel
        have hlen2 := hGI2.out.len
        by_cases hj2 : j < (g u).length
        · have hv : (g u)[j] < n := HG.out u hu _ (List.getElem_mem hj2)
          have hL4 := hL3.out
          rw [List.drop_eq_getElem_cons hj2, List.foldl_cons] at hL4
          have HL4 := hid hL4
          have hx : (ints (g u))[j]? = some (.int .i64 ((g u)[j] : Int)) := by simp [ints, hj2]
          generalize hV : (g u)[j] = v at *
          have A2 := hid (HA.out.fr hR2.out (by rintro (q | q); exact D1.out.1 q; exact D1.out.2 q) (fun i hi b hb => by rintro (q | q); exact (D2.out i hi).1 (q ▸ hb); exact (D2.out i hi).2 (q ▸ hb)))
          obtain ⟨bx, hbx, q3⟩ := (A2.out.row u hu).cell hx
          rw [hau] at hbx
          have c0 := hFo2.out.str.cell 0
          have c1 := hFo2.out.str.cell 1
          have e0 := hFo2.out.i0.cell hv
          have e1 := hFo2.out.i1.cell hv
          have e2 := hFo2.out.i1.cell hu
          have z0 := hFo2.out.i0.frozen v
          have z1 := hFo2.out.i1.frozen v
          simp at c0 c1
          clear hL4 hx hV hL3
          by_cases hfr : s2.fr v = -2
          · rw [hfr] at e0
            by_cases hwi : within v = true
            · have hdu : 0 ≤ s2.dp u ∧ s2.dp u ≤ 1024 := by
                obtain ⟨i, hi, hiu⟩ := List.getElem_of_mem hu2.out
                have := hGI2.out.dp i hi
                rw [hiu] at this
                omega
              obtain ⟨hdu1, hdu2⟩ := hdu
              have hvis : visit within u s2 v = ⟨upd s2.fr v u, upd s2.dp v (s2.dp u + 1), s2.rc ++ [v]⟩ := by simp [visit, hfr, hwi]
              have HVIS := hid hvis
              have GI3 := hid (hGI2.out.visit (within := within) hu2.out hv)
              clear hvis hfr
              go_wp2_with fail
              refine (HW.out v wr hv hR2.out).mono ?_
              rintro e w2 ⟨rfl, m, rfl⟩
              rw [hwi]
              go_upto_region 13 with fail
              go_region
              have hbr0 : br2 ≠ b0 := by omega
              have hbr1 : br2 ≠ b1 := by omega
              have F3 := hid (((hFo2.out.drewN (m + 1)).setFrom v (u : Int)).setDepth v (s2.dp u + 1))
              have R3 := hid (((hR2.out.drewN (m + 1)).setCell (p := ⟨b0, v, none⟩) (fun _ => .inl rfl) (.int .i64 u)).setCell (p := ⟨b1, v, none⟩) (fun _ => .inr rfl) (.int .i64 (s2.dp u + 1)))
              have S3 := hid (((hS2.out.drewN (m + 1)).setOther (p := ⟨b0, v, none⟩) (by simpa [blk] using hbr0) (.int .i64 u)).setOther (p := ⟨b1, v, none⟩) (by simpa [blk] using hbr1) (.int .i64 (s2.dp u + 1)))
              clear hS2 hFo2 hR2 c0 c1 e0 e1 e2 z0 z1 q3 q1 q2 A2 A1
              generalize (((wr.drewN (m + 1)).setCell ⟨b0, v, none⟩ (.int .i64 u)).setCell ⟨b1, v, none⟩ (.int .i64 (s2.dp u + 1))) = w3 at *
              go_wp2_with (refine wpList_app _ _ rfl rfl el33 (some ⟨br2, 0, none⟩) s2.rc.length cr2 (ints s2.rc) rfl (S3.out.alloc _) w3.heap.size 3 #[.int .i64 v] rfl (Rec.new w3 3 _) rfl (by intro u hu; simp at hu; subst hu; rfl) (by omega) (w3.heap.size + 1) (World.size_alloc _ _) ?_; intro b4 c4 w4 k1 k2 k3 k4)
              rw [← hbx]
              go_roundg (gk - 1)
              case measure => omega
              case rel =>
                have hnew : w.heap.size ≤ b4 := by
                  rcases k3 with q | q
                  · simp [blk] at q; omega
                  · have := R3.out.size; omega
                have hf4 : Fr (fun k => k = br2) w3 w4 := ((Fr.refl _ w3).alloc _).grown k2 (fun k hk _ => by simpa [blk] using hk.symm)
                refine ⟨j + 1, b4, c4, visit within u s2 v, by omega, by go_num, ?_, ?_, hnew, hid ?_, hid ?_, hid ?_, GI3, hid ?_, HL4⟩
                · rw [HVIS.out]; simp
                · rw [HVIS.out]; simp; omega
                · rw [HVIS.out]; simpa [ints] using k1
                · rw [HVIS.out]
                  refine F3.out.fr hf4 fun b hb q => ?_
                  have := HF.out.lt b hb
                  omega
                · refine R3.out.trans hf4 fun i hi q => ?_
                  omega
                · rw [HVIS.out]; simp [hu2.out]
            · have hwi' : within v = false := by simpa using hwi
              have hvis : visit within u s2 v = s2 := by simp [visit, hwi']
              have HVIS := hid hvis
              clear hvis hfr
              go_wp2_with fail
              refine (HW.out v wr hv hR2.out).mono ?_
              rintro e w2 ⟨rfl, m, rfl⟩
              rw [hwi']
              go_wp2_with fail
              rw [← hbx]
              go_roundg (gk - 1)
              case measure => omega
              case rel => exact ⟨j + 1, br2, cr2, s2, by omega, by go_num, rfl, hk3, hbr2, hid (hS2.out.drewN m), hid (hFo2.out.drewN m), hid (hR2.out.drewN m), hGI2, hu2, hid (by rw [← HL4.out, HVIS.out])⟩
          · have hvis : visit within u s2 v = s2 := by simp [visit, hfr]
            have HVIS := hid hvis
            clear hvis
            have hfb : (s2.fr v == -2) = false := by simpa using hfr
            go_wp2_with fail
            rw [← hbx]
            go_roundg (gk - 1)
            case measure => omega
            case rel => exact ⟨j + 1, br2, cr2, s2, by omega, by go_num, rfl, hk3, hbr2, hS2, hFo2, hR2, hGI2, hu2, hid (by rw [← HL4.out, HVIS.out])⟩
        · have hj3 : j = (g u).length := by omega
          subst hj3
          have hL5 := hL3.out
          rw [List.drop_eq_nil_of_le (by omega)] at hL5
          have HL5 := hid hL5
          clear hL5 hL3
          go_wp2_with fail
          go_roundg gg
          case measure => omega
          case rel =>
            refine ⟨k + 1, br2, cr2, s2, by omega, by go_num, rfl, by omega, hbr2, hS2, hFo2, hR2, hGI2, hid ?_⟩
            rw [← HL2.out, ← HL5.out]; rfl
    · have hL2 := hL.out
      rw [growL_stop (by omega)] at hL2
      have HL2 := hid hL2
      clear hL hL2
      go_wp2_with fail
      go_ret2
      exact ⟨br, cr, by rw [← HL2.out]; rfl, by rw [← HL2.out]; exact hS.out, by rw [← HL2.out]; exact hFo.out, hR.out, hbr, by rw [← HL2.out]; exact hGI.out⟩
end Go.Proofs.Qxb6615025a
