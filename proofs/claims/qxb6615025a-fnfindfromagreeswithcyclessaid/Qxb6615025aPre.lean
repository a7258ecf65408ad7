/-
  preorder (38).
-/
import Derived.Test.Qxb6615025aGrow
namespace Go.Proofs.Qxb6615025a
open Go.RowKit

/-! ### preorder, as plain functions -/
def ones (rc : List Nat) (sz : Nat → Int) : Nat → Int := rc.foldl (fun s v => upd s v 1) sz

/-- The sizes when m nodes have been taken from the end. -/
def sizeAt (fr : Nat → Int) (rc : List Nat) (sz : Nat → Int) : Nat → Nat → Int
  | 0 => ones rc sz
  | m + 1 => upd (sizeAt fr rc sz m) (fr (rc.getD (rc.length - 1 - m) 0)).toNat (sizeAt fr rc sz m (fr (rc.getD (rc.length - 1 - m) 0)).toNat + sizeAt fr rc sz m (rc.getD (rc.length - 1 - m) 0))

def sizeF (fr : Nat → Int) (rc : List Nat) (sz : Nat → Int) : Nat → Int := sizeAt fr rc sz (rc.length - 1)

/-- The places when the nodes 1 to m have theirs. -/
def posAt (fr : Nat → Int) (rc : List Nat) (sz ps : Nat → Int) : Nat → Nat → Int
  | 0 => upd ps (rc.getD 0 0) 0
  | m + 1 => upd (posAt fr rc sz ps m) (rc.getD (m + 1) 0)
      (if fr (rc.getD m 0) = fr (rc.getD (m + 1) 0) then posAt fr rc sz ps m (rc.getD m 0) + sz (rc.getD m 0) else posAt fr rc sz ps m (fr (rc.getD (m + 1) 0)).toNat + 1)

def posF (fr : Nat → Int) (rc : List Nat) (sz ps : Nat → Int) : Nat → Int := posAt fr rc sz ps (rc.length - 1)

def orderF (rc : List Nat) (ps : Nat → Int) : Nat → Int := rc.foldl (fun o v => upd o (ps v).toNat v) (fun _ => 0)

set_option maxRecDepth 100000 in
set_option maxHeartbeats 4000000 in
theorem preorder_any (bf b0 b1 b2 b3 n : Nat) (fr dp size pos : Nat → Int) (br cr : Nat) (rc : List Nat) (w : World)
    (hF : Fo w bf b0 b1 b2 b3 n fr dp size pos) (hrc : Sl w 3 1 (some ⟨br, 0, none⟩) rc.length cr (ints rc)) (hlen0 : 0 < rc.length) (hlen : rc.length ≤ 1024)
    (hlt : ∀ v ∈ rc, v < n) (hfr : ∀ k, 0 < k → k < rc.length → ∃ i, i < k ∧ fr (rc.getD k 0) = (rc.getD i 0 : Int))
    (hS : ∀ m, m ≤ rc.length - 1 → ∀ v ∈ rc, 0 ≤ sizeAt fr rc size m v ∧ sizeAt fr rc size m v ≤ 4096)
    (hP : ∀ m, m ≤ rc.length - 1 → ∀ j, j ≤ m → 0 ≤ posAt fr rc (sizeF fr rc size) pos m (rc.getD j 0) ∧ posAt fr rc (sizeF fr rc size) pos m (rc.getD j 0) ≤ 4096)
    (hL : ∀ v ∈ rc, posF fr rc (sizeF fr rc size) pos v < rc.length)
    (hd : br ∉ [bf, b0, b1, b2, b3]) :
    Calls Try.prog 38 #[.pointer (some ⟨bf, 0, none⟩), .slice (some ⟨br, 0, none⟩) rc.length cr] w fun e w' => ∃ bo,
      e = .returned (.slice (some ⟨bo, 0, none⟩) rc.length rc.length) ∧ Ints w' bo rc.length (orderF rc (posF fr rc (sizeF fr rc size) pos)) ∧
      Fo w' bf b0 b1 b2 b3 n fr dp (sizeF fr rc size) (posF fr rc (sizeF fr rc size) pos) ∧ Fr (fun k => k = b2 ∨ k = b3) w w' ∧ w.heap.size ≤ bo := by
  have hnd := hF.nd
  simp at hnd hd
  have n2 : br ≠ b2 := hd.2.2.2.1
  have n3 : br ≠ b3 := hd.2.2.2.2
  have x2 : b0 ≠ b2 := fun q => hnd.2.1.2.1 q
  have x3 : b0 ≠ b3 := fun q => hnd.2.1.2.2 q
  have x4 : bf ≠ b2 := fun q => hnd.1.2.2.1 q
  have x5 : bf ≠ b3 := fun q => hnd.1.2.2.2 q
  have x6 : b2 ≠ b3 := fun q => hnd.2.2.2 q
  have hb2 := hF.lt b2 (by simp)
  have hb3 := hF.lt b3 (by simp)
  clear hnd hd
  have HF := hid hF
  have HR := hid hrc
  have HLT := hid hlt
  have HFR := hid hfr
  have HS := hid hS
  have HP := hid hP
  have HL := hid hL
  have get : ∀ k, k < rc.length → ∃ v, rc.getD k 0 = v ∧ v < n ∧ v ∈ rc ∧ (ints rc)[k]? = some (.int .i64 (v : Int)) := fun k hk =>
    ⟨rc[k], by simp [hk], hlt _ (List.getElem_mem hk), List.getElem_mem hk, by simp [ints, hk]⟩
  have GET := hid get
  clear hF hrc hlt hfr hS hP hL get
  go_enter Try.func38, Try.ntmps38
  go_wp2
  go_loopg [6, 17] rc.length (fun gg s6 s17 wr => ∃ k, gg + k = rc.length ∧ s17 = .int .i64 (k : Int) ∧ Hid (Sl wr 3 1 (some ⟨br, 0, none⟩) rc.length cr (ints rc)) ∧ Hid (Fo wr bf b0 b1 b2 b3 n fr dp ((rc.take k).foldl (fun s v => upd s v 1) size) pos) ∧ Hid (Fr (fun k => k = b2 ∨ k = b3) w wr))
  case atStart => exact ⟨0, by omega, rfl, HR, hid (by simpa using HF.out), hid (Fr.refl _ w)⟩
  case round =>
    obtain ⟨k, hgk, rfl, hSl, hFo, hR⟩ := hrel
    by_cases hk : k < rc.length
    · obtain ⟨v, hgv, hv, hvm, hx⟩ := GET.out k hk
      have q1 : wr.cell? ⟨br, k, none⟩ = some (.int .i64 (v : Int)) := by
        obtain ⟨b, hb, hc⟩ := hSl.out.cell hx
        simp at hb
        subst hb
        exact hc
      have c2 := hFo.out.str.cell 2
      simp at c2
      have e2 := hFo.out.i2.cell hv
      have z2 := hFo.out.i2.frozen v
      have hv2 : rc[k] = v := by simpa [hk] using hgv
      have HV2 := hid hv2
      clear hgv hx hv2
      go_wp2
      go_roundg (gk - 1)
      case measure => omega
      case rel =>
        refine ⟨k + 1, by omega, by go_num, hid (hSl.out.setOther (p := ⟨b2, v, none⟩) (by simpa [blk] using n2) _), hid ?_, hid (hR.out.setCell (p := ⟨b2, v, none⟩) (fun _ => .inl rfl) _)⟩
        rw [List.take_succ_eq_append_getElem hk, List.foldl_append, HV2.out]
        exact hFo.out.setSize v 1
    · have hk2 : k = rc.length := by omega
      subst hk2
      have F1 := hid (show Fo wr bf b0 b1 b2 b3 n fr dp (sizeAt fr rc size 0) pos by have := hFo.out; rw [List.take_length] at this; exact this)
      clear hFo
      go_wp2
      go_loopg [7, 8] rc.length (fun gg s7 s8 wr => ∃ m, gg + m = rc.length ∧ m ≤ rc.length - 1 ∧ s7 = .int .i64 ((rc.length - 1 - m : Nat) : Int) ∧ Hid (Sl wr 3 1 (some ⟨br, 0, none⟩) rc.length cr (ints rc)) ∧ Hid (Fo wr bf b0 b1 b2 b3 n fr dp (sizeAt fr rc size m) pos) ∧ Hid (Fr (fun k => k = b2 ∨ k = b3) w wr))
      case atStart => exact ⟨0, by omega, by omega, by go_num, hSl, F1, hR⟩
      case round =>
        obtain ⟨m, hgm, hm, rfl, hSl, hFo, hR⟩ := hrel
        obtain ⟨k, hk⟩ : ∃ k, k = rc.length - 1 - m := ⟨_, rfl⟩
        rw [← hk]
        by_cases hk0 : 0 < k
        · have hkl : k < rc.length := by omega
          obtain ⟨v, hgv, hv, hvm, hx⟩ := GET.out k (by omega)
          have q1 : wr.cell? ⟨br, k, none⟩ = some (.int .i64 (v : Int)) := by
            obtain ⟨b, hb, hc⟩ := hSl.out.cell hx
            simp at hb
            subst hb
            exact hc
          obtain ⟨i, hik, hfi⟩ := HFR.out k hk0 (by omega)
          obtain ⟨p, hgp, hp, hpm, _⟩ := GET.out i (by omega)
          rw [hgv, hgp] at hfi
          have c0 := hFo.out.str.cell 0
          have c2 := hFo.out.str.cell 2
          simp at c0 c2
          have e0 := hFo.out.i0.cell hv
          rw [hfi] at e0
          have e2 := hFo.out.i2.cell hv
          have e3 := hFo.out.i2.cell hp
          have z2 := hFo.out.i2.frozen p
          obtain ⟨y1, y2⟩ := HS.out m hm v hvm
          obtain ⟨y3, y4⟩ := HS.out m hm p hpm
          have hst : sizeAt fr rc size (m + 1) = upd (sizeAt fr rc size m) p (sizeAt fr rc size m p + sizeAt fr rc size m v) := by
            simp only [sizeAt]
            rw [← hk, hgv, hfi]
            rfl
          obtain ⟨sv, hsv⟩ : ∃ sv, sizeAt fr rc size m v = sv := ⟨_, rfl⟩
          obtain ⟨sp, hsp⟩ : ∃ sp, sizeAt fr rc size m p = sp := ⟨_, rfl⟩
          rw [hsv] at e2 y1 y2 hst
          rw [hsp] at e3 y3 y4 hst
          have HST := hid hst
          have HKm := hid hk
          clear hgv hgp hx hfi hst hk hsv hsp
          go_upto_region 10 with fail
          go_region
          go_wp2
          go_roundg (gk - 1)
          case measure => omega
          case rel =>
            have hk := HKm.out
            refine ⟨m + 1, by omega, by omega, by go_num, hid ((hSl.out.setOther (p := ⟨b2, p, none⟩) (by simpa [blk] using n2) _).drew), hid ?_, hid ((hR.out.setCell (p := ⟨b2, p, none⟩) (fun _ => .inl rfl) _).drew)⟩
            rw [HST.out]
            exact (hFo.out.setSize p _).drew
        · have hmm : m = rc.length - 1 := by omega
          have F2 := hid (show Fo wr bf b0 b1 b2 b3 n fr dp (sizeF fr rc size) pos by have := hFo.out; rw [hmm] at this; exact this)
          have HSm := hid (show ∀ v ∈ rc, 0 ≤ sizeF fr rc size v ∧ sizeF fr rc size v ≤ 4096 from HS.out (rc.length - 1) (by omega))
          clear hFo
          obtain ⟨v, hgv, hv, hvm, hx⟩ := GET.out 0 (by omega)
          have q1 : wr.cell? ⟨br, 0, none⟩ = some (.int .i64 (v : Int)) := by
            obtain ⟨b, hb, hc⟩ := hSl.out.cell hx
            simp at hb
            subst hb
            exact hc
          have c3 := F2.out.str.cell 3
          simp at c3
          have e3 := F2.out.i3.cell hv
          have z3 := F2.out.i3.frozen v
          rw [show (k : Int) = 0 by omega]
          go_upto_region 11 with fail
          go_region
          have F3 := hid ((F2.out.setPos v 0).drew)
          have R3 := hid ((hR.out.setCell (p := ⟨b3, v, none⟩) (fun _ => .inr rfl) (.int .i64 0)).drew)
          have S3 := hid ((hSl.out.setOther (p := ⟨b3, v, none⟩) (by simpa [blk] using n3) (.int .i64 0)).drew)
          have hp0 : posAt fr rc (sizeF fr rc size) pos 0 = upd pos v 0 := by simp only [posAt]; rw [hgv]
          rw [← hp0] at F3
          clear hSl hR F2 c3 e3 z3 q1 hgv hx hp0
          generalize (wr.setCell ⟨b3, v, none⟩ (.int .i64 0)).drew = w3 at *
          go_wp2
          go_loopg [9, 10, 11] rc.length (fun gg s9 s10 s11 wr => ∃ m, gg + m = rc.length ∧ m ≤ rc.length - 1 ∧ s9 = .int .i64 ((m + 1 : Nat) : Int) ∧ Hid (Sl wr 3 1 (some ⟨br, 0, none⟩) rc.length cr (ints rc)) ∧ Hid (Fo wr bf b0 b1 b2 b3 n fr dp (sizeF fr rc size) (posAt fr rc (sizeF fr rc size) pos m)) ∧ Hid (Fr (fun k => k = b2 ∨ k = b3) w wr))
          case atStart => exact ⟨0, by omega, by omega, by go_num, S3, F3, R3⟩
          case round =>
            obtain ⟨m, hgm, hm, rfl, hSl, hFo, hR⟩ := hrel
            by_cases hm1 : m + 1 < rc.length
            · obtain ⟨v, hgv, hv, hvm, hx⟩ := GET.out (m + 1) (by omega)
              obtain ⟨b, hgb, hb, hbm, hy⟩ := GET.out m (by omega)
              have hm2 : m < rc.length := by omega
              have q1 : wr.cell? ⟨br, m + 1, none⟩ = some (.int .i64 (v : Int)) := by
                obtain ⟨b, hb, hc⟩ := hSl.out.cell hx
                simp at hb
                subst hb
                exact hc
              have q2 : wr.cell? ⟨br, m, none⟩ = some (.int .i64 (b : Int)) := by
                obtain ⟨b, hb, hc⟩ := hSl.out.cell hy
                simp at hb
                subst hb
                exact hc
              obtain ⟨i, hik, hfi⟩ := HFR.out (m + 1) (by omega) (by omega)
              obtain ⟨p, hgp, hp, hpm, _⟩ := GET.out i (by omega)
              rw [hgv, hgp] at hfi
              have c0 := hFo.out.str.cell 0
              have c2 := hFo.out.str.cell 2
              have c3 := hFo.out.str.cell 3
              simp at c0 c2 c3
              have e0 := hFo.out.i0.cell hv
              rw [hfi] at e0
              have e1 := hFo.out.i0.cell hb
              have e2 := hFo.out.i2.cell hb
              have e3 := hFo.out.i3.cell hb
              have e4 := hFo.out.i3.cell hp
              have e5 := hFo.out.i3.cell hv
              have z3 := hFo.out.i3.frozen v
              obtain ⟨y1, y2⟩ := HSm.out b hbm
              have y34 := HP.out m hm m (by omega)
              have y56 := HP.out m hm i (by omega)
              rw [hgb] at y34
              rw [hgp] at y56
              obtain ⟨y3, y4⟩ := y34
              obtain ⟨y5, y6⟩ := y56
              have hst : posAt fr rc (sizeF fr rc size) pos (m + 1) = upd (posAt fr rc (sizeF fr rc size) pos m) v (if fr b = p then posAt fr rc (sizeF fr rc size) pos m b + sizeF fr rc size b else posAt fr rc (sizeF fr rc size) pos m p + 1) := by
                simp only [posAt]
                rw [hgv, hgb, hfi]
                rfl
              obtain ⟨pb, hpb⟩ : ∃ x, posAt fr rc (sizeF fr rc size) pos m b = x := ⟨_, rfl⟩
              obtain ⟨pp, hpp⟩ : ∃ x, posAt fr rc (sizeF fr rc size) pos m p = x := ⟨_, rfl⟩
              obtain ⟨pv, hpv⟩ : ∃ x, posAt fr rc (sizeF fr rc size) pos m v = x := ⟨_, rfl⟩
              obtain ⟨sb, hsb⟩ : ∃ x, sizeF fr rc size b = x := ⟨_, rfl⟩
              obtain ⟨fb, hfb⟩ : ∃ x, fr b = x := ⟨_, rfl⟩
              rw [hpb] at e3 y3 y4 hst
              rw [hpp] at e4 y5 y6 hst
              rw [hpv] at e5
              rw [hsb] at e2 y1 y2 hst
              rw [hfb] at e1 hst
              have HST := hid hst
              clear hgv hgb hgp hx hy hfi hst hpb hpp hpv hsb hfb
              have k1 : ((m + 1 : Nat) : Int) - 1 = (m : Int) := by omega
              by_cases hcase : fb = p
              · subst hcase
                go_wp2
                go_quiet (fail)
                go_wp2
                go_quiet (fail)
                go_wp2
                go_upto_region 17 with fail
                go_region
                go_wp2
                go_roundg (gk - 1)
                case measure => omega
                case rel =>
                  refine ⟨m + 1, by omega, by omega, by go_num, hid ((hSl.out.drewN _).setOther (p := ⟨b3, v, none⟩) (by simpa [blk] using n3) _), hid ?_, hid ((hR.out.drewN _).setCell (p := ⟨b3, v, none⟩) (fun _ => .inr rfl) _)⟩
                  rw [HST.out, if_pos trivial]
                  exact (hFo.out.drewN _).setPos v _
              · have hcb : (fb == (p : Int)) = false := by simpa using hcase
                go_wp2
                go_quiet (fail)
                go_wp2
                go_quiet (fail)
                go_wp2
                go_upto_region 18 with fail
                go_region
                go_wp2
                go_roundg (gk - 1)
                case measure => omega
                case rel =>
                  refine ⟨m + 1, by omega, by omega, by go_num, hid ((hSl.out.drewN _).setOther (p := ⟨b3, v, none⟩) (by simpa [blk] using n3) _), hid ?_, hid ((hR.out.drewN _).setCell (p := ⟨b3, v, none⟩) (fun _ => .inr rfl) _)⟩
                  rw [HST.out, if_neg hcase]
                  exact (hFo.out.drewN _).setPos v _
            · have hm3 : m = rc.length - 1 := by omega
              have F4 := hid (show Fo wr bf b0 b1 b2 b3 n fr dp (sizeF fr rc size) (posF fr rc (sizeF fr rc size) pos) by have := hFo.out; rw [hm3] at this; exact this)
              have hmk := run_make1 el33 rfl wr rc.length (by omega)
              have HPF := hid (fun j (hj : j < rc.length) => HP.out (rc.length - 1) (by omega) j (by omega))
              have hsz := hR.out.size
              obtain ⟨bo, hbo⟩ : ∃ bo, bo = wr.heap.size := ⟨_, rfl⟩
              rw [← hbo] at hmk hsz
              have O0 := hid (Ints.newAt wr rc.length _ hbo.symm)
              clear hFo hbo
              go_wp2
              go_loopg [14, 145] rc.length (fun gg s14 s145 wr2 => ∃ k, gg + k = rc.length ∧ s145 = .int .i64 (k : Int) ∧ Hid (Sl wr2 3 1 (some ⟨br, 0, none⟩) rc.length cr (ints rc)) ∧ Hid (Fo wr2 bf b0 b1 b2 b3 n fr dp (sizeF fr rc size) (posF fr rc (sizeF fr rc size) pos)) ∧ Hid (Fr (fun k => k = b2 ∨ k = b3) w wr2) ∧ Hid (Ints wr2 bo rc.length ((rc.take k).foldl (fun o v => upd o (posF fr rc (sizeF fr rc size) pos v).toNat v) (fun _ => 0))))
              case atStart => exact ⟨0, by omega, rfl, hid (hSl.out.alloc _), hid (F4.out.fr (M := Nothing) ((Fr.refl _ wr).alloc _) (fun _ _ q => q)), hid (hR.out.alloc _), hid (by simpa using O0.out)⟩
              case round =>
                obtain ⟨k, hgk, rfl, hSl2, hFo2, hR2, hO⟩ := hrel
                by_cases hk : k < rc.length
                · obtain ⟨v, hgv, hv, hvm, hx⟩ := GET.out k hk
                  have q1 : wr.cell? ⟨br, k, none⟩ = some (.int .i64 (v : Int)) := by
                    obtain ⟨b, hb, hc⟩ := hSl2.out.cell hx
                    simp at hb
                    subst hb
                    exact hc
                  have hp1 := HPF.out k hk
                  rw [hgv] at hp1
                  have hp1' : 0 ≤ posF fr rc (sizeF fr rc size) pos v := hp1.1
                  have hp2 := HL.out v hvm
                  obtain ⟨t, ht⟩ : ∃ t : Nat, posF fr rc (sizeF fr rc size) pos v = t := ⟨(posF fr rc (sizeF fr rc size) pos v).toNat, by omega⟩
                  have ht2 : t < rc.length := by omega
                  have c3 := hFo2.out.str.cell 3
                  simp at c3
                  have e3 := hFo2.out.i3.cell hv
                  rw [ht] at e3
                  have e4 := hO.out.cell ht2
                  have z4 := hO.out.frozen t
                  have HV := hid (show rc[k] = v by simpa [hk] using hgv)
                  have HT := hid ht
                  have hbb := HF.out.lt
                  have hob2 : bo ≠ b2 := by omega
                  have hob3 : bo ≠ b3 := by omega
                  have hobr : br ≠ bo := by have := HR.out.lt rfl; simp at this; omega
                  have hobb : ∀ b ∈ [bf, b0, b1, b2, b3], ¬ b = bo := fun b hb q => by have := hbb b hb; omega
                  have HBB := hid hobb
                  clear hgv hx hp1 hp1' hp2 ht hbb hobb
                  go_wp2
                  go_roundg (gk - 1)
                  case measure => omega
                  case rel =>
                    refine ⟨k + 1, by omega, by go_num, hid (hSl2.out.setOther (p := ⟨bo, t, none⟩) (by simpa [blk] using hobr) _), hid ?_, hid (hR2.out.setCell (p := ⟨bo, t, none⟩) (fun q => by simp at q; omega) _), hid ?_⟩
                    · exact hFo2.out.fr (M := fun b => b = bo) ((Fr.refl (fun b => b = bo) wr).setCell (p := ⟨bo, t, none⟩) (fun _ => rfl) _) HBB.out
                    · rw [List.take_succ_eq_append_getElem hk, List.foldl_append, HV.out]
                      simp only [List.foldl_cons, List.foldl_nil]
                      rw [HT.out]
                      exact hO.out.set t v
                · have hk2 : k = rc.length := by omega
                  subst hk2
                  go_wp2
                  go_ret
                  refine ⟨bo, rfl, ?_, hFo2.out, hR2.out, hsz⟩
                  have := hO.out
                  rw [List.take_length] at this
                  exact this
end Go.Proofs.Qxb6615025a
