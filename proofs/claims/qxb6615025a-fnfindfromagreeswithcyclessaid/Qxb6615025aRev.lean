/- Rows of numbers of the call's own; reversed (25). -/
import Derived.Test.Qxb6615025aGrow
namespace Go.Proofs.Qxb6615025a
open Go.RowKit

/-- Rows of numbers of the call's own, each in a block of its own. -/
structure Rw (H : Nat) (w : World) (bn n : Nat) (ao : Nat → Option Addr) (c : Nat → Nat) (g : Nat → List Nat) : Prop where
  adj : Adj w bn n ao c g
  far : ∀ i, i < n → ∀ b, blk (ao i) = some b → H ≤ b ∧ b ≠ bn
  dis : ∀ i j, i < n → j < n → i ≠ j → ∀ b, blk (ao i) = some b → blk (ao j) ≠ some b
  hb : H ≤ bn

theorem Rw.app {H : Nat} {w w1 : World} {bn n : Nat} {ao : Nat → Option Addr} {c : Nat → Nat} {g : Nat → List Nat} (h : Rw H w bn n ao c g) {i v g1 c1 : Nat} (hi : i < n)
    (k1 : Sl w1 3 1 (some ⟨g1, 0, none⟩) ((g i).length + 1) c1 (ints (g i) ++ [.int .i64 (v : Int)])) (hf : ∀ b, b < w.heap.size → blk (ao i) ≠ some b → w1.heap[b]? = w.heap[b]?) (hg : blk (ao i) = some g1 ∨ w.heap.size ≤ g1) :
    Rw H (w1.setCell ⟨bn, i, none⟩ (.slice (some ⟨g1, 0, none⟩) ((g i).length + 1) c1)) bn n (upd ao i (some ⟨g1, 0, none⟩)) (upd c i c1) (upd g i (g i ++ [v])) := by
  have hbn := Arr.lt h.adj.arr
  have hgb : g1 ≠ bn := by
    rcases hg with q | q
    · exact (h.far i hi g1 q).2
    · omega
  refine ⟨⟨?_, fun j hj => ?_⟩, fun j hj b hb => ?_, fun j k hj hk hjk b hb q => ?_, h.hb⟩
  · have h1 : Arr w1 bn 33 n _ := h.adj.arr.of_heap (hf bn hbn (fun q => (h.far i hi bn q).2 rfl))
    refine (h1.set i _).congr fun j hj => ?_
    by_cases e : j = i
    · subst e; simp
    · simp [upd_other _ _ e]
  · by_cases e : j = i
    · subst e
      simp only [upd_same, List.length_append, List.length_singleton]
      rw [show ints (g j ++ [v]) = ints (g j) ++ [.int .i64 (v : Int)] by simp [ints]]
      exact k1.setOther (p := ⟨bn, j, none⟩) (by simpa [blk] using hgb) _
    · rw [upd_other _ _ e, upd_other _ _ e, upd_other _ _ e]
      refine ((h.adj.row j hj).of_heap fun b hb => hf b ((h.adj.row j hj).lt hb) fun q => h.dis j i hj hi e b hb q).setOther (p := ⟨bn, i, none⟩) (fun q => (h.far j hj bn q).2 rfl) _
  · by_cases e : j = i
    · subst e
      rw [upd_same] at hb
      simp [blk] at hb
      subst hb
      rcases hg with q | q
      · exact h.far j hj _ q
      · exact ⟨by have := h.hb; omega, hgb⟩
    · rw [upd_other _ _ e] at hb
      exact h.far j hj b hb
  · by_cases e : j = i
    · have e2 : k ≠ i := by omega
      subst e
      rw [upd_same] at hb
      rw [upd_other _ _ e2] at q
      simp [blk] at hb
      subst hb
      rcases hg with r | r
      · exact h.dis j k hj hk hjk _ r q
      · have := (h.adj.row k hk).lt q
        omega
    · rw [upd_other _ _ e] at hb
      by_cases e2 : k = i
      · subst e2
        rw [upd_same] at q
        simp [blk] at q
        subst q
        rcases hg with r | r
        · exact h.dis j k hj hk hjk _ hb r
        · have := (h.adj.row j hj).lt hb
          omega
      · rw [upd_other _ _ e2] at q
        exact h.dis j k hj hk hjk b hb q

theorem Rw.fr {H : Nat} {M : Nat → Prop} {w w' : World} {bn n : Nat} {ao : Nat → Option Addr} {c : Nat → Nat} {g : Nat → List Nat} (h : Rw H w bn n ao c g) (hf : Fr M w w') (h1 : ¬ M bn) (h2 : ∀ i, i < n → ∀ b, blk (ao i) = some b → ¬ M b) : Rw H w' bn n ao c g :=
  ⟨h.adj.fr hf h1 h2, h.far, h.dis, h.hb⟩

theorem el34 : El 34 33 1 24 (.slice none 0 0) := ⟨Try.underlying34, by kernel_rfl, rfl, by decide, by decide⟩

/-- The edges turned round, of the first k nodes. -/
def revAt (g : Nat → List Nat) : Nat → Nat → List Nat
  | 0 => fun _ => []
  | k + 1 => (g k).foldl (fun f v => upd f v (f v ++ [k])) (revAt g k)

theorem rev_grows (k : Nat) : ∀ (l : List Nat) (f : Nat → List Nat) (j : Nat), (f j).length ≤ (l.foldl (fun f v => upd f v (f v ++ [k])) f j).length
  | [], _, _ => Nat.le_refl _
  | a :: l, f, j => by
    refine Nat.le_trans ?_ (rev_grows k l _ j)
    by_cases e : j = a
    · subst e; simp
    · show _ ≤ (upd f a _ j).length
      rw [upd_other _ _ e]; exact Nat.le_refl _

set_option maxRecDepth 100000 in
set_option maxHeartbeats 4000000 in
theorem reversed_any (bn n : Nat) (idsv : Value) (ao : Nat → Option Addr) (c : Nat → Nat) (g : Nat → List Nat) (w : World) (hn : n ≤ 1024) (hA : Adj w bn n ao c g) (hg : ∀ i, i < n → ∀ x ∈ g i, x < n)
    (hgl : ∀ i, i < n → (g i).length ≤ 1048576) (hl : ∀ k, k ≤ n → ∀ j, (revAt g k j).length ≤ 1048576) :
    Calls Try.prog 25 #[.agg #[idsv, .slice (some ⟨bn, 0, none⟩) n n]] w fun e w' => ∃ bv ao2 c2, e = .returned (.slice (some ⟨bv, 0, none⟩) n n) ∧ Rw w.heap.size w' bv n ao2 c2 (revAt g n) ∧ Fr Nothing w w' := by
  have HA := hid hA
  have HG := hid hg
  have HGL := hid hgl
  have HL := hid hl
  clear hA hg hgl hl
  have hmk := fun w => run_make1 el34 rfl w n (by omega)
  go_enter Try.func25, Try.ntmps25
  go_wp2
  obtain ⟨bv, hbv⟩ : ∃ bv, bv = w.heap.size + 1 := ⟨_, rfl⟩
  have R0 := hid (show Rw w.heap.size ((w.alloc (Obj.cells #[idsv, Value.slice (some { block := bn, off := 0 }) n n] 52)).alloc (Obj.cells (Array.ofFn fun _ : Fin n => Value.slice none 0 0) 33)) bv n (fun _ => none) (fun _ => 0) (revAt g 0) by
    refine ⟨⟨?_, fun i hi => Sl.nil _ _ _⟩, fun i hi b hb => by simp [blk] at hb, fun i j hi hj hij b hb => by simp [blk] at hb, by omega⟩
    exact Rec.newAt _ 33 bv _ (by rw [hbv]; simp))
  have F0 := hid (show Fr Nothing w ((w.alloc (Obj.cells #[idsv, Value.slice (some { block := bn, off := 0 }) n n] 52)).alloc (Obj.cells (Array.ofFn fun _ : Fin n => Value.slice none 0 0) 33)) from ((Fr.refl _ w).alloc _).alloc _)
  rw [← hbv]
  generalize ((w.alloc (Obj.cells #[idsv, Value.slice (some { block := bn, off := 0 }) n n] 52)).alloc (Obj.cells (Array.ofFn fun _ : Fin n => Value.slice none 0 0) 33)) = w0 at *
  have HB := hid hbv
  clear hbv
  go_loopg [15] n (fun gg s15 wr => ∃ (k : Nat) (ao2 : Nat → Option Addr) (c2 : Nat → Nat), gg + k = n ∧ s15 = .int .i64 (k : Int) ∧ Hid (Rw w.heap.size wr bv n ao2 c2 (revAt g k)) ∧ Hid (Fr Nothing w wr))
  case atStart => exact ⟨0, _, _, by omega, rfl, R0, F0⟩
  case round =>
    obtain ⟨k, ao2, c2, hgk, rfl, hR, hF⟩ := hrel
    by_cases hk : k < n
    · have A1 := hid (HA.out.fr hF.out (fun q => q) (fun _ _ _ _ q => q))
      have q1 := Arr.cell A1.out.arr hk
      obtain ⟨au, hau⟩ : ∃ au, ao k = au := ⟨_, rfl⟩
      rw [hau] at q1
      have hgu := HGL.out k hk
      go_wp2_with fail
      go_loopg [22] (g k).length (fun g2 s22 wr2 => ∃ (j : Nat) (ao3 : Nat → Option Addr) (c3 : Nat → Nat), g2 + j = (g k).length ∧ s22 = .int .i64 (j : Int) ∧ Hid (Rw w.heap.size wr2 bv n ao3 c3 (((g k).take j).foldl (fun f v => upd f v (f v ++ [k])) (revAt g k))) ∧ Hid (Fr Nothing w wr2))
      case atStart => exact ⟨0, ao2, c2, by omega, rfl, hid (by simpa using hR.out), hF⟩
      case round =>
        obtain ⟨j, ao3, c3, hj, rfl, hR3, hF3⟩ := hrel
        by_cases hj2 : j < (g k).length
        · have hv : (g k)[j] < n := HG.out k hk _ (List.getElem_mem hj2)
          have hx : (ints (g k))[j]? = some (.int .i64 ((g k)[j] : Int)) := by simp [ints, hj2]
          have hT : ((g k).take (j + 1)).foldl (fun f v => upd f v (f v ++ [k])) (revAt g k) = upd (((g k).take j).foldl (fun f v => upd f v (f v ++ [k])) (revAt g k)) (g k)[j] ((((g k).take j).foldl (fun f v => upd f v (f v ++ [k])) (revAt g k)) (g k)[j] ++ [k]) := by
            rw [List.take_succ_eq_append_getElem hj2, List.foldl_append]; rfl
          have hle : ∀ x, ((((g k).take j).foldl (fun f v => upd f v (f v ++ [k])) (revAt g k)) x).length ≤ 1048576 := fun x => by
            refine Nat.le_trans ?_ (HL.out (k + 1) hk x)
            have e : revAt g (k + 1) = ((g k).drop j).foldl (fun f v => upd f v (f v ++ [k])) (((g k).take j).foldl (fun f v => upd f v (f v ++ [k])) (revAt g k)) := by
              rw [← List.foldl_append, List.take_append_drop]; rfl
            rw [e]
            exact rev_grows k _ _ _
          generalize ((g k).take j).foldl (fun f v => upd f v (f v ++ [k])) (revAt g k) = g3 at *
          have HT := hid hT
          generalize hV : (g k)[j] = v at *
          have hle2 := hle v
          have A2 := hid (HA.out.fr hF3.out (fun q => q) (fun _ _ _ _ q => q))
          obtain ⟨bx, hbx, q3⟩ := (A2.out.row k hk).cell hx
          rw [hau] at hbx
          have q4 := Arr.cell hR3.out.adj.arr hv
          have z4 := Arr.frozen hR3.out.adj.arr v
          obtain ⟨av, hav⟩ : ∃ av, ao3 v = av := ⟨_, rfl⟩
          rw [hav] at q4
          clear hT hle hx hV
          have hrow := hid (hR3.out.adj.row v hv)
          rw [hav] at hrow
          have far := hid (fun (b4 c4 : Nat) (w4 : World) (k2 : (wr.alloc (Obj.cells #[Value.int IntKind.i64 (k : Int)] 3)).grownBy w4 (blk av)) => show Fr (fun q => blk av = some q) wr w4 from ((Fr.refl _ wr).alloc _).grown k2 (fun q hq _ => hq))
          have hbva : blk av ≠ some bv := fun q => (hR3.out.far v hv bv (hav ▸ q)).2 rfl
          go_wp2_with (refine wpList_app _ _ rfl rfl el33 av (g3 v).length (c3 v) (ints (g3 v)) rfl (hrow.out.alloc _) wr.heap.size 3 #[.int .i64 k] rfl (Rec.new wr 3 _) rfl (by intro u hu; simp at hu; subst hu; rfl) (by omega) (wr.heap.size + 1) (World.size_alloc _ _) ?_; intro b4 c4 w4 k1 k2 k3 k4; have f4 := hid (far.out b4 c4 w4 k2); have x4 := (f4.out.cell q4 hbva); have y4 := Arr.frozen (Arr.fr hR3.out.adj.arr f4.out hbva) v)
          rw [← hbx]
          go_roundg (gk - 1)
          case measure => omega
          case rel =>
            refine ⟨j + 1, upd ao3 v (some ⟨b4, 0, none⟩), upd c3 v c4, by omega, by go_num, hid ?_, hid ?_⟩
            · rw [HT.out]
              refine hR3.out.app hv (w1 := w4) (v := k) (g1 := b4) (c1 := c4) (by simpa using k1) (fun b hb hne => ?_) ?_
              · rw [hav] at hne
                exact f4.out.block b hb hne
              · rw [hav]
                rcases k3 with q | q
                · exact .inl q
                · exact .inr (by omega)
            · exact (hF3.out.trans f4.out (fun i hi q => by have := (hR3.out.far v hv i (hav ▸ q)).1; omega)).setCell (p := ⟨bv, v, none⟩) (fun q => by have := HB.out; simp at q; omega) _
        · have hjl : j = (g k).length := by omega
          subst hjl
          have hR4 := hR3.out
          rw [List.take_length] at hR4
          have HR4 := hid (show Rw w.heap.size wr bv n ao3 c3 (revAt g (k + 1)) from hR4)
          clear hR4
          go_wp2
          go_roundg (n - (k + 1))
          case measure => omega
          case rel => exact ⟨k + 1, ao3, c3, by omega, by go_num, HR4, hF3⟩
    · have hkn : k = n := by omega
      subst hkn
      go_wp2
      go_ret
      exact ⟨bv, ao2, c2, rfl, hR.out, hF.out⟩
end Go.Proofs.Qxb6615025a
