/-
  The contracts of the small functions: ZZNewCertNode (6), ZZKeepCertificate (7), ZZCert (8), keepCertificate (10).
-/
import Derived.Test.Qxb6615520aRows
import Derived.Test.Qxb6615520aMaps
import Derived.Test.Qxb6615520aBest
import Derived.WalkKit
import Derived.WalkSpells
import Derived.WalkLawsBesides
import Derived.Deep.QuietTactic
import Derived.BigQuiet
namespace Go.Proofs.Qxb6615520a
open Go.RowKit Go.MapKept

theorem hid {p : Prop} (h : p) : Hid p := h

/-- One operation whose run is known outright. -/
theorem wpList_run {P : Program} {w : World} {ops : Array Oper} {rest : List Oper} {o : Oper} {a : Act} {Q : Exit → Act → World → Prop}
    (hg : o.guard = none) (v : Value) (w' : World) (hrun : (execOp a.eval o).run P w = .ok (.value v) w')
    (hK : wpList P ops Q rest (a.put o.dst v) w') : wpList P ops Q (o :: rest) a w := by
  refine wpList_plain hg fun K hK' => ?_
  unfold Oper.wp
  rw [hrun]
  exact hK' _ _ hK

def agg? : Result Value → Array Value
  | .ok (.agg cs) _ => cs
  | _ => #[]

theorem build60 (m : Nat) : ∃ cs : Array Value, cs.size = 110 ∧ cs[12]? = some (.map (some m)) ∧
    ∀ w, (Instr.build 60 #[(12, .map (some m))]).run Try.prog w = .ok (.agg cs) w :=
  ⟨agg? ((Instr.build 60 #[(12, .map (some m))]).run Try.prog default), by kernel_rfl, by kernel_rfl, fun w => by kernel_rfl⟩

theorem wpList_build60 {w : World} {ops : Array Oper} {rest : List Oper} {o : Oper} {a : Act} {Q : Exit → Act → World → Prop}
    (x : Operand) (hop : o.op = Op.build 60 #[(12, x)]) (hg : o.guard = none) (m : Nat) (hx : a.eval x = .map (some m)) (cs : Array Value)
    (h : ∀ w, (Instr.build 60 #[(12, .map (some m))]).run Try.prog w = .ok (.agg cs) w)
    (hK : wpList Try.prog ops Q rest (a.put o.dst (.agg cs)) w) : wpList Try.prog ops Q (o :: rest) a w := by
  refine wpList_run hg (.agg cs) w ?_ hK
  simp only [execOp, hop, List.map_toArray, List.map_cons, List.map_nil, hx, Sem.run_bind, h, Result.andThen]
  rfl

set_option maxHeartbeats 400000 in
theorem new_any (w : World) :
    Calls Try.prog 6 #[] w fun e w' => ∃ cs : Array Value, cs.size = 110 ∧ cs[12]? = some (.map (some w.heap.size)) ∧ e = .returned (.pointer (some ⟨w.heap.size + 1, 0, none⟩)) ∧ (w.alloc (.map #[] 0)).alloc (.cells cs 60) = w' := by
  have hmm := @run_makeMap Try.prog
  obtain ⟨cs, h1, h2, h3⟩ := build60 w.heap.size
  go_enter Try.func6, Try.ntmps6
  go_wp2_with (refine wpList_build60 _ rfl rfl _ rfl cs h3 ?_)
  go_ret
  exact ⟨cs, h1, h2, rfl, rfl⟩

theorem zero33 (w : World) : (zeroValue 33).run Try.prog w = .ok (.slice none 0 0) w := by kernel_rfl
theorem u40 : Try.prog.underlying 40 = some (.map 23 33) := by kernel_rfl
set_option maxHeartbeats 400000 in
theorem cert_any (bn bm n : Nat) (f : Value → Option Value) (s : Int) (w : World) (hn : w.cell? ⟨bn, 12, none⟩ = some (.map (some bm)))
    (hm : MapAt (.int .u64) w bm n f) :
    Calls Try.prog 8 #[.pointer (some ⟨bn, 0, none⟩), .int .u64 s] w fun e w' => e = .returned ((f (.int .u64 s)).getD (.slice none 0 0)) ∧ w' = w := by
  have hlk := hm.look u40 Try.underlying23 (zero33 w) (k := .int .u64 s) rfl false
  simp only [Bool.false_eq_true, if_false] at hlk
  go_enter Try.func8, Try.ntmps8
  go_wp2
  go_ret
  exact ⟨rfl, rfl⟩
set_option maxHeartbeats 400000 in
theorem keep_no (bn bm n bc bh : Nat) (f : Value → Option Value) (s v vh : Int) (w : World) (hn : w.cell? ⟨bn, 12, none⟩ = some (.map (some bm)))
    (hm : MapAt (.int .u64) w bm n f) (c4 : w.cell? ⟨bc, 4, none⟩ = some (.int .u64 s)) (c3 : w.cell? ⟨bc, 3, none⟩ = some (.int .u64 v))
    (hf : f (.int .u64 s) = some (.slice (some ⟨bh, 0, none⟩) 1 1)) (h3 : w.cell? ⟨bh, 3, none⟩ = some (.int .u64 vh)) (hle : ¬ vh < v) :
    Calls Try.prog 10 #[.pointer (some ⟨bn, 0, none⟩), .slice (some ⟨bc, 0, none⟩) 1 1] w fun e w' => e = .returned (.tuple #[]) ∧ ∃ n, w' = w.drewN n := by
  have hlk := hm.look u40 Try.underlying23 (zero33 w) (k := .int .u64 s) rfl false
  have hq := fun w a n c n' c' => Lib.run_eql_slice_nil (P := Try.prog) w 33 36 a n c n' c' Try.underlying33
  simp only [Bool.false_eq_true, if_false, hf, Option.getD_some] at hlk
  go_enter Try.func10, Try.ntmps10
  go_wp2
  go_quiet (fail)
  go_wp2
  go_end0
  exact ⟨rfl, _, rfl⟩

/-- What a stored certificate does to the world. -/
def Kept1 (bm : Nat) (w w' : World) : Prop := w'.os = w.os ∧ w'.tape = w.tape ∧ w'.output = w.output ∧ w'.heap.size = w.heap.size ∧ ∀ b', b' ≠ bm → w'.heap[b']? = w.heap[b']?

set_option maxHeartbeats 400000 in
theorem keep_new (bn bm n bc : Nat) (f : Value → Option Value) (s : Int) (w : World) (hn : w.cell? ⟨bn, 12, none⟩ = some (.map (some bm)))
    (hm : MapAt (.int .u64) w bm n f) (c4 : w.cell? ⟨bc, 4, none⟩ = some (.int .u64 s)) 
    (hf : f (.int .u64 s) = none) :
    Calls Try.prog 10 #[.pointer (some ⟨bn, 0, none⟩), .slice (some ⟨bc, 0, none⟩) 1 1] w fun e w' => e = .returned (.tuple #[]) ∧ Kept1 bm w w' ∧
      ∃ n', MapAt (.int .u64) w' bm n' (updK (.int .u64) (.int .u64 s) (.slice (some ⟨bc, 0, none⟩) 1 1) f) := by
  have hlk := hm.look u40 Try.underlying23 (zero33 w) (k := .int .u64 s) rfl false
  have hq := fun w a n c n' c' => Lib.run_eql_slice_nil (P := Try.prog) w 33 36 a n c n' c' Try.underlying33
  simp only [Bool.false_eq_true, if_false, hf, Option.getD_none] at hlk
  go_enter Try.func10, Try.ntmps10
  go_wp2
  go_quiet (fail)
  have hm1 : MapAt (.int .u64) (w.drewN nq) bm n f := hm
  obtain ⟨w1, hup, hm2, k1, k2, k3, k4, k5⟩ := hm1.update u40 Try.underlying23 (k := .int .u64 s) rfl (.slice (some ⟨bc, 0, none⟩) 1 1)
  go_wp2
  go_end0
  exact ⟨rfl, ⟨k1, k2, k3, k4, k5⟩, _, hm2⟩

set_option maxHeartbeats 400000 in
theorem keep_over (bn bm n bc bh : Nat) (f : Value → Option Value) (s v vh : Int) (w : World) (hn : w.cell? ⟨bn, 12, none⟩ = some (.map (some bm)))
    (hm : MapAt (.int .u64) w bm n f) (c4 : w.cell? ⟨bc, 4, none⟩ = some (.int .u64 s)) (c3 : w.cell? ⟨bc, 3, none⟩ = some (.int .u64 v))
    (hf : f (.int .u64 s) = some (.slice (some ⟨bh, 0, none⟩) 1 1)) (h3 : w.cell? ⟨bh, 3, none⟩ = some (.int .u64 vh)) (hlt : vh < v) :
    Calls Try.prog 10 #[.pointer (some ⟨bn, 0, none⟩), .slice (some ⟨bc, 0, none⟩) 1 1] w fun e w' => e = .returned (.tuple #[]) ∧ Kept1 bm w w' ∧
      ∃ n', MapAt (.int .u64) w' bm n' (updK (.int .u64) (.int .u64 s) (.slice (some ⟨bc, 0, none⟩) 1 1) f) := by
  have hlk := hm.look u40 Try.underlying23 (zero33 w) (k := .int .u64 s) rfl false
  have hq := fun w a n c n' c' => Lib.run_eql_slice_nil (P := Try.prog) w 33 36 a n c n' c' Try.underlying33
  simp only [Bool.false_eq_true, if_false, hf, Option.getD_some] at hlk
  go_enter Try.func10, Try.ntmps10
  go_wp2
  go_quiet (fail)
  have hm1 : MapAt (.int .u64) (w.drewN nq) bm n f := hm
  obtain ⟨w1, hup, hm2, k1, k2, k3, k4, k5⟩ := hm1.update u40 Try.underlying23 (k := .int .u64 s) rfl (.slice (some ⟨bc, 0, none⟩) 1 1)
  go_wp2
  go_end0
  exact ⟨rfl, ⟨k1, k2, k3, k4, k5⟩, _, hm2⟩

/-! ### Over 'best' -/

def sl (b : Nat) : Value := .slice (some ⟨b, 0, none⟩) 1 1

/-- Block b is a message that tells s, v, t. -/
structure CertAt (w : World) (b : Nat) (s v t : Int) : Prop where
  view : w.cell? ⟨b, 3, none⟩ = some (.int .u64 v)
  seq : w.cell? ⟨b, 4, none⟩ = some (.int .u64 s)
  tag : w.cell? ⟨b, 5, none⟩ = some (.int .u64 t)

/-- The map when the first i certificates have been handed. -/
def fm (sq vw : Nat → Int) (C : Nat → Nat) (i : Nat) : Value → Option Value
  | .int .u64 s => (best sq vw i s).map fun j => sl (C j)
  | _ => none

theorem fm_at (sq vw : Nat → Int) (C : Nat → Nat) (i : Nat) (s : Int) : fm sq vw C i (.int .u64 s) = (best sq vw i s).map fun j => sl (C j) := rfl

theorem MapAt.congr {d : TypeDesc} {w : World} {b n : Nat} {f g : Value → Option Value} (h : MapAt d w b n f) (he : ∀ k, IsKey d k → f k = g k) : MapAt d w b n g := by
  obtain ⟨es, c, h1, h2, h3, h4, h5⟩ := h
  exact ⟨es, c, h1, h2, h3, h4, fun k hk => (h5 k hk).trans (he k hk)⟩

theorem isKey_u64 {k : Value} (h : IsKey (.int .u64) k) : ∃ s, k = .int .u64 s := by
  cases k <;> simp [IsKey] at h
  subst h
  exact ⟨_, rfl⟩

theorem fm_upd {sq vw : Nat → Int} {C : Nat → Nat} {i : Nat} (hb : best sq vw (i + 1) (sq i) = some i) :
    ∀ k, IsKey (.int .u64) k → updK (.int .u64) (.int .u64 (sq i)) (sl (C i)) (fm sq vw C i) k = fm sq vw C (i + 1) k := by
  intro k hk
  obtain ⟨s, rfl⟩ := isKey_u64 hk
  by_cases e : s = sq i
  · subst e
    rw [updK_same (d := .int .u64) (k := .int .u64 (sq i)) rfl, fm_at, hb]; rfl
  · rw [updK_other (d := .int .u64) (k := .int .u64 (sq i)) (x := .int .u64 s) rfl rfl (by simpa using e), fm_at, fm_at, best_other (fun q => e q.symm)]

theorem fm_stay {sq vw : Nat → Int} {C : Nat → Nat} {i j : Nat} (hb : best sq vw i (sq i) = some j) (hv : ¬ vw j < vw i) :
    ∀ k, IsKey (.int .u64) k → fm sq vw C i k = fm sq vw C (i + 1) k := by
  intro k hk
  obtain ⟨s, rfl⟩ := isKey_u64 hk
  by_cases e : s = sq i
  · subst e
    rw [fm_at, fm_at, hb, best_stay rfl hb hv]
  · rw [fm_at, fm_at, best_other (fun q => e q.symm)]

theorem Kept1.drewN (bm : Nat) (w : World) (n : Nat) : Kept1 bm w (w.drewN n) := ⟨rfl, rfl, rfl, rfl, fun _ _ => rfl⟩

/-- keepCertificate: one more certificate. -/
theorem keep10 (sq vw : Nat → Int) (C : Nat → Nat) (bn bm n i : Nat) (w : World) (hn : w.cell? ⟨bn, 12, none⟩ = some (.map (some bm)))
    (hm : MapAt (.int .u64) w bm n (fm sq vw C i)) (t : Nat → Int) (hc : ∀ j, j ≤ i → CertAt w (C j) (sq j) (vw j) (t j)) :
    Calls Try.prog 10 #[.pointer (some ⟨bn, 0, none⟩), sl (C i)] w fun e w' => e = .returned (.tuple #[]) ∧ Kept1 bm w w' ∧
      ∃ n', MapAt (.int .u64) w' bm n' (fm sq vw C (i + 1)) := by
  have hci := hc i (Nat.le_refl _)
  cases hb : best sq vw i (sq i) with
  | none =>
    refine (keep_new bn bm n (C i) (fm sq vw C i) (sq i) w hn hm hci.seq (by rw [fm_at, hb]; rfl)).mono ?_
    rintro e w' ⟨rfl, hk, n', hm'⟩
    exact ⟨rfl, hk, n', hm'.congr (fm_upd (best_new rfl hb))⟩
  | some j =>
    have hj := best_lt hb
    have hcj := hc j (by omega)
    by_cases hv : vw j < vw i
    · refine (keep_over bn bm n (C i) (C j) (fm sq vw C i) (sq i) (vw i) (vw j) w hn hm hci.seq hci.view (by rw [fm_at, hb]; rfl) hcj.view hv).mono ?_
      rintro e w' ⟨rfl, hk, n', hm'⟩
      exact ⟨rfl, hk, n', hm'.congr (fm_upd (best_over rfl hb hv))⟩
    · refine (keep_no bn bm n (C i) (C j) (fm sq vw C i) (sq i) (vw i) (vw j) w hn hm hci.seq hci.view (by rw [fm_at, hb]; rfl) hcj.view hv).mono ?_
      rintro e w' ⟨rfl, m, rfl⟩
      exact ⟨rfl, Kept1.drewN _ _ _, n, MapAt.congr (w := w.drewN m) hm (fm_stay hb hv)⟩

set_option maxHeartbeats 400000 in
/-- ZZKeepCertificate: the same. -/
theorem keep7 (sq vw : Nat → Int) (C : Nat → Nat) (bn bm n i bc : Nat) (hbc : C i = bc) (w : World) (hn : w.cell? ⟨bn, 12, none⟩ = some (.map (some bm)))
    (hm : MapAt (.int .u64) w bm n (fm sq vw C i)) (t : Nat → Int) (hc : ∀ j, j ≤ i → CertAt w (C j) (sq j) (vw j) (t j)) :
    Calls Try.prog 7 #[.pointer (some ⟨bn, 0, none⟩), .slice (some ⟨bc, 0, none⟩) 1 1] w fun e w' => e = .returned (.tuple #[]) ∧ Kept1 bm w w' ∧
      ∃ n', MapAt (.int .u64) w' bm n' (fm sq vw C (i + 1)) := by
  have h := keep10 sq vw C bn bm n i w hn hm t hc
  rw [hbc] at h
  have H := hid h
  clear h hbc hn hm hc
  go_enter Try.func7, Try.ntmps7
  go_wp2_with (go_at_call 10; refine (Hid.out H).mono ?_; rintro e w' ⟨rfl, hk, n', hm'⟩)
  go_end0
  exact ⟨rfl, hk, n', hm'⟩

set_option maxHeartbeats 400000 in
/-- ZZKeepCertificate where a certificate of no earlier view is kept: nothing turns. -/
theorem keep7_no (bn bm n bc bh : Nat) (f : Value → Option Value) (s v vh : Int) (w : World) (hn : w.cell? ⟨bn, 12, none⟩ = some (.map (some bm)))
    (hm : MapAt (.int .u64) w bm n f) (c4 : w.cell? ⟨bc, 4, none⟩ = some (.int .u64 s)) (c3 : w.cell? ⟨bc, 3, none⟩ = some (.int .u64 v))
    (hf : f (.int .u64 s) = some (.slice (some ⟨bh, 0, none⟩) 1 1)) (h3 : w.cell? ⟨bh, 3, none⟩ = some (.int .u64 vh)) (hle : ¬ vh < v) :
    Calls Try.prog 7 #[.pointer (some ⟨bn, 0, none⟩), .slice (some ⟨bc, 0, none⟩) 1 1] w fun e w' => e = .returned (.tuple #[]) ∧ ∃ n, w' = w.drewN n := by
  have H := hid (keep_no bn bm n bc bh f s v vh w hn hm c4 c3 hf h3 hle)
  clear hn hm c4 c3 hf h3 hle
  go_enter Try.func7, Try.ntmps7
  go_wp2_with (go_at_call 10; refine (Hid.out H).mono ?_; rintro e w' ⟨rfl, n', rfl⟩)
  go_end0
  exact ⟨rfl, n', rfl⟩

/-- What stands when the first i certificates have been handed: the node, its map, the certificates. -/
structure St (w0 : World) (B : Nat) (sq vw : Nat → Int) (C : Nat → Nat) (i : Nat) (w : World) : Prop where
  below : Below B w0 w
  node : w.cell? ⟨B + 1, 12, none⟩ = some (.map (some B))
  map : ∃ n, MapAt (.int .u64) w B n (fm sq vw C i)
  cert : ∀ j, j < i → CertAt w (C j) (sq j) (vw j) j

theorem CertAt.of_block {w w' : World} {b : Nat} {s v t : Int} (h : CertAt w b s v t) (hb : w'.heap[b]? = w.heap[b]?) : CertAt w' b s v t :=
  ⟨(World.cell?_of_block (w := w) (a := ⟨b, 3, none⟩) hb).trans h.view, (World.cell?_of_block (w := w) (a := ⟨b, 4, none⟩) hb).trans h.seq, (World.cell?_of_block (w := w) (a := ⟨b, 5, none⟩) hb).trans h.tag⟩

theorem CertAt.lt {w : World} {b : Nat} {s v t : Int} (h : CertAt w b s v t) : b < w.heap.size := World.block_lt_of_cell? w ⟨b, 3, none⟩ h.view

theorem CertAt.ne_map {w : World} {b bm n : Nat} {s v t : Int} {d : TypeDesc} {f : Value → Option Value} (h : CertAt w b s v t) (hm : MapAt d w bm n f) : b ≠ bm := by
  rintro rfl
  obtain ⟨es, c, hb, _⟩ := hm
  have := h.view
  simp [World.cell?, hb] at this

theorem fm_congr {sq vw : Nat → Int} {C C' : Nat → Nat} {i : Nat} (h : ∀ j, j < i → C' j = C j) (k : Value) : fm sq vw C i k = fm sq vw C' i k := by
  unfold fm
  split
  · rename_i s
    cases hb : best sq vw i s with
    | none => rfl
    | some j => simp [h j (best_lt hb).1]
  · rfl

/-- One round: the new message lies in the last block. -/
theorem keep_round {w0 : World} {B : Nat} {sq vw : Nat → Int} {C : Nat → Nat} {i : Nat} {wr : World} (ms : Array Value) (m3 : ms[3]? = some (.int .u64 (vw i))) (m4 : ms[4]? = some (.int .u64 (sq i))) (m5 : ms[5]? = some (.int .u64 i))
    (hst : St w0 B sq vw C i wr) :
    Calls Try.prog 7 #[.pointer (some ⟨B + 1, 0, none⟩), .slice (some ⟨wr.heap.size, 0, none⟩) 1 1] (wr.alloc (.cells ms 36)).drew fun e w' => e = .returned (.tuple #[]) ∧ ∃ C', St w0 B sq vw C' (i + 1) w' := by
  obtain ⟨hbel, hnode, ⟨n, hm⟩, hcert⟩ := hst
  have hBlt : B < wr.heap.size := hm.lt
  have hNlt : B + 1 < wr.heap.size := World.block_lt_of_cell? wr _ hnode
  let C' : Nat → Nat := fun j => if j = i then wr.heap.size else C j
  have hC : ∀ j, j < i → C' j = C j := fun j hj => by simp [C', show j ≠ i by omega]
  have hCi : C' i = wr.heap.size := by simp [C']
  have hold : ∀ b, b < wr.heap.size → (wr.alloc (.cells ms 36)).drew.heap[b]? = wr.heap[b]? := fun b hb => Below.heap_alloc wr _ b hb
  have hnode' : (wr.alloc (.cells ms 36)).drew.cell? ⟨B + 1, 12, none⟩ = some (.map (some B)) :=
    (World.cell?_of_block (w := wr) (a := ⟨B + 1, 12, none⟩) (hold _ hNlt)).trans hnode
  have hm' : MapAt (.int .u64) (wr.alloc (.cells ms 36)).drew B n (fm sq vw C' i) :=
    (hm.of_block (hold _ hBlt)).congr fun k _ => fm_congr hC k
  have hc' : ∀ j, j ≤ i → CertAt (wr.alloc (.cells ms 36)).drew (C' j) (sq j) (vw j) j := by
    intro j hj
    rcases Nat.lt_or_ge j i with q | q
    · rw [hC j q]
      exact (hcert j q).of_block (hold _ (hcert j q).lt)
    · have e : j = i := by omega
      subst e
      rw [hCi]
      have h := fun o => World.cell?_alloc_new wr ms 36 o
      exact ⟨(h 3).trans m3, (h 4).trans m4, (h 5).trans m5⟩
  refine (keep7 sq vw C' (B + 1) B n i wr.heap.size hCi _ hnode' hm' (fun j => j) hc').mono ?_
  rintro e w' ⟨rfl, ⟨k1, k2, k3, k4, k5⟩, n', hm''⟩
  have hsz : (wr.alloc (.cells ms 36)).drew.heap.size = wr.heap.size + 1 := by simp
  refine ⟨rfl, C', ?_, ?_, ⟨n', hm''⟩, ?_⟩
  · refine ((hbel.alloc (Nat.le_of_lt hBlt) (.cells ms 36)).drew).trans ⟨k1, k2, k3, by omega, fun b hb => k5 b (by omega)⟩
  · exact (World.cell?_of_block (w := (wr.alloc (.cells ms 36)).drew) (a := ⟨B + 1, 12, none⟩) (k5 _ (by simp))).trans hnode'
  · intro j hj
    exact (hc' j (by omega)).of_block (k5 _ ((hc' j (by omega)).ne_map hm'))

end Go.Proofs.Qxb6615520a
