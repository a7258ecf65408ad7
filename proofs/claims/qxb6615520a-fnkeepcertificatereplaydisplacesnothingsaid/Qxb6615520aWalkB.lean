/-
  The walk of FnKeepCertificateReplayDisplacesNothing (4).
-/
import Derived.Test.Qxb6615520aKeep
import Derived.Deep.DeepCutAuto
import Derived.Deep.LoopGhost
namespace Go.Proofs.Qxb6615520a
open Go.RowKit Go.MapKept

/-- The second pass: a certificate of no later view is handed: nothing is displaced. -/
theorem keep_again {w0 : World} {B : Nat} {sq vw : Nat → Int} {C : Nat → Nat} {k i : Nat} {wr : World} (ms : Array Value) (m3 : ms[3]? = some (.int .u64 (vw i))) (m4 : ms[4]? = some (.int .u64 (sq i)))
    (hi : i < k) (hst : St w0 B sq vw C k wr) :
    Calls Try.prog 7 #[.pointer (some ⟨B + 1, 0, none⟩), .slice (some ⟨wr.heap.size, 0, none⟩) 1 1] (wr.alloc (.cells ms 36)).drew fun e w' => e = .returned (.tuple #[]) ∧ St w0 B sq vw C k w' := by
  obtain ⟨hbel, hnode, ⟨n, hm⟩, hcert⟩ := hst
  have hBlt : B < wr.heap.size := hm.lt
  have hNlt : B + 1 < wr.heap.size := World.block_lt_of_cell? wr _ hnode
  have hold : ∀ b, b < wr.heap.size → (wr.alloc (.cells ms 36)).drew.heap[b]? = wr.heap[b]? := fun b hb => Below.heap_alloc wr _ b hb
  have hnode' : (wr.alloc (.cells ms 36)).drew.cell? ⟨B + 1, 12, none⟩ = some (.map (some B)) :=
    (World.cell?_of_block (w := wr) (a := ⟨B + 1, 12, none⟩) (hold _ hNlt)).trans hnode
  have hm' : MapAt (.int .u64) (wr.alloc (.cells ms 36)).drew B n (fm sq vw C k) := hm.of_block (hold _ hBlt)
  have hc' : ∀ j, j < k → CertAt (wr.alloc (.cells ms 36)).drew (C j) (sq j) (vw j) j := fun j hj => (hcert j hj).of_block (hold _ (hcert j hj).lt)
  cases hb : best sq vw k (sq i) with
  | none => exact absurd rfl (best_none.1 hb i hi)
  | some j =>
    have hj := best_lt hb
    have hv := best_max hb i hi rfl
    have hcj := hc' j hj.1
    have h := fun o => World.cell?_alloc_new wr ms 36 o
    refine (keep7_no (B + 1) B n wr.heap.size (C j) (fm sq vw C k) (sq i) (vw i) (vw j) _ hnode' hm' ((h 4).trans m4) ((h 3).trans m3) (by rw [fm_at, hb]; rfl) hcj.view (by omega)).mono ?_
    rintro e w' ⟨rfl, m, rfl⟩
    exact ⟨rfl, ((hbel.alloc (Nat.le_of_lt hBlt) (.cells ms 36)).drew).trans ⟨rfl, rfl, rfl, Nat.le_refl _, fun _ _ => rfl⟩, hnode', ⟨n, hm'⟩, fun j hj => (hc' j hj).of_block rfl⟩

set_option maxRecDepth 100000 in
set_option maxHeartbeats 1000000 in
theorem walk4 (b0 o0 len0 cap0 b1 o1 len1 cap1 : Nat) (sq vw : Nat → Int) (w : World) (hnn : ∀ i, 0 ≤ vw i)
    (hs : ∀ i, i < len0 → w.cell? ⟨b0, o0 + i, none⟩ = some (.int .u64 (sq i))) (hv : ∀ i, i < len1 → w.cell? ⟨b1, o1 + i, none⟩ = some (.int .u64 (vw i)))
    (l0 : len0 ≤ 4096) (l1 : len1 ≤ 4096) (p0 : 0 < len0) (p1 : 0 < len1) :
    Calls Try.prog 4 #[.slice (some ⟨b0, o0, none⟩) len0 cap0, .slice (some ⟨b1, o1, none⟩) len1 cap1] w fun e w' => e = .returned (.bool true) ∧ Below w.heap.size w w' := by
  have HNN := hid hnn
  have H0 := hid hs
  have H1 := hid hv
  clear hs hv hnn
  have hz0 : ¬ (1048576 : Int) < len0 := by omega
  have hz1 : ¬ (1048576 : Int) < len1 := by omega
  have hz2 : ¬ (1048576 : Int) < len0 + len1 := by omega
  have hz3 : ¬ (4096 : Int) < len0 := by omega
  have hz4 : ¬ (4096 : Int) < len1 := by omega
  go_enter Try.func4, Try.ntmps4
  go_upto_if 33 with (first | (go_at_call 9; go_in))
  go_cut [5] (fun s7 wc => wc = w ∧ ∃ k : Nat, s7 = .int .i64 k ∧ k ≤ len0 ∧ k ≤ len1 ∧ (k = len0 ∨ k = len1))
  case first =>
    clear hz0 hz1 hz2 hz3 hz4
    by_cases hk : len1 < len0
    · go_wp2
      go_meet
      case rel => exact ⟨rfl, len1, rfl, by omega, by omega, .inr rfl⟩
    · go_wp2
      go_meet
      case rel => exact ⟨rfl, len0, rfl, by omega, by omega, .inl rfl⟩
  case rest =>
    obtain ⟨rfl, k, rfl, k0, k1, k2⟩ := hcut
    go_wp2_with (first | (go_at_call 6; refine (new_any _).mono ?_; rintro e w' ⟨cs, h1, h2, rfl, rfl⟩))
    go_loopg [7, 8] k (fun g s9 s10 wr => ∃ (i : Nat) (C : Nat → Nat), g + i = k ∧ s9 = .int .i64 i ∧ St wc wc.heap.size sq vw C i wr)
    case atStart =>
      have hz : (wc.alloc (Obj.map #[] 0)).heap.size = wc.heap.size + 1 := by simp
      refine ⟨0, fun _ => 0, by omega, rfl, ?_, ?_, ?_, ?_⟩
      · exact ((Below.refl _ _).alloc (Nat.le_refl _) _).alloc (by simp) _
      · have := World.cell?_alloc_new (wc.alloc (Obj.map #[] 0)) cs 60 12
        rw [hz] at this
        rw [this, h2]
      · exact ⟨0, (MapAt.made (.int .u64) wc).of_block (Below.heap_alloc _ _ _ (by simp)) |>.congr (fun k hk => by obtain ⟨s, rfl⟩ := isKey_u64 hk; rfl)⟩
      · intro j hj; omega
    case round =>
      obtain ⟨i, C, hi, rfl, hst⟩ := hrel
      by_cases hik : i < k
      · obtain ⟨sbel, snode, ⟨n, smap⟩, scert⟩ := hst
        have bsz := sbel.size
        have q0 : wr.cell? ⟨b0, o0 + i, none⟩ = some (.int .u64 (sq i)) := by
          have h := H0.out i (by omega)
          rw [← h]; exact sbel.cell (World.block_lt_of_cell? _ _ h)
        have q1 : wr.cell? ⟨b1, o1 + i, none⟩ = some (.int .u64 (vw i)) := by
          have h := H1.out i (by omega)
          rw [← h]; exact sbel.cell (World.block_lt_of_cell? _ _ h)
        have HS := hid (St.mk (B := wc.heap.size) (vw := vw) (C := C) sbel snode ⟨n, smap⟩ scert)
        clear smap scert sbel snode
        go_wp2
        go_region
        go_wp2_with (go_at_call 7; refine (keep_round _ rfl rfl rfl (Hid.out HS)).mono ?_; rintro e w' ⟨rfl, C', hst'⟩)
        go_roundg (gk - 1)
        case measure => omega
        case rel => exact ⟨i + 1, C', by omega, by go_num, hst'⟩
      · have hik' : i = k := by omega
        subst hik'
        clear hi h1 h2
        have HS := hid hst
        clear hst
        go_wp2
        go_loopg [9, 10] i (fun g s9 s10 w2 => ∃ (j : Nat), g + j = i ∧ s9 = .int .i64 j ∧ St wc wc.heap.size sq vw C i w2)
        case atStart => exact ⟨0, by omega, rfl, HS.out⟩
        case round =>
          clear HS
          rename World => w2
          obtain ⟨j, hj, rfl, hst⟩ := hrel
          by_cases hji : j < i
          · obtain ⟨sbel, snode, ⟨n, smap⟩, scert⟩ := hst
            have bsz := sbel.size
            have q0 : w2.cell? ⟨b0, o0 + j, none⟩ = some (.int .u64 (sq j)) := by
              have h := H0.out j (by omega)
              rw [← h]; exact sbel.cell (World.block_lt_of_cell? _ _ h)
            have q1 : w2.cell? ⟨b1, o1 + j, none⟩ = some (.int .u64 (vw j)) := by
              have h := H1.out j (by omega)
              rw [← h]; exact sbel.cell (World.block_lt_of_cell? _ _ h)
            have HS := hid (St.mk (B := wc.heap.size) (vw := vw) (C := C) sbel snode ⟨n, smap⟩ scert)
            clear smap scert sbel snode
            go_wp2
            go_region
            go_wp2_with (go_at_call 7; refine (keep_again _ rfl rfl hji (Hid.out HS)).mono ?_; rintro e w' ⟨rfl, hst'⟩)
            go_roundg (gk - 1)
            case measure => omega
            case rel => exact ⟨j + 1, by omega, by go_num, hst'⟩
          · obtain ⟨sbel, snode, ⟨n, smap⟩, scert⟩ := hst
            have q0 : ∀ j, j < i → w2.cell? ⟨b0, o0 + j, none⟩ = some (.int .u64 (sq j)) := fun j hj => by
              have h := H0.out j (by omega)
              rw [← h]; exact sbel.cell (World.block_lt_of_cell? _ _ h)
            have q1 : ∀ j, j < i → w2.cell? ⟨b1, o1 + j, none⟩ = some (.int .u64 (vw j)) := fun j hj => by
              have h := H1.out j (by omega)
              rw [← h]; exact sbel.cell (World.block_lt_of_cell? _ _ h)
            have Q0 := hid q0
            have Q1 := hid q1
            have HM := hid smap
            have HC := hid scert
            have HB := hid sbel
            clear smap scert sbel q0 q1 H0 H1 hz0 hz1 hz2
            go_wp2
            clear hji hj
            go_loopg [11, 12, 13, 14, 15] i (fun g s11 s12 s13 s14 s15 w3 => ∃ (j : Nat), g + j = i ∧ s11 = .int .i64 j ∧ ∃ m, w3 = w2.drewN m)
            case atStart => exact ⟨0, by omega, rfl, 0, rfl⟩
            case round =>
              obtain ⟨j, hj, rfl, m, rfl⟩ := hrel
              by_cases hji : j < i
              · have c0 := Q0.out j hji
                go_wp2
                go_loopg [12, 13] i (fun g s12 s13 w3 => ∃ (l : Nat), g + l = i ∧ s13 = .int .i64 l ∧ s12 = .int .u64 (most sq vw l (sq j)) ∧ ∃ m, w3 = w2.drewN m)
                case atStart => exact ⟨0, by omega, rfl, rfl, m, rfl⟩
                case round =>
                  obtain ⟨l, hl, rfl, rfl, m', rfl⟩ := hrel
                  by_cases hli : l < i
                  · have d0 := Q0.out l hli
                    have d1 := Q1.out l hli
                    by_cases hse : sq l = sq j
                    · have hne : (sq l == sq j) = true := by simp [hse]
                      have HE := hid hse
                      clear hse
                      by_cases hvv : most sq vw l (sq j) < vw l
                      · go_wp2
                        go_quiet (fail)
                        go_wp2
                        go_roundg (gk - 1)
                        case measure => omega
                        case rel => exact ⟨l + 1, by omega, by go_num, by simp only [most, HE.out, hvv, true_and, if_true], _, rfl⟩
                      · go_wp2
                        go_quiet (fail)
                        go_wp2
                        go_roundg (gk - 1)
                        case measure => omega
                        case rel => exact ⟨l + 1, by omega, by go_num, by simp only [most, HE.out, true_and]; rw [if_neg (by omega)], _, rfl⟩
                    · have hne : (sq l == sq j) = false := by simp [hse]
                      have HE := hid hse
                      clear hse
                      go_wp2
                      go_quiet (fail)
                      go_wp2
                      go_roundg (gk - 1)
                      case measure => omega
                      case rel => exact ⟨l + 1, by omega, by go_num, by simp only [most]; rw [if_neg (fun q => HE.out q.1)], _, rfl⟩
                  · have hli' : l = i := by omega
                    subst hli'
                    obtain ⟨m0, hb⟩ : ∃ m0, best sq vw l (sq j) = some m0 := by
                      cases hb : best sq vw l (sq j) with
                      | none => exact absurd rfl (best_none.1 hb j hji)
                      | some m0 => exact ⟨m0, rfl⟩
                    have hm0 := best_lt hb
                    have e1 := Q1.out m0 hm0.1
                    have e0 := Q0.out m0 hm0.1
                    rw [hm0.2] at e0
                    obtain ⟨x3, x4, x5⟩ := HC.out m0 hm0.1
                    rw [hm0.2] at x4
                    have hlt0 : m0 < l := hm0.1
                    have hf : fm sq vw C l (.int .u64 (sq j)) = some (sl (C m0)) := by rw [fm_at, hb]; rfl
                    have HF := hid hf
                    rw [(most_best HNN.out).2 m0 hb]
                    clear hf hm0 hb
                    go_wp2_with (go_at_call 8; refine (cert_any _ _ n (fm sq vw C l) _ _ (by exact snode) (by exact HM.out)).mono ?_; rintro e w' ⟨rfl, rfl⟩; rw [HF.out]; unfold sl; simp only [Option.getD_some])
                    go_quiet (fail)
                    go_wp2
                    go_quiet (fail)
                    go_wp2
                    go_roundg (l - (j + 1))
                    case measure => omega
                    case rel => exact ⟨j + 1, by omega, by go_num, _, rfl⟩
              · go_wp2
                go_ret
                exact ⟨rfl, HB.out.trans ⟨rfl, rfl, rfl, Nat.le_refl _, fun _ _ => rfl⟩⟩
set_option maxRecDepth 100000 in
set_option maxHeartbeats 1000000 in
theorem walk4_big (a0 a1 : Option Addr) (len0 cap0 len1 cap1 : Nat) (w : World) (m0 : len0 ≤ maxLen) (m1 : len1 ≤ maxLen)
    (hbig : 4096 < len0 ∨ 4096 < len1) :
    Calls Try.prog 4 #[.slice a0 len0 cap0, .slice a1 len1 cap1] w fun e w' => e = .returned (.bool true) ∧ Below w.heap.size w w' := by
  unfold maxLen at m0 m1
  by_cases h1 : (1048576 : Int) < len0
  · go_enter Try.func4, Try.ntmps4
    go_wp2
    go_ret
    exact ⟨rfl, Below.refl _ _⟩
  by_cases h2 : (1048576 : Int) < len1
  · go_enter Try.func4, Try.ntmps4
    go_wp2
    go_ret
    exact ⟨rfl, Below.refl _ _⟩
  by_cases h3 : (1048576 : Int) < len0 + len1
  · go_enter Try.func4, Try.ntmps4
    go_wp2
    go_ret
    exact ⟨rfl, Below.refl _ _⟩
  by_cases h4 : (4096 : Int) < len0
  · go_enter Try.func4, Try.ntmps4
    go_wp2
    go_ret
    exact ⟨rfl, Below.refl _ _⟩
  · have h5 : (4096 : Int) < len1 := by omega
    go_enter Try.func4, Try.ntmps4
    go_wp2
    go_ret
    exact ⟨rfl, Below.refl _ _⟩

set_option maxRecDepth 100000 in
set_option maxHeartbeats 1000000 in
theorem walk4_none (a0 a1 : Option Addr) (len0 cap0 len1 cap1 : Nat) (w : World) (l0 : len0 ≤ 4096) (l1 : len1 ≤ 4096)
    (hno : len0 = 0 ∨ len1 = 0) :
    Calls Try.prog 4 #[.slice a0 len0 cap0, .slice a1 len1 cap1] w fun e w' => e = .returned (.bool true) ∧ Below w.heap.size w w' := by
  have hz0 : ¬ (1048576 : Int) < len0 := by omega
  have hz1 : ¬ (1048576 : Int) < len1 := by omega
  have hz2 : ¬ (1048576 : Int) < len0 + len1 := by omega
  have hz3 : ¬ (4096 : Int) < len0 := by omega
  have hz4 : ¬ (4096 : Int) < len1 := by omega
  have HN := hid hno
  clear hno
  go_enter Try.func4, Try.ntmps4
  go_upto_if 33 with (first | (go_at_call 9; go_in))
  go_cut [5] (fun s7 wc => wc = w ∧ s7 = .int .i64 0)
  case first =>
    clear hz0 hz1 hz2 hz3 hz4
    by_cases hk : len1 < len0
    · go_wp2
      go_meet
      case rel => exact ⟨rfl, by have := HN.out; rw [show len1 = 0 by omega]; rfl⟩
    · go_wp2
      go_meet
      case rel => exact ⟨rfl, by have := HN.out; rw [show len0 = 0 by omega]; rfl⟩
  case rest =>
    obtain ⟨rfl, rfl⟩ := hcut
    clear hz0 hz1 hz2 hz3 hz4 HN l0 l1
    go_wp2_with (first | (go_at_call 6; refine (new_any _).mono ?_; rintro e w' ⟨cs, h1, h2, rfl, rfl⟩))
    go_loopg [7, 8] 0 (fun g s9 s10 wr => s9 = .int .i64 0 ∧ wr = (wc.alloc (.map #[] 0)).alloc (.cells cs 60))
    case atStart => exact ⟨rfl, rfl⟩
    case round =>
      obtain ⟨rfl, rfl⟩ := hrel
      go_wp2
      go_loopg [9, 10] 0 (fun g s9 s10 wr => s9 = .int .i64 0 ∧ wr = (wc.alloc (.map #[] 0)).alloc (.cells cs 60))
      case atStart => exact ⟨rfl, rfl⟩
      case round =>
        obtain ⟨rfl, rfl⟩ := hrel
        go_wp2
        go_loopg [11, 12, 13, 14, 15] 0 (fun g s11 s12 s13 s14 s15 w2 => s11 = .int .i64 0 ∧ w2 = (wc.alloc (.map #[] 0)).alloc (.cells cs 60))
        case atStart => exact ⟨rfl, rfl⟩
        case round =>
          obtain ⟨rfl, rfl⟩ := hrel
          go_wp2
          go_ret
          exact ⟨rfl, ((Below.refl _ _).alloc (Nat.le_refl _) _).alloc (by simp) _⟩
end Go.Proofs.Qxb6615520a
