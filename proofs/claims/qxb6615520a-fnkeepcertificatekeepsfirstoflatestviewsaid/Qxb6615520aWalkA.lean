/-
  The walk of FnKeepCertificateKeepsFirstOfLatestView (3).
-/
import Derived.Test.Qxb6615520aKeep
import Derived.Deep.DeepCutAuto
import Derived.Deep.LoopGhost
namespace Go.Proofs.Qxb6615520a
open Go.RowKit Go.MapKept

/-- Was the probe among the first j? -/
def handed (sq : Nat → Int) (pr : Int) : Nat → Bool
  | 0 => false
  | j + 1 => sq j == pr || handed sq pr j

theorem handed_false {sq : Nat → Int} {pr : Int} : ∀ {j : Nat}, handed sq pr j = false → ∀ i, i < j → sq i ≠ pr
  | 0, _, i, hi => by omega
  | j + 1, h, i, hi => by
    simp [handed] at h
    rcases Nat.lt_or_ge i j with q | q
    · exact handed_false h.2 i q
    · have : i = j := by omega
      subst this; exact h.1

set_option maxRecDepth 100000 in
set_option maxHeartbeats 1000000 in
theorem walk3 (b0 o0 len0 cap0 b1 o1 len1 cap1 : Nat) (sq vw : Nat → Int) (pr : Int) (w : World)
    (hs : ∀ i, i < len0 → w.cell? ⟨b0, o0 + i, none⟩ = some (.int .u64 (sq i))) (hv : ∀ i, i < len1 → w.cell? ⟨b1, o1 + i, none⟩ = some (.int .u64 (vw i)))
    (l0 : len0 ≤ 4096) (l1 : len1 ≤ 4096) (p0 : 0 < len0) (p1 : 0 < len1) :
    Calls Try.prog 3 #[.slice (some ⟨b0, o0, none⟩) len0 cap0, .slice (some ⟨b1, o1, none⟩) len1 cap1, .int .u64 pr] w fun e w' => e = .returned (.bool true) ∧ Below w.heap.size w w' := by
  have H0 := hid hs
  have H1 := hid hv
  clear hs hv
  have hz0 : ¬ (1048576 : Int) < len0 := by omega
  have hz1 : ¬ (1048576 : Int) < len1 := by omega
  have hz2 : ¬ (1048576 : Int) < len0 + len1 := by omega
  have hz3 : ¬ (4096 : Int) < len0 := by omega
  have hz4 : ¬ (4096 : Int) < len1 := by omega
  go_enter Try.func3, Try.ntmps3
  go_upto_if 34 with (first | (go_at_call 5; go_in))
  go_cut [7] (fun s7 wc => wc = w ∧ ∃ k : Nat, s7 = .int .i64 k ∧ k ≤ len0 ∧ k ≤ len1 ∧ (k = len0 ∨ k = len1))
  case first =>
    clear hz0 hz1 hz2 hz3 hz4
    by_cases hk : len1 < len0
    · go_wp2
      go_meet
      case rel => exact ⟨rfl, len1, rfl, by omega, by omega, .inr rfl⟩
    · go_wp2
      go_meet
      case rel => exact ⟨rfl, len0, rfl, by omega, by omega, .inl rfl⟩
  case rest =>
    obtain ⟨rfl, k, rfl, k0, k1, k2⟩ := hcut
    go_wp2_with (first | (go_at_call 6; refine (new_any _).mono ?_; rintro e w' ⟨cs, h1, h2, rfl, rfl⟩))
    go_loopg [9, 10] k (fun g s9 s10 wr => ∃ (i : Nat) (C : Nat → Nat), g + i = k ∧ s9 = .int .i64 i ∧ St wc wc.heap.size sq vw C i wr)
    case atStart =>
      have hz : (wc.alloc (Obj.map #[] 0)).heap.size = wc.heap.size + 1 := by simp
      refine ⟨0, fun _ => 0, by omega, rfl, ?_, ?_, ?_, ?_⟩
      · exact ((Below.refl _ _).alloc (Nat.le_refl _) _).alloc (by simp) _
      · have := World.cell?_alloc_new (wc.alloc (Obj.map #[] 0)) cs 60 12
        rw [hz] at this
        rw [this, h2]
      · exact ⟨0, (MapAt.made (.int .u64) wc).of_block (Below.heap_alloc _ _ _ (by simp)) |>.congr (fun k hk => by obtain ⟨s, rfl⟩ := isKey_u64 hk; rfl)⟩
      · intro j hj; omega
    case round =>
      obtain ⟨i, C, hi, rfl, hst⟩ := hrel
      by_cases hik : i < k
      · obtain ⟨sbel, snode, ⟨n, smap⟩, scert⟩ := hst
        have bsz := sbel.size
        have q0 : wr.cell? ⟨b0, o0 + i, none⟩ = some (.int .u64 (sq i)) := by
          have h := H0.out i (by omega)
          rw [← h]; exact sbel.cell (World.block_lt_of_cell? _ _ h)
        have q1 : wr.cell? ⟨b1, o1 + i, none⟩ = some (.int .u64 (vw i)) := by
          have h := H1.out i (by omega)
          rw [← h]; exact sbel.cell (World.block_lt_of_cell? _ _ h)
        have HS := hid (St.mk (B := wc.heap.size) (vw := vw) (C := C) sbel snode ⟨n, smap⟩ scert)
        clear smap scert sbel snode
        go_wp2
        go_region
        go_wp2_with (go_at_call 7; refine (keep_round _ rfl rfl rfl (Hid.out HS)).mono ?_; rintro e w' ⟨rfl, C', hst'⟩)
        go_roundg (gk - 1)
        case measure => omega
        case rel => exact ⟨i + 1, C', by omega, by go_num, hst'⟩
      · have hik' : i = k := by omega
        subst hik'
        obtain ⟨sbel, snode, ⟨n, smap⟩, scert⟩ := hst
        have q0 : ∀ j, j < i → wr.cell? ⟨b0, o0 + j, none⟩ = some (.int .u64 (sq j)) := fun j hj => by
          have h := H0.out j (by omega)
          rw [← h]; exact sbel.cell (World.block_lt_of_cell? _ _ h)
        have q1 : ∀ j, j < i → wr.cell? ⟨b1, o1 + j, none⟩ = some (.int .u64 (vw j)) := fun j hj => by
          have h := H1.out j (by omega)
          rw [← h]; exact sbel.cell (World.block_lt_of_cell? _ _ h)
        have Q0 := hid q0
        have Q1 := hid q1
        have HM := hid smap
        have HC := hid scert
        have HB := hid sbel
        clear smap scert sbel q0 q1 H0 H1 hi hz0 hz1 hz2 h1 h2
        go_wp2
        go_loopg [11, 12, 13, 14, 15] i (fun g s11 s12 s13 s14 s15 w2 => ∃ (j : Nat), g + j = i ∧ s12 = .int .i64 j ∧ s11 = .bool (handed sq pr j) ∧ ∃ m, w2 = wr.drewN m)
        case atStart => exact ⟨0, by omega, rfl, rfl, 0, rfl⟩
        case round =>
          obtain ⟨j, hj, rfl, rfl, m, rfl⟩ := hrel
          by_cases hji : j < i
          · have c0 := Q0.out j hji
            go_upto_if 68 with fail
            go_cut [11] (fun s11 w4 => s11 = .bool (handed sq pr (j + 1)) ∧ w4 = wr.drewN m)
            case first =>
              by_cases hp : (sq j == pr) = true
              · go_wp2
                go_meet
                case rel => exact ⟨by simp [handed, hp], rfl⟩
              · have hp' : (sq j == pr) = false := by simpa using hp
                clear hp
                go_wp2
                go_meet
                case rel => exact ⟨by simp [handed, hp'], rfl⟩
            case rest =>
              obtain ⟨rfl, rfl⟩ := hcut
              go_wp2
              go_loopg [13, 14] i (fun g s13 s14 w3 => ∃ (l : Nat), g + l = i ∧ s14 = .int .i64 l ∧ s13 = .int .i64 (idx (best sq vw l (sq j))) ∧ ∃ m, w3 = wr.drewN m)
              case atStart => exact ⟨0, by omega, rfl, rfl, m, rfl⟩
              case round =>
                obtain ⟨l, hl, rfl, rfl, m', rfl⟩ := hrel
                by_cases hli : l < i
                · have d0 := Q0.out l hli
                  have d1 := Q1.out l hli
                  by_cases hse : sq l = sq j
                  · have hne : (sq l != sq j) = false := by simp [hse]
                    have HE := hid hse
                    clear hse
                    cases hb : best sq vw l (sq j) with
                    | none =>
                      have HB2 := hid hb
                      clear hb
                      simp only [idx]
                      go_wp2
                      go_quiet (fail)
                      go_wp2
                      go_quiet (fail)
                      go_wp2
                      go_roundg (gk - 1)
                      case measure => omega
                      case rel => exact ⟨l + 1, by omega, by go_num, by rw [best_new HE.out HB2.out]; rfl, _, rfl⟩
                    | some m0 =>
                      have hm0 := best_lt hb
                      have e0 := Q1.out m0 (by omega)
                      have hlt0 : m0 < i := by omega
                      have HB2 := hid hb
                      clear hb hm0
                      simp only [idx]
                      have hg : decide ((m0 : Int) < 0) = false := by simp
                      by_cases hvv : vw m0 < vw l
                      · go_wp2
                        go_quiet (fail)
                        go_wp2
                        go_quiet (fail)
                        go_wp2
                        go_roundg (gk - 1)
                        case measure => omega
                        case rel => exact ⟨l + 1, by omega, by go_num, by rw [best_over HE.out HB2.out hvv]; rfl, _, rfl⟩
                      · go_wp2
                        go_quiet (fail)
                        go_wp2
                        go_quiet (fail)
                        go_wp2
                        go_roundg (gk - 1)
                        case measure => omega
                        case rel => exact ⟨l + 1, by omega, by go_num, by rw [best_stay HE.out HB2.out (by omega)]; rfl, _, rfl⟩
                  · have hne : (sq l != sq j) = true := by simp [hse]
                    have HE := hid hse
                    clear hse
                    go_wp2
                    go_quiet (fail)
                    go_wp2
                    go_roundg (gk - 1)
                    case measure => omega
                    case rel => exact ⟨l + 1, by omega, by go_num, by rw [best_other HE.out], _, rfl⟩
                · have hli' : l = i := by omega
                  subst hli'
                  obtain ⟨m0, hb⟩ : ∃ m0, best sq vw l (sq j) = some m0 := by
                    cases hb : best sq vw l (sq j) with
                    | none => exact absurd rfl (best_none.1 hb j hji)
                    | some m0 => exact ⟨m0, rfl⟩
                  have hm0 := best_lt hb
                  have e0 := Q1.out m0 hm0.1
                  obtain ⟨x3, x4, x5⟩ := HC.out m0 hm0.1
                  rw [hm0.2] at x4
                  have hlt0 : m0 < l := hm0.1
                  have HB2 := hid hb
                  have hf : fm sq vw C l (.int .u64 (sq j)) = some (sl (C m0)) := by rw [fm_at, hb]; rfl
                  have HF := hid hf
                  clear hf hm0
                  rw [hb]
                  clear hb
                  simp only [idx]
                  go_wp2_with (go_at_call 8; refine (cert_any _ _ n (fm sq vw C l) _ _ (by exact snode) (by exact HM.out)).mono ?_; rintro e w' ⟨rfl, rfl⟩; rw [HF.out]; unfold sl; simp only [Option.getD_some])
                  go_quiet (fail)
                  go_wp2
                  go_roundg (l - (j + 1))
                  case measure => omega
                  case rel => exact ⟨j + 1, by omega, by go_num, rfl, _, rfl⟩
          · have hji' : j = i := by omega
            subst hji'
            by_cases hh : handed sq pr j = true
            · rw [hh]
              go_wp2
              go_ret
              exact ⟨rfl, HB.out.trans ⟨rfl, rfl, rfl, Nat.le_refl _, fun _ _ => rfl⟩⟩
            · have hh' : handed sq pr j = false := by simpa using hh
              have hf : fm sq vw C j (.int .u64 pr) = none := by
                rw [fm_at, best_none.2 (fun l hl => handed_false hh' l hl)]; rfl
              have HF := hid hf
              clear hh
              rw [hh']
              clear hh' hf
              have hq := fun w a n c n' c' => run_neq_slice_nil_any (P := Try.prog) w 33 36 a n c n' c' Try.underlying33
              go_wp2_with (go_at_call 8; refine (cert_any _ _ n (fm sq vw C j) _ _ (by exact snode) (by exact HM.out)).mono ?_; rintro e w' ⟨rfl, rfl⟩; rw [HF.out]; simp only [Option.getD_none])
              go_ret
              exact ⟨rfl, HB.out.trans ⟨rfl, rfl, rfl, Nat.le_refl _, fun _ _ => rfl⟩⟩
set_option maxRecDepth 100000 in
set_option maxHeartbeats 1000000 in
theorem walk3_big (a0 a1 : Option Addr) (len0 cap0 len1 cap1 : Nat) (pr : Int) (w : World) (m0 : len0 ≤ maxLen) (m1 : len1 ≤ maxLen)
    (hbig : 4096 < len0 ∨ 4096 < len1) :
    Calls Try.prog 3 #[.slice a0 len0 cap0, .slice a1 len1 cap1, .int .u64 pr] w fun e w' => e = .returned (.bool true) ∧ Below w.heap.size w w' := by
  unfold maxLen at m0 m1
  by_cases h1 : (1048576 : Int) < len0
  · go_enter Try.func3, Try.ntmps3
    go_wp2
    go_ret
    exact ⟨rfl, Below.refl _ _⟩
  by_cases h2 : (1048576 : Int) < len1
  · go_enter Try.func3, Try.ntmps3
    go_wp2
    go_ret
    exact ⟨rfl, Below.refl _ _⟩
  by_cases h3 : (1048576 : Int) < len0 + len1
  · go_enter Try.func3, Try.ntmps3
    go_wp2
    go_ret
    exact ⟨rfl, Below.refl _ _⟩
  by_cases h4 : (4096 : Int) < len0
  · go_enter Try.func3, Try.ntmps3
    go_wp2
    go_ret
    exact ⟨rfl, Below.refl _ _⟩
  · have h5 : (4096 : Int) < len1 := by omega
    go_enter Try.func3, Try.ntmps3
    go_wp2
    go_ret
    exact ⟨rfl, Below.refl _ _⟩

set_option maxRecDepth 100000 in
set_option maxHeartbeats 1000000 in
theorem walk3_none (a0 a1 : Option Addr) (len0 cap0 len1 cap1 : Nat) (pr : Int) (w : World) (l0 : len0 ≤ 4096) (l1 : len1 ≤ 4096)
    (hno : len0 = 0 ∨ len1 = 0) :
    Calls Try.prog 3 #[.slice a0 len0 cap0, .slice a1 len1 cap1, .int .u64 pr] w fun e w' => e = .returned (.bool true) ∧ Below w.heap.size w w' := by
  have hz0 : ¬ (1048576 : Int) < len0 := by omega
  have hz1 : ¬ (1048576 : Int) < len1 := by omega
  have hz2 : ¬ (1048576 : Int) < len0 + len1 := by omega
  have hz3 : ¬ (4096 : Int) < len0 := by omega
  have hz4 : ¬ (4096 : Int) < len1 := by omega
  have HN := hid hno
  clear hno
  go_enter Try.func3, Try.ntmps3
  go_upto_if 34 with (first | (go_at_call 5; go_in))
  go_cut [7] (fun s7 wc => wc = w ∧ s7 = .int .i64 0)
  case first =>
    clear hz0 hz1 hz2 hz3 hz4
    by_cases hk : len1 < len0
    · go_wp2
      go_meet
      case rel => exact ⟨rfl, by have := HN.out; rw [show len1 = 0 by omega]; rfl⟩
    · go_wp2
      go_meet
      case rel => exact ⟨rfl, by have := HN.out; rw [show len0 = 0 by omega]; rfl⟩
  case rest =>
    obtain ⟨rfl, rfl⟩ := hcut
    clear hz0 hz1 hz2 hz3 hz4 HN l0 l1
    go_wp2_with (first | (go_at_call 6; refine (new_any _).mono ?_; rintro e w' ⟨cs, h1, h2, rfl, rfl⟩))
    go_loopg [9, 10] 0 (fun g s9 s10 wr => s9 = .int .i64 0 ∧ wr = (wc.alloc (.map #[] 0)).alloc (.cells cs 60))
    case atStart => exact ⟨rfl, rfl⟩
    case round =>
      obtain ⟨rfl, rfl⟩ := hrel
      go_wp2
      go_loopg [11, 12, 13, 14, 15] 0 (fun g s11 s12 s13 s14 s15 w2 => s12 = .int .i64 0 ∧ s11 = .bool false ∧ w2 = (wc.alloc (.map #[] 0)).alloc (.cells cs 60))
      case atStart => exact ⟨rfl, rfl, rfl⟩
      case round =>
        obtain ⟨rfl, rfl, rfl⟩ := hrel
        have hz : (wc.alloc (Obj.map #[] 0)).heap.size = wc.heap.size + 1 := by simp
        have snode : ((wc.alloc (.map #[] 0)).alloc (.cells cs 60)).cell? ⟨wc.heap.size + 1, 12, none⟩ = some (.map (some wc.heap.size)) := by
          have := World.cell?_alloc_new (wc.alloc (Obj.map #[] 0)) cs 60 12
          rw [hz] at this
          rw [this, h2]
        have smap : MapAt (.int .u64) ((wc.alloc (.map #[] 0)).alloc (.cells cs 60)) wc.heap.size 0 (fun _ => none) :=
          (MapAt.made (.int .u64) wc).of_block (Below.heap_alloc _ _ _ (by simp))
        have SN := hid snode
        have SM := hid smap
        clear hz snode smap h1 h2
        have hq := fun w a n c n' c' => run_neq_slice_nil_any (P := Try.prog) w 33 36 a n c n' c' Try.underlying33
        go_wp2_with (go_at_call 8; refine (cert_any _ _ 0 (fun _ => none) _ _ (by exact SN.out) (by exact SM.out)).mono ?_; rintro e w' ⟨rfl, rfl⟩; simp only [Option.getD_none])
        go_ret
        exact ⟨rfl, ((Below.refl _ _).alloc (Nat.le_refl _) _).alloc (by simp) _⟩
end Go.Proofs.Qxb6615520a
