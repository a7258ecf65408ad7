/-
  The model's small methods: same (17), least (14), compSize (31).
-/
import Derived.Test.Qxb6615025aRows
import Derived.Test.Qxb6615025aBase
namespace Go.Proofs.Qxb6615025a
open Go.RowKit

theorem sq_bound {n u v : Nat} (hn : n ≤ 1024) (hu : u < n) (hv : v < n) : u * n + v < n * n ∧ u * n + v ≤ 1048576 := by
  have h1 : u * n + n ≤ n * n := by
    have := Nat.mul_le_mul_right n (show u + 1 ≤ n by omega)
    rw [Nat.add_mul] at this; omega
  have h2 : n * n ≤ 1024 * 1024 := Nat.mul_le_mul hn hn
  omega

def sameB (d : Nat → Int) (n u v : Nat) : Bool := decide (0 ≤ d (u * n + v)) && decide (0 ≤ d (v * n + u))

set_option maxHeartbeats 1000000 in
theorem same_any (bm bd n u v : Nat) (d : Nat → Int) (w : World) (hn : n ≤ 1024) (hu : u < n) (hv : v < n)
    (c0 : w.cell? ⟨bm, 0, none⟩ = some (.int .i64 n)) (c4 : w.cell? ⟨bm, 4, none⟩ = some (.slice (some ⟨bd, 0, none⟩) (n * n) (n * n))) (hd : Ints w bd (n * n) d) :
    Calls Try.prog 17 #[.pointer (some ⟨bm, 0, none⟩), .int .i64 u, .int .i64 v] w fun e w' => e = .returned (.bool (sameB d n u v)) ∧ ∃ k, w' = w.drewN k := by
  have b1 := sq_bound hn hu hv
  have b2 := sq_bound hn hv hu
  have k1 := hd.cell b1.1
  have k2 := hd.cell b2.1
  have m1 : u * n ≤ 1048576 := by omega
  have m2 : v * n ≤ 1048576 := by omega
  have t1 : ((u : Int) * n + v).toNat = u * n + v := by rw [← Int.natCast_mul, ← Int.natCast_add, Int.toNat_natCast]
  have t2 : ((v : Int) * n + u).toNat = v * n + u := by rw [← Int.natCast_mul, ← Int.natCast_add, Int.toNat_natCast]
  have g1 : 0 ≤ (u : Int) * n ∧ (u : Int) * n ≤ 1048576 := by rw [← Int.natCast_mul]; omega
  have g2 : 0 ≤ (v : Int) * n ∧ (v : Int) * n ≤ 1048576 := by rw [← Int.natCast_mul]; omega
  have g3 : (u : Int) * n + v < n * n := by rw [← Int.natCast_mul, ← Int.natCast_mul]; omega
  have g4 : (v : Int) * n + u < n * n := by rw [← Int.natCast_mul, ← Int.natCast_mul]; omega
  obtain ⟨g1, g1'⟩ := g1
  obtain ⟨g2, g2'⟩ := g2
  clear b1 b2 m1 m2
  clear hd
  by_cases h : 0 ≤ d (u * n + v)
  · have hdec : decide (0 ≤ d (u * n + v)) = true := by simpa using h
    go_enter Try.func17, Try.ntmps17
    go_wp2
    go_quiet (fail)
    go_wp2
    go_ret
    exact ⟨by simp [sameB, h], _, rfl⟩
  · have hdec : decide (0 ≤ d (u * n + v)) = false := by simpa using h
    go_enter Try.func17, Try.ntmps17
    go_wp2
    go_quiet (fail)
    go_wp2
    go_ret
    exact ⟨by unfold sameB; rw [show decide (0 ≤ d (u * n + v)) = false by simp; omega]; rfl, _, rfl⟩

/-- The first w below n that is same with v, else v. -/
def leastN (d : Nat → Int) (n v : Nat) : Nat := ((List.range n).find? fun w => sameB d n v w).getD v

/-- How many are same with v among the first k. -/
def cnt (d : Nat → Int) (n v k : Nat) : Nat := ((List.range k).filter fun w => sameB d n v w).length

theorem cnt_succ (d : Nat → Int) (n v k : Nat) : cnt d n v (k + 1) = cnt d n v k + if sameB d n v k = true then 1 else 0 := by
  unfold cnt
  rw [List.range_succ, List.filter_append]
  by_cases h : sameB d n v k = true <;> simp [h]

theorem cnt_le (d : Nat → Int) (n v k : Nat) : cnt d n v k ≤ k := by
  unfold cnt
  have := List.length_filter_le (fun w => sameB d n v w) (List.range k)
  simpa using this

theorem leastN_hit {d : Nat → Int} {n v k : Nat} (hk : k < n) (hno : ∀ j, j < k → sameB d n v j = false) (h : sameB d n v k = true) : leastN d n v = k := by
  unfold leastN
  have : (List.range n).find? (fun w => sameB d n v w) = some k := by
    rw [List.find?_range_eq_some]
    exact ⟨h, by simpa using hk, fun j hj => by simp [hno j hj]⟩
  rw [this]; rfl

theorem leastN_none {d : Nat → Int} {n v : Nat} (hno : ∀ j, j < n → sameB d n v j = false) : leastN d n v = v := by
  unfold leastN
  have : (List.range n).find? (fun w => sameB d n v w) = none := by
    rw [List.find?_range_eq_none]
    intro j hj
    simp [hno j hj]
  rw [this]; rfl

set_option maxRecDepth 100000 in
set_option maxHeartbeats 1000000 in
theorem least_any (bm bd n v : Nat) (d : Nat → Int) (w : World) (hn : n ≤ 1024) (hv : v < n)
    (c0 : w.cell? ⟨bm, 0, none⟩ = some (.int .i64 n)) (c4 : w.cell? ⟨bm, 4, none⟩ = some (.slice (some ⟨bd, 0, none⟩) (n * n) (n * n))) (hd : Ints w bd (n * n) d) :
    Calls Try.prog 14 #[.pointer (some ⟨bm, 0, none⟩), .int .i64 v] w fun e w' => e = .returned (.int .i64 (leastN d n v)) ∧ ∃ k, w' = w.drewN k := by
  have H := hid (fun u (hu : u < n) k => same_any bm bd n v u d (w.drewN k) hn hv hu c0 c4 hd)
  clear hd c4
  go_enter Try.func14, Try.ntmps14
  go_wp2
  go_loopg [5] n (fun g s5 wr => ∃ k : Nat, g + k = n ∧ s5 = .int .i64 k ∧ (∃ m, wr = w.drewN m) ∧ ∀ j, j < k → sameB d n v j = false)
  case atStart => exact ⟨0, by omega, rfl, ⟨0, rfl⟩, fun j hj => by omega⟩
  case round =>
    obtain ⟨k, hg, rfl, ⟨m, rfl⟩, hno⟩ := hrel
    have HN := hid hno
    clear hno
    by_cases hk : k < n
    · by_cases hb : sameB d n v k = true
      · go_wp2_with (go_at_call 17; refine (H.out k hk m).mono ?_; rintro e w' ⟨rfl, m', rfl⟩; rw [hb])
        go_ret
        exact ⟨by rw [leastN_hit hk HN.out hb]; rfl, _, rfl⟩
      · have hb' : sameB d n v k = false := by simpa using hb
        clear hb
        go_wp2_with (go_at_call 17; refine (H.out k hk m).mono ?_; rintro e w' ⟨rfl, m', rfl⟩; rw [hb'])
        go_roundg (gk - 1)
        case measure => omega
        case rel => exact ⟨k + 1, by omega, by go_num, ⟨_, rfl⟩, fun j hj => by
          rcases Nat.lt_or_ge j k with q | q
          · exact HN.out j q
          · have : j = k := by omega
            subst this; exact hb'⟩
    · go_wp2
      go_ret
      exact ⟨by rw [leastN_none (fun j hj => HN.out j (by omega))]; rfl, _, rfl⟩

set_option maxRecDepth 100000 in
set_option maxHeartbeats 1000000 in
theorem compSize_any (bm bd n v : Nat) (d : Nat → Int) (w : World) (hn : n ≤ 1024) (hv : v < n)
    (c0 : w.cell? ⟨bm, 0, none⟩ = some (.int .i64 n)) (c4 : w.cell? ⟨bm, 4, none⟩ = some (.slice (some ⟨bd, 0, none⟩) (n * n) (n * n))) (hd : Ints w bd (n * n) d) :
    Calls Try.prog 31 #[.pointer (some ⟨bm, 0, none⟩), .int .i64 v] w fun e w' => e = .returned (.int .i64 (cnt d n v n)) ∧ ∃ k, w' = w.drewN k := by
  have H := hid (fun u (hu : u < n) k => same_any bm bd n v u d (w.drewN k) hn hv hu c0 c4 hd)
  clear hd c4
  go_enter Try.func31, Try.ntmps31
  go_wp2
  go_loopg [5, 6] n (fun g s5 s6 wr => ∃ k c : Nat, g + k = n ∧ s6 = .int .i64 k ∧ s5 = .int .i64 c ∧ (∃ m, wr = w.drewN m) ∧ c = cnt d n v k)
  case atStart => exact ⟨0, 0, by omega, rfl, rfl, ⟨0, rfl⟩, rfl⟩
  case round =>
    obtain ⟨k, c, hg, rfl, rfl, ⟨m, rfl⟩, hc⟩ := hrel
    have hcl : c ≤ k := by rw [hc]; exact cnt_le _ _ _ _
    have HN := hid hc
    clear hc
    by_cases hk : k < n
    · by_cases hb : sameB d n v k = true
      · go_wp2_with (go_at_call 17; refine (H.out k hk m).mono ?_; rintro e w' ⟨rfl, m', rfl⟩; rw [hb])
        go_roundg (gk - 1)
        case measure => omega
        case rel => exact ⟨k + 1, c + 1, by omega, by go_num, by go_num, ⟨_, rfl⟩, by rw [cnt_succ, if_pos hb, HN.out]⟩
      · have hb' : sameB d n v k = false := by simpa using hb
        clear hb
        go_wp2_with (go_at_call 17; refine (H.out k hk m).mono ?_; rintro e w' ⟨rfl, m', rfl⟩; rw [hb'])
        go_roundg (gk - 1)
        case measure => omega
        case rel => exact ⟨k + 1, c, by omega, by go_num, rfl, ⟨_, rfl⟩, by rw [cnt_succ, hb', HN.out]; rfl⟩
    · have hk' : k = n := by omega
      subst hk'
      go_wp2
      go_ret
      exact ⟨by rw [HN.out]; rfl, _, rfl⟩
end Go.Proofs.Qxb6615025a
