/-
  The walk breadth first, as plain functions.
-/
import Derived.Test.Qxb6615025aBase
namespace Go.Proofs.Qxb6615025a

/-- A list of different numbers below n has at most n of them. -/
theorem nodup_len : ∀ (n : Nat) (l : List Nat), l.Nodup → (∀ x ∈ l, x < n) → l.length ≤ n
  | 0, l, _, h => by
    cases l with
    | nil => simp
    | cons a t => exact absurd (h a (by simp)) (by omega)
  | n + 1, l, hd, h => by
    have h1 := nodup_len n (l.filter (fun x => x != n)) (hd.filter _) (fun x hx => by
      simp at hx
      have := h x hx.1
      omega)
    have h2 : (l.filter (fun x => x == n)).length ≤ 1 := by
      have hd2 := hd.filter (fun x => x == n)
      cases hl : l.filter (fun x => x == n) with
      | nil => simp
      | cons a t =>
        cases t with
        | nil => simp
        | cons b t =>
          rw [hl] at hd2
          have ha : a ∈ l.filter (fun x => x == n) := by rw [hl]; simp
          have hb : b ∈ l.filter (fun x => x == n) := by rw [hl]; simp
          simp at ha hb
          simp [ha.2, hb.2] at hd2
    have h3 : ∀ l : List Nat, l.length = (l.filter (fun x => x == n)).length + (l.filter (fun x => x != n)).length := by
      intro l
      induction l with
      | nil => simp
      | cons a t ih =>
        by_cases e : a = n
        · simp [e]; omega
        · simp [e]; omega
    have := h3 l
    omega

/-- The state of a walk breadth first: from, depth, the queue. -/
structure GS where
  fr : Nat → Int
  dp : Nat → Int
  rc : List Nat

/-- The edge from u to v is looked at. -/
def visit (within : Nat → Bool) (u : Nat) (s : GS) (v : Nat) : GS :=
  if s.fr v = -2 ∧ within v = true then ⟨upd s.fr v u, upd s.dp v (s.dp u + 1), s.rc ++ [v]⟩ else s

/-- The walk's loop, from the queue's place k on. -/
def growL (within : Nat → Bool) (next : Nat → List Nat) : Nat → Nat → GS → GS
  | 0, _, s => s
  | f + 1, k, s => match s.rc[k]? with
    | none => s
    | some u => growL within next f (k + 1) ((next u).foldl (visit within u) s)

/-- What the walk begins with. -/
def grow0 (fr dp : Nat → Int) (start : Nat) : GS := ⟨upd fr start (-1), upd dp start 0, [start]⟩

/-- What holds all along. -/
structure GI (n : Nat) (s : GS) : Prop where
  nd : s.rc.Nodup
  lt : ∀ v ∈ s.rc, v < n
  fr : ∀ v ∈ s.rc, s.fr v ≠ -2
  dp : ∀ i (h : i < s.rc.length), 0 ≤ s.dp s.rc[i] ∧ s.dp s.rc[i] ≤ i

theorem GI.len {n : Nat} {s : GS} (h : GI n s) : s.rc.length ≤ n := nodup_len n _ h.nd h.lt

theorem GI.start {n start : Nat} (fr dp : Nat → Int) (h : start < n) : GI n (grow0 fr dp start) :=
  ⟨by simp [grow0], by simp [grow0, h], by simp [grow0], fun i hi => by
    simp [grow0] at hi
    subst hi
    simp [grow0]⟩

theorem GI.visit {n u v : Nat} {within : Nat → Bool} {s : GS} (h : GI n s) (hu : u ∈ s.rc) (hv : v < n) : GI n (visit within u s v) := by
  unfold Qxb6615025a.visit
  split
  · rename_i hc
    have hnot : v ∉ s.rc := fun q => h.fr v q hc.1
    obtain ⟨i, hi, hiu⟩ := List.getElem_of_mem hu
    have hd := h.dp i hi
    rw [hiu] at hd
    refine ⟨?_, ?_, ?_, ?_⟩
    · simp only
      rw [List.nodup_append]
      refine ⟨h.nd, by simp, ?_⟩
      intro a ha b hb e
      simp at hb
      subst hb
      subst e
      exact hnot ha
    · intro x hx
      simp at hx
      rcases hx with q | q
      · exact h.lt x q
      · omega
    · intro x hx
      simp at hx
      by_cases e : x = v
      · subst e
        simp
      · show upd s.fr v u x ≠ -2
        rw [upd_other _ _ e]
        rcases hx with q | q
        · exact h.fr x q
        · exact absurd q e
    · intro j hj
      simp at hj
      by_cases e : j < s.rc.length
      · simp only [List.getElem_append_left e]
        rw [upd_other _ _ (fun q => hnot (by rw [← q]; exact List.getElem_mem e))]
        exact h.dp j e
      · have : j = s.rc.length := by omega
        subst this
        simp
        omega
  · exact h

theorem visit_rc {within : Nat → Bool} {u v : Nat} {s : GS} : ∃ t, (visit within u s v).rc = s.rc ++ t := by
  unfold visit
  split
  · exact ⟨[v], rfl⟩
  · exact ⟨[], by simp⟩

theorem growL_stop {within : Nat → Bool} {next : Nat → List Nat} {f k : Nat} {s : GS} (h : s.rc.length ≤ k) : growL within next f k s = s := by
  cases f with
  | zero => rfl
  | succ f => simp [growL, List.getElem?_eq_none h]

theorem growL_step {within : Nat → Bool} {next : Nat → List Nat} {f k : Nat} {s : GS} (h : k < s.rc.length) :
    growL within next (f + 1) k s = growL within next f (k + 1) ((next s.rc[k]).foldl (visit within s.rc[k]) s) := by
  simp [growL, List.getElem?_eq_getElem h]
end Go.Proofs.Qxb6615025a
