/-
  The interval stack, as plain functions: what push, pop and last come to.
-/
import Derived.Test.Qxb6615025aLast
namespace Go.Proofs.Qxb6615025a

theorem snoc_ind {α : Type} {P : List α → Prop} (h0 : P []) (h1 : ∀ l x, P l → P (l ++ [x])) (l : List α) : P l := by
  have h : ∀ l : List α, P l.reverse := fun l => by
    induction l with
    | nil => exact h0
    | cons a t ih => rw [List.reverse_cons]; exact h1 _ _ ih
  have := h l.reverse
  rwa [List.reverse_reverse] at this

theorem coverL_ge : ∀ (k lo hi x : Nat), hi ≤ 2 * lo → x ∈ coverL k lo hi → 0 < x
  | 0, _, _, _, _, h => by simp [coverL] at h
  | k + 1, lo, hi, x, hb, h => by
    simp only [coverL] at h
    split at h
    · simp only [List.mem_append] at h
      rcases h with h | h | h
      · split at h <;> simp at h; omega
      · split at h <;> simp at h; omega
      · exact coverL_ge k _ _ x (by omega) h
    · simp at h

theorem coverL_nodup : ∀ (k lo hi : Nat), hi ≤ 2 * lo → (coverL k lo hi).Nodup
  | 0, _, _, _ => by simp [coverL]
  | k + 1, lo, hi, hb => by
    simp only [coverL]
    split
    · rename_i hlt
      have ih := coverL_nodup k ((lo + lo % 2) / 2) ((hi - hi % 2) / 2) (by omega)
      have hx : ∀ x ∈ coverL k ((lo + lo % 2) / 2) ((hi - hi % 2) / 2), x < lo := fun x h => by
        have := coverL_lt _ _ _ _ h
        omega
      rw [List.nodup_append]
      refine ⟨by split <;> simp, ?_, ?_⟩
      · rw [List.nodup_append]
        refine ⟨by split <;> simp, ih, ?_⟩
        intro a ha b hb2 e
        have := hx b hb2
        split at ha <;> simp at ha
        omega
      · intro a ha b hb2 e
        split at ha <;> simp at ha
        simp only [List.mem_append] at hb2
        rcases hb2 with h | h
        · split at h <;> simp at h
          omega
        · have := hx b h
          omega
    · simp

theorem ups_le : ∀ (k x y : Nat), y ∈ ups k x → y ≤ x
  | 0, _, _, h => by simp [ups] at h
  | k + 1, x, y, h => by
    simp only [ups] at h
    split at h
    · simp at h
    · simp at h
      rcases h with h | h
      · omega
      · have := ups_le k _ _ h
        omega

theorem cover_ups : ∀ (k j lo hi x : Nat), hi ≤ k → x < j → hi ≤ 2 * lo → hi ≤ 2 * x + 1 → x < 2 * lo →
    ((∃ y ∈ ups j x, y ∈ coverL k lo hi) ↔ lo ≤ x ∧ x < hi)
  | 0, j, lo, hi, x, hk, hj, h1, h2, h3 => by
    have : hi = 0 := by omega
    subst this
    simp [coverL]
  | k + 1, 0, lo, hi, x, hk, hj, h1, h2, h3 => by omega
  | k + 1, j + 1, lo, hi, x, hk, hj, h1, h2, h3 => by
    by_cases hlt : lo < hi
    · by_cases hx0 : x = 0
      · subst hx0
        simp [ups]
        omega
      · have ih := cover_ups k j ((lo + lo % 2) / 2) ((hi - hi % 2) / 2) (x / 2) (by omega) (by omega) (by omega) (by omega) (by omega)
        simp only [ups, coverL, if_neg hx0, if_pos hlt]
        constructor
        · rintro ⟨y, hy, hc⟩
          simp only [List.mem_cons] at hy
          simp only [List.mem_append] at hc
          rcases hy with rfl | hy
          · rcases hc with hc | hc | hc
            · split at hc <;> simp at hc
              omega
            · split at hc <;> simp at hc
              omega
            · have := coverL_lt _ _ _ _ hc
              omega
          · have hyl := ups_le _ _ _ hy
            rcases hc with hc | hc | hc
            · split at hc <;> simp at hc
              omega
            · split at hc <;> simp at hc
              omega
            · have := ih.1 ⟨y, hy, hc⟩
              omega
        · intro hr
          by_cases c1 : lo % 2 = 1 ∧ x = lo
          · exact ⟨x, by simp, by simp [c1.1, c1.2]⟩
          · by_cases c2 : hi % 2 = 1 ∧ x = hi - 1
            · exact ⟨x, by simp, by simp [c2.1, c2.2]⟩
            · obtain ⟨y, hy, hc⟩ := ih.2 (by omega)
              exact ⟨y, by simp [hy], by simp [hc]⟩
    · simp only [coverL_stop hlt]
      simp
      omega

/-- At a place of the tree: the interval's nodes meet the nodes above it just where the interval holds it. -/
theorem nodes_ups {n lo hi p : Nat} (hhi : hi ≤ n) (hp : p < n) : (∃ y ∈ ups (p + n + 1) (p + n), y ∈ nodes n lo hi) ↔ lo ≤ p ∧ p < hi := by
  have := cover_ups (hi + n) (p + n + 1) (lo + n) (hi + n) (p + n) (by omega) (by omega) (by omega) (by omega) (by omega)
  unfold nodes
  rw [this]
  omega

theorem nodes_nodup {n lo hi : Nat} (hhi : hi ≤ n) : (nodes n lo hi).Nodup := coverL_nodup _ _ _ (by omega)

theorem push_held (u : Int) : ∀ (ns : List Nat) (top : Nat → Int) (held : List (Int × Int)), ns.Nodup → (ns.foldl (pushN u) (top, held)).2 = held ++ ns.map fun y => (u, top y)
  | [], _, _, _ => by simp
  | x :: ns, top, held, h => by
    rw [List.nodup_cons] at h
    rw [List.foldl_cons]
    show (ns.foldl (pushN u) (upd top x held.length, held ++ [(u, top x)])).2 = _
    rw [push_held u ns _ _ h.2]
    simp only [List.map_cons, List.append_assoc, List.cons_append, List.nil_append]
    congr 2
    apply List.map_congr_left
    intro y hy
    have hne : y ≠ x := fun q => h.1 (by rw [← q]; exact hy)
    rw [upd_other _ _ hne]

theorem push_top (u : Int) : ∀ (ns : List Nat) (top : Nat → Int) (held : List (Int × Int)), ns.Nodup → ∀ y,
    (y ∉ ns → (ns.foldl (pushN u) (top, held)).1 y = top y) ∧ (∀ i (hi : i < ns.length), ns[i] = y → (ns.foldl (pushN u) (top, held)).1 y = held.length + i)
  | [], _, _, _, y => by simp
  | x :: ns, top, held, h, y => by
    rw [List.nodup_cons] at h
    rw [List.foldl_cons]
    have ih := push_top u ns (upd top x held.length) (held ++ [(u, top x)]) h.2 y
    constructor
    · intro hy
      simp at hy
      have := ih.1 hy.2
      rw [show pushN u (top, held) x = (upd top x held.length, held ++ [(u, top x)]) from rfl, this, upd_other _ _ hy.1]
    · intro i hi hxy
      rw [show pushN u (top, held) x = (upd top x held.length, held ++ [(u, top x)]) from rfl]
      cases i with
      | zero =>
        simp at hxy
        subst hxy
        rw [ih.1 h.1]
        simp
      | succ i =>
        simp at hxy
        rw [ih.2 i (by simpa using hi) hxy]
        simp
        omega

/-- What holds of the tops. -/
def SI (top : Nat → Int) (held : List (Int × Int)) : Prop := ∀ y, -1 ≤ top y ∧ top y < held.length

theorem SI.push {top : Nat → Int} {held : List (Int × Int)} (h : SI top held) (u : Int) {ns : List Nat} (hd : ns.Nodup) : SI (ns.foldl (pushN u) (top, held)).1 (ns.foldl (pushN u) (top, held)).2 := by
  intro y
  have hl : (ns.foldl (pushN u) (top, held)).2.length = held.length + ns.length := pushN_len u ns (top, held)
  rw [hl]
  obtain ⟨h1, h2⟩ := push_top u ns top held hd y
  by_cases hy : y ∈ ns
  · obtain ⟨i, hi, he⟩ := List.getElem_of_mem hy
    rw [h2 i hi he]
    omega
  · rw [h1 hy]
    have := h y
    omega

/-- Popping takes back what was pushed. -/
theorem pop_push (u : Int) (ns : List Nat) (top : Nat → Int) (held : List (Int × Int)) (hd : ns.Nodup) :
    ∀ l r, l ++ r = ns → l.foldl (popN (ns.foldl (pushN u) (top, held)).2) (ns.foldl (pushN u) (top, held)).1 = fun y => if y ∈ l then top y else (ns.foldl (pushN u) (top, held)).1 y := by
  intro l
  refine snoc_ind (P := fun l => ∀ r, l ++ r = ns → l.foldl (popN (ns.foldl (pushN u) (top, held)).2) (ns.foldl (pushN u) (top, held)).1 = fun y => if y ∈ l then top y else (ns.foldl (pushN u) (top, held)).1 y) ?_ ?_ l
  · intro r _; simp
  · intro l x ih r hr
    have ih' := ih (x :: r) (by simpa using hr)
    rw [List.foldl_append, ih']
    simp only [List.foldl_cons, List.foldl_nil]
    have hxl : x ∉ l := by
      rw [← hr] at hd
      have h2 : (l ++ [x]).Nodup := (List.nodup_append.1 hd).1
      have h3 := (List.nodup_append.1 h2).2.2
      exact fun q => h3 x q x (by simp) rfl
    have hi : l.length < ns.length := by rw [← hr]; simp
    have hix : ns[l.length] = x := by simp [← hr]
    have htop := (push_top u ns top held hd x).2 l.length hi hix
    have hlen := pushN_len u ns (top, held)
    have hpop := popN_eq (held := (ns.foldl (pushN u) (top, held)).2) (top := fun y => if y ∈ l then top y else (ns.foldl (pushN u) (top, held)).1 y) (x := x) (t := held.length + l.length)
      (by simp [hxl, htop]) (by rw [hlen]; simp; omega)
    rw [hpop]
    have hval : (ns.foldl (pushN u) (top, held)).2[held.length + l.length]'(by rw [hlen]; simp; omega) = (u, top x) := by
      simp only [push_held u ns top held hd]
      rw [List.getElem_append_right (by omega)]
      simp [hix]
    rw [hval]
    funext y
    by_cases e : y = x
    · subst e; simp
    · rw [upd_other _ _ e]; simp [e]
/-- The stack that a path makes. -/
def stk (ps sz : Nat → Int) (n : Nat) (path : List Nat) : (Nat → Int) × List (Int × Int) :=
  path.foldl (fun s u => (nodes n (ps u).toNat ((ps u).toNat + (sz u).toNat)).foldl (pushN u) s) (fun _ => -1, [])

/-- The places of each of these nodes lie within n. -/
def Fits (ps sz : Nat → Int) (n : Nat) (path : List Nat) : Prop := ∀ u ∈ path, 0 ≤ ps u ∧ 0 ≤ sz u ∧ ps u + sz u ≤ n

theorem stk_snoc (ps sz : Nat → Int) (n : Nat) (path : List Nat) (u : Nat) : stk ps sz n (path ++ [u]) = (nodes n (ps u).toNat ((ps u).toNat + (sz u).toNat)).foldl (pushN u) (stk ps sz n path) := by
  simp [stk]

theorem Fits.snoc {ps sz : Nat → Int} {n : Nat} {path : List Nat} {u : Nat} (h : Fits ps sz n (path ++ [u])) : Fits ps sz n path ∧ 0 ≤ ps u ∧ 0 ≤ sz u ∧ ps u + sz u ≤ n :=
  ⟨fun x hx => h x (by simp [hx]), h u (by simp)⟩

theorem stk_SI {ps sz : Nat → Int} {n : Nat} (path : List Nat) : Fits ps sz n path → SI (stk ps sz n path).1 (stk ps sz n path).2 := by
  refine snoc_ind (P := fun path => Fits ps sz n path → SI (stk ps sz n path).1 (stk ps sz n path).2) ?_ ?_ path
  · intro _ y; simp [stk]
  · intro l u ih h
    obtain ⟨h1, h2, h3, h4⟩ := h.snoc
    rw [stk_snoc]
    exact (ih h1).push u (nodes_nodup (by omega))

theorem stk_len {ps sz : Nat → Int} {n : Nat} (hn : n ≤ 1024) (path : List Nat) : Fits ps sz n path → (stk ps sz n path).2.length ≤ 24 * path.length := by
  refine snoc_ind (P := fun path => Fits ps sz n path → (stk ps sz n path).2.length ≤ 24 * path.length) ?_ ?_ path
  · intro _; simp [stk]
  · intro l u ih h
    obtain ⟨h1, h2, h3, h4⟩ := h.snoc
    rw [stk_snoc, pushN_len]
    have := ih h1
    have := nodes_len (n := n) (lo := (ps u).toNat) (hi := (ps u).toNat + (sz u).toNat) (by omega) hn
    simp
    omega

/-- What pop asks, and what it leaves. -/
theorem stk_pop {ps sz : Nat → Int} {n : Nat} {path : List Nat} {u lo s : Nat} (h : Fits ps sz n (path ++ [u])) (hlo : ps u = lo) (hs : sz u = s) :
    (∀ l x, (l ++ [x]) <+: nodes n lo (lo + s) → ∃ t : Nat, t < (stk ps sz n (path ++ [u])).2.length ∧ (l.foldl (popN (stk ps sz n (path ++ [u])).2) (stk ps sz n (path ++ [u])).1) x = (t : Int)) ∧
    (nodes n lo (lo + s)).length ≤ (stk ps sz n (path ++ [u])).2.length ∧
    (nodes n lo (lo + s)).foldl (popN (stk ps sz n (path ++ [u])).2) (stk ps sz n (path ++ [u])).1 = (stk ps sz n path).1 ∧
    (stk ps sz n (path ++ [u])).2.take ((stk ps sz n (path ++ [u])).2.length - (nodes n lo (lo + s)).length) = (stk ps sz n path).2 := by
  obtain ⟨h1, h2, h3, h4⟩ := h.snoc
  have hd : (nodes n lo (lo + s)).Nodup := nodes_nodup (by omega)
  have e : stk ps sz n (path ++ [u]) = (nodes n lo (lo + s)).foldl (pushN u) ((stk ps sz n path).1, (stk ps sz n path).2) := by
    rw [stk_snoc, hlo, hs]; rfl
  rw [e]
  have hlen := pushN_len u (nodes n lo (lo + s)) ((stk ps sz n path).1, (stk ps sz n path).2)
  refine ⟨?_, ?_, ?_, ?_⟩
  · rintro l x ⟨r, hr⟩
    have := pop_push u _ (stk ps sz n path).1 (stk ps sz n path).2 hd l ([x] ++ r) (by simpa using hr)
    rw [this]
    have hxl : x ∉ l := by
      rw [← hr] at hd
      have h2 : (l ++ [x]).Nodup := (List.nodup_append.1 hd).1
      have h3 := (List.nodup_append.1 h2).2.2
      exact fun q => h3 x q x (by simp) rfl
    have hi : l.length < (nodes n lo (lo + s)).length := by rw [← hr]; simp
    have hix : (nodes n lo (lo + s))[l.length] = x := by simp [← hr]
    have htop := (push_top u _ (stk ps sz n path).1 (stk ps sz n path).2 hd x).2 l.length hi hix
    refine ⟨(stk ps sz n path).2.length + l.length, by rw [hlen]; simp; omega, ?_⟩
    simp [hxl, htop]
  · rw [hlen]; simp
  · have := pop_push u _ (stk ps sz n path).1 (stk ps sz n path).2 hd (nodes n lo (lo + s)) [] (by simp)
    rw [this]
    funext y
    by_cases hy : y ∈ nodes n lo (lo + s)
    · simp [hy]
    · simp [hy, (push_top u _ (stk ps sz n path).1 (stk ps sz n path).2 hd y).1 hy]
  · rw [hlen, push_held u _ _ _ hd]
    simp

theorem latest_le (top : Nat → Int) : ∀ (l : List Nat) (a b : Int), a ≤ b → (∀ y ∈ l, top y ≤ b) → latest top l a ≤ b
  | [], a, b, h, _ => h
  | x :: l, a, b, h, hl => by
    have := hl x (by simp)
    exact latest_le top l (max a (top x)) b (by omega) (fun y hy => hl y (by simp [hy]))

theorem latest_ge (top : Nat → Int) : ∀ (l : List Nat) (a : Int), a ≤ latest top l a ∧ ∀ y ∈ l, top y ≤ latest top l a
  | [], a => by simp [latest]
  | x :: l, a => by
    have ih := latest_ge top l (max a (top x))
    have e : latest top (x :: l) a = latest top l (max a (top x)) := rfl
    rw [e]
    refine ⟨by omega, fun y hy => ?_⟩
    simp at hy
    rcases hy with rfl | hy
    · omega
    · exact ih.2 y hy

theorem latest_congr {top top' : Nat → Int} : ∀ (l : List Nat) (a : Int), (∀ y ∈ l, top y = top' y) → latest top l a = latest top' l a
  | [], _, _ => rfl
  | x :: l, a, h => by
    show latest top l (max a (top x)) = latest top' l (max a (top' x))
    rw [h x (by simp)]
    exact latest_congr l _ (fun y hy => h y (by simp [hy]))

theorem lastV_push {top : Nat → Int} {held : List (Int × Int)} (h : SI top held) {n lo hi p u : Nat} (hhi : hi ≤ n) (hp : p < n) :
    lastV ((nodes n lo hi).foldl (pushN u) (top, held)).1 ((nodes n lo hi).foldl (pushN u) (top, held)).2 (p + n) = if lo ≤ p ∧ p < hi then (u : Int) else lastV top held (p + n) := by
  have hd : (nodes n lo hi).Nodup := nodes_nodup hhi
  have hm := nodes_ups (lo := lo) hhi hp
  have hlen := pushN_len u (nodes n lo hi) (top, held)
  have hS := h.push u hd
  have hb := latest_le ((nodes n lo hi).foldl (pushN u) (top, held)).1 (ups (p + n + 1) (p + n)) (-1) (((nodes n lo hi).foldl (pushN u) (top, held)).2.length - 1) (by omega) (fun y _ => by have := (hS y).2; omega)
  split
  · rename_i hc
    obtain ⟨y, hy, hyn⟩ := hm.2 hc
    obtain ⟨i, hii, he⟩ := List.getElem_of_mem hyn
    have h1 := (push_top u _ top held hd y).2 i hii he
    have h2 := (latest_ge ((nodes n lo hi).foldl (pushN u) (top, held)).1 (ups (p + n + 1) (p + n)) (-1)).2 y hy
    rw [h1] at h2
    unfold lastV
    rw [if_neg (by omega)]
    obtain ⟨m, hm2⟩ : ∃ m : Nat, latest ((nodes n lo hi).foldl (pushN u) (top, held)).1 (ups (p + n + 1) (p + n)) (-1) = (held.length + m : Nat) := ⟨(latest ((nodes n lo hi).foldl (pushN u) (top, held)).1 (ups (p + n + 1) (p + n)) (-1)).toNat - held.length, by omega⟩
    rw [hm2] at hb ⊢
    rw [hlen] at hb
    have hml : m < (nodes n lo hi).length := by simp at hb; omega
    rw [Int.toNat_natCast, push_held u _ _ _ hd, List.getElem?_append_right (by omega)]
    simp [hml]
  · rename_i hc
    have hno : ∀ y ∈ ups (p + n + 1) (p + n), y ∉ nodes n lo hi := fun y hy hn => hc (hm.1 ⟨y, hy, hn⟩)
    have e := latest_congr (ups (p + n + 1) (p + n)) (-1) (fun y hy => (push_top u _ top held hd y).1 (hno y hy))
    have hb2 := latest_le top (ups (p + n + 1) (p + n)) (-1) (held.length - 1) (by omega) (fun y _ => by have := (h y).2; omega)
    unfold lastV
    rw [e]
    split
    · rfl
    · rw [push_held u _ _ _ hd, List.getElem?_append_left (by omega)]

/-- The last node on the path whose places hold p. -/
theorem stk_last {ps sz : Nat → Int} {n p : Nat} (hp : p < n) (path : List Nat) : Fits ps sz n path →
    lastV (stk ps sz n path).1 (stk ps sz n path).2 (p + n) = ((path.reverse.find? fun u => decide (ps u ≤ p ∧ p < ps u + sz u)).map (fun u : Nat => (u : Int))).getD (-1) := by
  refine snoc_ind (P := fun path => Fits ps sz n path → lastV (stk ps sz n path).1 (stk ps sz n path).2 (p + n) = ((path.reverse.find? fun u => decide (ps u ≤ p ∧ p < ps u + sz u)).map (fun u : Nat => (u : Int))).getD (-1)) ?_ ?_ path
  · intro _
    have e : latest (fun _ : Nat => (-1 : Int)) (ups (p + n + 1) (p + n)) (-1) = -1 := by
      have h1 := latest_le (fun _ : Nat => (-1 : Int)) (ups (p + n + 1) (p + n)) (-1) (-1) (by omega) (fun _ _ => by omega)
      have h2 := (latest_ge (fun _ : Nat => (-1 : Int)) (ups (p + n + 1) (p + n)) (-1)).1
      omega
    show lastV (fun _ : Nat => (-1 : Int)) [] (p + n) = _
    unfold lastV
    rw [e]
    simp
  · intro l u ih h
    obtain ⟨h1, h2, h3, h4⟩ := h.snoc
    rw [stk_snoc]
    have hS := stk_SI l h1
    have := lastV_push (u := u) hS (lo := (ps u).toNat) (hi := (ps u).toNat + (sz u).toNat) (n := n) (p := p) (by omega) hp
    rw [show ((stk ps sz n l).1, (stk ps sz n l).2) = stk ps sz n l from rfl] at this
    rw [this]
    simp only [List.reverse_append, List.reverse_cons, List.reverse_nil, List.nil_append, List.cons_append, List.find?_cons]
    by_cases hc : ps u ≤ p ∧ p < ps u + sz u
    · rw [if_pos (by omega)]
      simp [hc]
    · rw [if_neg (by omega), ih h1]
      simp [hc]
end Go.Proofs.Qxb6615025a
