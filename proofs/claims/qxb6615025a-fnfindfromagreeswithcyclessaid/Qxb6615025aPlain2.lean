/- What numbered and findFrom ask of the graph; how many entries a map has. -/
import Derived.Test.Qxb6615025aPlain
import Derived.Test.Qxb6615025aGraphOf
namespace Go.Proofs.Qxb6615025a
open Go.RowKit Go.MapKept

theorem sm_congr {f f' : Nat → Nat} : ∀ k, (∀ i, i < k → f i ≤ f' i) → sm f k ≤ sm f' k
  | 0, _ => Nat.le_refl _
  | k + 1, h => by
    have := sm_congr k (fun i hi => h i (by omega))
    have := h k (by omega)
    show sm f k + f k ≤ sm f' k + f' k
    omega

theorem sm_list (f : Nat → Nat) (l : List Nat) : ∀ k, k ≤ l.length → sm (fun u => f (l.getD u 0)) k = ((l.take k).map f).sum
  | 0, _ => by simp [sm]
  | k + 1, hk => by
    show sm _ k + f (l.getD k 0) = _
    rw [sm_list f l k (by omega), List.take_succ_eq_append_getElem (by omega), List.map_append, List.sum_append]
    simp [show k < l.length by omega]

theorem sm_tot (rl : List (List ByteArray)) : ∀ k, sm (fun i => (rl.getD i []).length) k ≤ tot rl := by
  have h1 : ∀ k, k ≤ rl.length → sm (fun i => (rl.getD i []).length) k = tot (rl.take k) := by
    intro k
    induction k with
    | zero => intro _; simp [sm, tot]
    | succ k ih =>
      intro hk
      show sm _ k + (rl.getD k []).length = _
      rw [ih (by omega), tot_take (by omega)]
      simp [show k < rl.length by omega]
  have h2 : ∀ k, tot (rl.take k) ≤ tot rl := by
    intro k
    unfold tot
    conv => rhs; rw [← List.take_append_drop k rl, List.map_append, List.sum_append]
    omega
  intro k
  by_cases hk : k ≤ rl.length
  · rw [h1 k hk]; exact h2 k
  · have : ∀ j, sm (fun i => (rl.getD i []).length) (rl.length + j) = tot rl := by
      intro j
      induction j with
      | zero => rw [Nat.add_zero, h1 _ (Nat.le_refl _), List.take_length]
      | succ j ih =>
        show sm _ (rl.length + j) + (rl.getD (rl.length + j) []).length = _
        rw [ih]
        simp
    have := this (k - rl.length)
    rw [show rl.length + (k - rl.length) = k by omega] at this
    omega

theorem nm_of {w : World} {b : Nat} {ids : List ByteArray} {ks : List ByteArray} {src : List Nat} {rl : List (List ByteArray)} {ra : Nat → Option Addr} {rc : Nat → Nat} {ae : Option Addr} {n : Nat}
    (hK : KS ids ids.length ks src) (hkl : ks.length = n) (hnn : n ≤ 1024) (hsz : ∀ s ∈ ids, s.size ≤ 1048576) (ht : 16 * tot rl ≤ 1048576) (hG : GM w b (gl rl ra rc ks src n)) (hE : Edg w ae ra rc rl) :
    Nm w b (gl rl ra rc ks src n) ks (fun i => eA rl ra (src.getD i 0)) (fun i => rl.getD (src.getD i 0) []) (fun i => eC rl rc (src.getD i 0)) n where
  gm := hG
  pm := by
    have : (gl rl ra rc ks src n).map Prod.fst = ks := by
      unfold gl
      rw [List.map_map, ← hkl]
      apply List.ext_getElem
      · simp
      · intro i h1 h2
        simp [h2]
    rw [this]
  so := hK.so
  kl := hkl
  nn := hnn
  sz := fun s hs => by
    obtain ⟨j, _, h2, _⟩ := hK.ky s hs
    exact hsz s (List.mem_of_getElem? h2)
  va := fun i s hi => by
    have hil := (List.getElem?_eq_some_iff.1 hi).1
    refine ⟨?_, hE.row _⟩
    unfold gl
    rw [List.mem_map]
    refine ⟨i, by simp; omega, ?_⟩
    have : ks.getD i ByteArray.empty = s := by rw [List.getD_eq_getElem?_getD, hi]; rfl
    rw [this]
  tt := fun i _ => by
    have := sm_tot rl (src.getD i 0 + 1)
    have h2 : (rl.getD (src.getD i 0) []).length ≤ sm (fun i => (rl.getD i []).length) (src.getD i 0 + 1) := by
      show _ ≤ sm _ (src.getD i 0) + (rl.getD (src.getD i 0) []).length
      omega
    show (rl.getD (src.getD i 0) []).length ≤ 1048576
    omega
  rr := fun k hk j => by
    have h1 := revAt_len (nx ks (fun i => rl.getD (src.getD i 0) [])) k j
    have h2 : sm (fun u => (nx ks (fun i => rl.getD (src.getD i 0) []) u).length) k ≤ sm (fun u => (rl.getD (src.getD u 0) []).length) k := sm_congr k (fun i _ => List.length_filterMap_le _ _)
    have h3 := sm_list (fun i => (rl.getD i []).length) src k (by rw [hK.len]; omega)
    have h4 := sum_nodup (fun i => (rl.getD i []).length) ids.length (src.take k) (hK.nd.sublist (List.take_sublist _ _)) (fun x hx => hK.lt x (List.mem_of_mem_take hx))
    have h5 := sm_tot rl ids.length
    omega

/-- How many entries a map has whose keys are known. -/
theorem MapAt.count {w : World} {b c : Nat} {fm : Value → Option Value} (h : MapAt .string w b c fm) {kl : List Value} (hnd : kl.Nodup) (hk : ∀ k ∈ kl, IsKey .string k ∧ fm k ≠ none) (hno : ∀ k, IsKey .string k → k ∉ kl → fm k = none) : c = kl.length := by
  obtain ⟨es, cl, hb, hn, hks, hnd2, hf⟩ := h
  have hp : (es.toList.map (·.key)).Perm kl := by
    refine (List.perm_ext_iff_of_nodup hnd2 hnd).2 fun k => ?_
    constructor
    · intro hm
      obtain ⟨x, hx, rfl⟩ := List.mem_map.1 hm
      refine Classical.byContradiction fun q => ?_
      have h1 := hno x.key (hks x hx) q
      rw [← hf x.key (hks x hx)] at h1
      have key : ∀ es : List MapEntry, x ∈ es → getK .string x.key es ≠ none := by
        intro es
        induction es with
        | nil => intro q; simp at q
        | cons a es ih =>
          intro hxm
          unfold getK
          split
          · simp
          · rename_i hne
            simp only [List.mem_cons] at hxm
            rcases hxm with rfl | hxm
            · exact absurd (sameNow_eq (hks x hx)) hne
            · exact ih hxm
      exact key es.toList hx h1
    · intro hm
      obtain ⟨h1, h2⟩ := hk k hm
      refine Classical.byContradiction fun q => ?_
      refine h2 ?_
      rw [← hf k h1]
      exact getK_none h1 hks (fun x hx e => q (List.mem_map.2 ⟨x, hx, e⟩))
  have := hp.length_eq
  rw [List.length_map, Array.length_toList] at this
  omega
end Go.Proofs.Qxb6615025a
