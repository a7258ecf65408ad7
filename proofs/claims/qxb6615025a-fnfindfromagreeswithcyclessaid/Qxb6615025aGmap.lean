/- The graph's map; where a key stands; the keys sorted. -/
import Derived.Test.Qxb6615025aMaps
import Derived.Test.Qxb6615025aSort
import Derived.Test.Qxb6615025aLead
import Derived.Test.Qxb6615025aRev
namespace Go.Proofs.Qxb6615025a
open Go.RowKit Go.MapKept Go.Maps

/-- Where s stands among the keys. -/
def idx (ks : List ByteArray) (s : ByteArray) : Option Nat := ks.findIdx? (fun t => decide (t = s))

theorem idx_some {ks : List ByteArray} {s : ByteArray} {j : Nat} (h : idx ks s = some j) : ks[j]? = some s := by
  unfold idx at h
  obtain ⟨h1, h2, _⟩ := List.findIdx?_eq_some_iff_getElem.1 h
  rw [List.getElem?_eq_getElem h1]
  simpa using h2

theorem idx_none {ks : List ByteArray} {s : ByteArray} (h : idx ks s = none) : s ∉ ks := by
  unfold idx at h
  rw [List.findIdx?_eq_none_iff] at h
  intro q
  have := h s q
  simp at this

theorem idx_get {ks : List ByteArray} (hnd : ks.Nodup) {j : Nat} {s : ByteArray} (h : ks[j]? = some s) : idx ks s = some j := by
  cases hi : idx ks s with
  | none => exact absurd (List.mem_of_getElem? h) (idx_none hi)
  | some i =>
    have := idx_some hi
    have hl := (List.getElem?_eq_some_iff.1 this).1
    rw [(List.getElem?_inj hl hnd).1 (this.trans h.symm)]

theorem idx_lt {ks : List ByteArray} {s : ByteArray} {j : Nat} (h : idx ks s = some j) : j < ks.length := (List.getElem?_eq_some_iff.1 (idx_some h)).1

/-- A map from the keys to where they stand. -/
def fix (ks : List ByteArray) : Value → Option Value
  | .string s => (idx ks s).map fun j : Nat => .int .i64 (j : Int)
  | _ => none

theorem isS (s : ByteArray) : IsKey .string (.string s) := True.intro

theorem fix_snoc {ks : List ByteArray} {s : ByteArray} (hs : s ∉ ks) (k : Value) (hk : IsKey .string k) : updK .string (.string s) (.int .i64 (ks.length : Int)) (fix ks) k = fix (ks ++ [s]) k := by
  cases k with
  | string t =>
    by_cases e : t = s
    · subst e
      rw [updK_same (isS t)]
      have : idx (ks ++ [t]) t = some ks.length := by
        cases hi : idx (ks ++ [t]) t with
        | none => exact absurd (by simp) (idx_none hi)
        | some i =>
          have := idx_some hi
          by_cases hil : i < ks.length
          · rw [List.getElem?_append_left hil] at this
            exact absurd (List.mem_of_getElem? this) hs
          · have := (List.getElem?_eq_some_iff.1 this).1
            simp at this
            congr 1
            omega
      simp [fix, this]
    · rw [updK_other (isS s) hk (by simpa using e)]
      show (idx ks t).map _ = (idx (ks ++ [s]) t).map _
      congr 1
      unfold idx
      rw [List.findIdx?_append]
      have : List.findIdx? (fun u => decide (u = t)) [s] = none := by simp [List.findIdx?_cons]; exact fun q => e q.symm
      rw [this]
      simp
  | _ => cases hk

theorem MapAt.congr {d : TypeDesc} {w : World} {b n : Nat} {f f' : Value → Option Value} (h : MapAt d w b n f) (he : ∀ k, IsKey d k → f k = f' k) : MapAt d w b n f' := by
  obtain ⟨es, c, h1, h2, h3, h4, h5⟩ := h
  exact ⟨es, c, h1, h2, h3, h4, fun k hk => (h5 k hk).trans (he k hk)⟩

/-! ### the graph's map -/
/-- Block b is a map with these entries, in this order. -/
def GM (w : World) (b : Nat) (l : List (ByteArray × Value)) : Prop :=
  ∃ es clock, w.heap[b]? = some (.map es clock) ∧ Stamped es clock ∧ es.toList.map (fun e => (e.key, e.val)) = l.map fun p => (Value.string p.1, p.2)

theorem GM.made (w : World) : GM (w.alloc (.map #[] 0)) w.heap.size [] := ⟨#[], 0, (MapKept.heap_alloc w _).1, stamped_empty 0, rfl⟩

theorem GM.fr {M : Nat → Prop} {w w' : World} {b : Nat} {l : List (ByteArray × Value)} (h : GM w b l) (hf : Fr M w w') (hm : ¬ M b) : GM w' b l := by
  obtain ⟨es, c, h1, h2, h3⟩ := h
  exact ⟨es, c, hf.heap h1 hm, h2, h3⟩

theorem GM.keys {l : List (ByteArray × Value)} {es : Array MapEntry} (h : es.toList.map (fun e => (e.key, e.val)) = l.map fun p => (Value.string p.1, p.2)) : es.toList.map (·.key) = l.map fun p => Value.string p.1 := by
  have := congrArg (List.map Prod.fst) h
  simpa [Function.comp_def] using this

theorem GM.isk {l : List (ByteArray × Value)} {es : Array MapEntry} (h : es.toList.map (fun e => (e.key, e.val)) = l.map fun p => (Value.string p.1, p.2)) : ∀ x ∈ es.toList, IsKey .string x.key := fun x hx => by
  have : x.key ∈ es.toList.map (·.key) := List.mem_map.2 ⟨x, hx, rfl⟩
  rw [GM.keys h] at this
  obtain ⟨p, _, hp⟩ := List.mem_map.1 this
  rw [← hp]
  exact True.intro

theorem GM.lt {w : World} {b : Nat} {l : List (ByteArray × Value)} (h : GM w b l) : b < w.heap.size := by
  obtain ⟨es, c, h1, _⟩ := h
  rcases Nat.lt_or_ge b w.heap.size with q | q
  · exact q
  · rw [Array.getElem?_eq_none q] at h1; cases h1

/-- What is looked up. -/
theorem GM.mapAt {w : World} {b : Nat} {l : List (ByteArray × Value)} (h : GM w b l) : ∃ f, MapAt .string w b l.length f ∧ ∀ p ∈ l, f (.string p.1) = some p.2 := by
  obtain ⟨es, c, h1, h2, h3⟩ := h
  have hlen : es.size = l.length := by simpa using congrArg List.length h3
  have hik := GM.isk h3
  refine ⟨fun k => getK .string k es.toList, ⟨es, c, h1, hlen, hik, h2.2.2, fun _ _ => rfl⟩, fun p hp => ?_⟩
  have hm : (Value.string p.1, p.2) ∈ es.toList.map (fun e => (e.key, e.val)) := by rw [h3]; exact List.mem_map.2 ⟨p, hp, rfl⟩
  obtain ⟨x, hx, hxe⟩ := List.mem_map.1 hm
  simp only [Prod.mk.injEq] at hxe
  have key : ∀ es : List MapEntry, (∀ x ∈ es, IsKey .string x.key) → (es.map (·.key)).Nodup → x ∈ es → getK .string (.string p.1) es = some x.val := by
    intro es
    induction es with
    | nil => intro _ _ q; simp at q
    | cons a es ih =>
      intro hk hnd hxm
      unfold getK
      by_cases e : a.key = .string p.1
      · rw [e, if_pos (sameNow_eq (isS _))]
        simp only [List.mem_cons] at hxm
        rcases hxm with rfl | hxm
        · rfl
        · rw [List.map_cons, List.nodup_cons] at hnd
          exact absurd (List.mem_map.2 ⟨x, hxm, hxe.1.trans e.symm⟩) hnd.1
      · rw [if_neg (sameNow_ne (isS _) (hk a (by simp)) (fun q => e q.symm))]
        simp only [List.mem_cons] at hxm
        rcases hxm with rfl | hxm
        · exact absurd hxe.1 e
        · rw [List.map_cons, List.nodup_cons] at hnd
          exact ih (fun y hy => hk y (by simp [hy])) hnd.2 hxm
  show getK .string (.string p.1) es.toList = some p.2
  rw [key es.toList hik h2.2.2 hx, hxe.2]

/-- A new key is put in. -/
theorem GM.update {w : World} {b : Nat} {l : List (ByteArray × Value)} (h : GM w b l) {s : ByteArray} (hs : s ∉ l.map Prod.fst) (v : Value) {P : Program} {t kt et : TypeId} (ht : P.underlying t = some (.map kt et)) (hd : P.underlying kt = some .string) :
    ∃ w', (Instr.mapUpdate t (.map (some b)) (.string s) v).run P w = .ok () w' ∧ GM w' b (l ++ [(s, v)]) ∧ Fr (fun k => k = b) w w' := by
  obtain ⟨es, c, hb, hst, h3⟩ := h
  have hik := GM.isk h3
  have hne : ∀ x ∈ es.toList, x.key ≠ .string s := fun x hx q => by
    have : x.key ∈ es.toList.map (·.key) := List.mem_map.2 ⟨x, hx, rfl⟩
    rw [GM.keys h3, q] at this
    obtain ⟨p, hp, hpe⟩ := List.mem_map.1 this
    simp only [Value.string.injEq] at hpe
    exact hs (List.mem_map.2 ⟨p, hp, hpe⟩)
  have hkey : IsKey .string (.string s) := True.intro
  rcases findNow_spec hkey es.toList 0 hik with ⟨h1, _⟩ | ⟨j, e, _, h2, h4⟩
  · refine ⟨{ w with heap := w.heap.setIfInBounds b (.map (es.push { key := .string s, val := v, born := c }) (c + 1)) }, by simp [Instr.mapUpdate, run_underlying ht, MapKept.run_getObj_map hb, run_checkKey hd hkey, run_findKey hd h1, run_setObj_map _ hb, Result.andThen], ?_, ⟨rfl, rfl, rfl, by simp, fun k _ hk => (heap_set hb).2 k hk⟩⟩
    exact ⟨_, _, (heap_set hb).1, stamped_push hst hne, by simp [h3]⟩
  · exact absurd h4 (hne e (List.mem_of_getElem? h2))

/-- The map as the shelf wants it. -/
theorem GM.owns {w : World} {b : Nat} {l : List (ByteArray × Value)} (h : GM w b l) (hsz : ∀ p ∈ l, p.1.size ≤ maxLen) (hl : l.length ≤ 1024) :
    ∃ D0 : DataW Unit, w.ownsMap Try.prog 9 (fun _ => some (.nil, [])) b l.length D0 ∧ (strKeys D0).Perm (l.map fun p => p.1.data.toList) ∧ Maps.size D0 = l.length := by
  obtain ⟨es, c, h1, h2, h3⟩ := h
  have hlen : es.size = l.length := by simpa using congrArg List.length h3
  have hm : (1024 : Nat) ≤ maxLen := by decide
  have hkey : ∀ x ∈ es.toList, ∃ p ∈ l, x.key = .string p.1 := fun x hx => by
    have : x.key ∈ es.toList.map (·.key) := List.mem_map.2 ⟨x, hx, rfl⟩
    rw [GM.keys h3] at this
    obtain ⟨p, hp, hpe⟩ := List.mem_map.1 this
    exact ⟨p, hp, hpe.symm⟩
  have hrd : ∀ x ∈ es.toList, ∀ p ∈ l, x.key = .string p.1 → WideElems.rd (H := Unit) Try.prog 9 (fun _ => some (.nil, [])) x = some (.string p.1.data.toList, .nil) := fun x hx p hp e => by
    have hz := hsz p hp
    have hk : keyOf Try.prog 9 x.key = some (.string p.1.data.toList) := by
      rw [e]
      simp [keyOf, mapKey, Try.underlying9]
      exact hz
    simp [WideElems.rd, hk]
  refine ⟨_, ⟨es, c, h1, ⟨by omega, h2, fun x hx => ?_⟩, by omega, rfl⟩, ?_, ?_⟩
  · obtain ⟨p, hp, e⟩ := hkey x hx
    exact ⟨_, hrd x hx p hp e⟩
  · show ((es.toList.map (WideElems.rg Try.prog 9 _)).foldr DataW.insert []).map (fun p => strOf p.1) |>.Perm _
    refine ((WideShapes.sorted_perm _).map _).trans ?_
    rw [List.map_map]
    have : es.toList.map ((fun p => strOf p.1) ∘ WideElems.rg (H := Unit) Try.prog 9 (fun _ => some (.nil, []))) = (es.toList.map (·.key)).map (fun k => match k with | .string s => s.data.toList | _ => []) := by
      rw [List.map_map]
      apply List.map_congr_left
      intro x hx
      obtain ⟨p, hp, e⟩ := hkey x hx
      simp [WideElems.rg, hrd x hx p hp e, e, strOf]
    rw [this, GM.keys h3, List.map_map]
    exact List.Perm.refl _
  · show ((es.toList.map (WideElems.rg Try.prog 9 _)).foldr DataW.insert []).length = _
    rw [(WideShapes.sorted_perm _).length_eq]
    simp [hlen]

/-- Keys in order are what sorting gives. -/
theorem sort_keys {ks : List ByteArray} (hs : ks.Pairwise (fun a b => a.data.toList < b.data.toList)) {ss : List (List UInt8)} (hp : ss.Perm (ks.map fun s => s.data.toList)) :
    ss.mergeSort (fun x y => decide (x ≤ y)) = ks.map fun s => s.data.toList := by
  have h1 : ss.mergeSort leB = (ks.map fun s => s.data.toList).mergeSort leB := mergeSort_of_perm hp
  have h2 : (ks.map fun s => s.data.toList).mergeSort leB = ks.map fun s => s.data.toList := by
    apply List.mergeSort_of_pairwise
    rw [List.pairwise_map]
    refine hs.imp fun {a b} q => ?_
    simp only [leB, decide_eq_true_eq]
    exact List.le_of_lt q
  exact h1.trans h2

theorem sorted_nodup {ks : List ByteArray} (hs : ks.Pairwise (fun a b => a.data.toList < b.data.toList)) : ks.Nodup := hs.imp fun {a b} q e => by
  subst e
  exact absurd q (List.lt_irrefl _)

end Go.Proofs.Qxb6615025a
