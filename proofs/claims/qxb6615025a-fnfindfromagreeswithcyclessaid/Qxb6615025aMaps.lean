/-
  Maps in the heap, said plainly: 'MapAt d w b f': block b is a map whose keys are of the kind d and that holds f.
-/
import Derived.WalkKit
import Derived.WalkSpells
namespace Go.Proofs.Qxb6615025a
open Go.RowKit Go.MapKept

/-- What the entries hold at a key (the first entry counts; keys are told apart by 'sameNow'). -/
def getK (d : TypeDesc) (k : Value) : List MapEntry → Option Value
  | [] => none
  | e :: es => if Instr.sameNow d k e.key = some true then some e.val else getK d k es

theorem getK_none {d : TypeDesc} {k : Value} (hk : IsKey d k) : ∀ {es : List MapEntry}, (∀ x ∈ es, IsKey d x.key) → (∀ x ∈ es, x.key ≠ k) → getK d k es = none
  | [], _, _ => rfl
  | e :: es, h, hn => by
    obtain ⟨r, hr, hiff⟩ := sameNow_of_keys hk (h e (.head _))
    have : r ≠ true := fun q => hn e (.head _) (hiff.1 q).symm
    simp [getK, hr, this]
    exact getK_none hk (fun x hx => h x (.tail _ hx)) (fun x hx => hn x (.tail _ hx))

/-- 'findNow' says just what 'getK' says. -/
theorem findNow_getK {d : TypeDesc} {k : Value} (hk : IsKey d k) : ∀ (l : List MapEntry) (i : Nat), (∀ x ∈ l, IsKey d x.key) →
    ∃ r, Instr.findNow d k l i = some r ∧ r.map (·.2) = getK d k l ∧ ∀ j v, r = some (j, v) → ∃ n e, j = i + n ∧ l[n]? = some e ∧ e.key = k
  | [], i, _ => ⟨none, rfl, rfl, by simp⟩
  | e :: es, i, h => by
    obtain ⟨r, hr, hiff⟩ := sameNow_of_keys hk (h e (.head _))
    cases r with
    | true => exact ⟨some (i, e.val), by simp [Instr.findNow, hr], by simp [getK, hr], fun j v q => ⟨0, e, by simp at q; omega, rfl, (hiff.1 rfl).symm⟩⟩
    | false =>
      obtain ⟨r', h1, h2, h3⟩ := findNow_getK hk es (i + 1) (fun x hx => h x (.tail _ hx))
      refine ⟨r', by simp [Instr.findNow, hr, h1], by simp [getK, hr, h2], fun j v q => ?_⟩
      obtain ⟨n, e', e1, e2, e3⟩ := h3 j v q
      exact ⟨n + 1, e', by omega, by simpa using e2, e3⟩

theorem sameNow_ne {d : TypeDesc} {k k' : Value} (hk : IsKey d k) (hk' : IsKey d k') (hne : k ≠ k') : Instr.sameNow d k k' ≠ some true := by
  obtain ⟨r, hr, hiff⟩ := sameNow_of_keys hk hk'
  intro q
  rw [hr] at q
  exact hne (hiff.1 (by simpa using q))

theorem sameNow_eq {d : TypeDesc} {k : Value} (hk : IsKey d k) : Instr.sameNow d k k = some true := by
  obtain ⟨r, hr, hiff⟩ := sameNow_of_keys hk hk
  rw [hr, hiff.2 rfl]

theorem getK_push {d : TypeDesc} {k k' : Value} (hk : IsKey d k) (hk' : IsKey d k') (v : Value) (c : Nat) : ∀ {es : List MapEntry}, (∀ x ∈ es, IsKey d x.key) → (∀ x ∈ es, x.key ≠ k) →
    (k' ≠ k → getK d k' (es ++ [{ key := k, val := v, born := c }]) = getK d k' es) ∧ getK d k (es ++ [{ key := k, val := v, born := c }]) = some v
  | [], _, _ => ⟨fun hne => by simp [getK, sameNow_ne hk' hk hne], by simp [getK, sameNow_eq hk]⟩
  | e :: es, h, hn => by
    have ih := getK_push hk hk' v c (es := es) (fun x hx => h x (.tail _ hx)) (fun x hx => hn x (.tail _ hx))
    refine ⟨fun hne => ?_, ?_⟩
    · simp only [List.cons_append, getK]
      rw [ih.1 hne]
    · simp only [List.cons_append, getK]
      rw [if_neg (sameNow_ne hk (h e (.head _)) (fun q => hn e (.head _) q.symm)), ih.2]

theorem getK_modify {d : TypeDesc} {k k' : Value} (hk : IsKey d k) (hk' : IsKey d k') (v : Value) : ∀ {es : List MapEntry} {n : Nat} {e : MapEntry}, (∀ x ∈ es, IsKey d x.key) → es[n]? = some e → e.key = k → (∀ j x, j < n → es[j]? = some x → x.key ≠ k) →
    (k' ≠ k → getK d k' (es.modify n fun e => { e with key := k, val := v }) = getK d k' es) ∧ getK d k (es.modify n fun e => { e with key := k, val := v }) = some v
  | [], n, e, _, h1, _, _ => by simp at h1
  | e0 :: es, 0, e, h, h1, h2, _ => by
    simp at h1
    subst h1
    refine ⟨fun hne => ?_, ?_⟩
    · simp only [List.modify_zero_cons, getK]
      rw [if_neg (sameNow_ne hk' hk hne), if_neg]
      rw [h2]; exact sameNow_ne hk' hk hne
    · simp only [List.modify_zero_cons, getK]
      rw [if_pos (sameNow_eq hk)]
  | e0 :: es, n + 1, e, h, h1, h2, h3 => by
    have ih := getK_modify hk hk' v (es := es) (n := n) (e := e) (fun x hx => h x (.tail _ hx)) (by simpa using h1) h2 (fun j x hj hx => h3 (j + 1) x (by omega) (by simpa using hx))
    have hne0 : e0.key ≠ k := h3 0 e0 (by omega) rfl
    refine ⟨fun hne => ?_, ?_⟩
    · simp only [List.modify_succ_cons, getK]
      rw [ih.1 hne]
    · simp only [List.modify_succ_cons, getK]
      rw [if_neg (sameNow_ne hk (h e0 (.head _)) (fun q => hne0 q.symm)), ih.2]

/-- Block b is a map over keys of the kind d that holds f; n entries; no key twice. -/
def MapAt (d : TypeDesc) (w : World) (b n : Nat) (f : Value → Option Value) : Prop :=
  ∃ es clock, w.heap[b]? = some (.map es clock) ∧ es.size = n ∧ (∀ x ∈ es.toList, IsKey d x.key) ∧ (es.toList.map (·.key)).Nodup ∧ ∀ k, IsKey d k → getK d k es.toList = f k

theorem MapAt.of_block {d : TypeDesc} {w w' : World} {b n : Nat} {f : Value → Option Value} (h : MapAt d w b n f) (hb : w'.heap[b]? = w.heap[b]?) : MapAt d w' b n f := by
  obtain ⟨es, c, h1, h2⟩ := h
  exact ⟨es, c, hb.trans h1, h2⟩

theorem MapAt.lt {d : TypeDesc} {w : World} {b n : Nat} {f : Value → Option Value} (h : MapAt d w b n f) : b < w.heap.size := by
  obtain ⟨es, c, h1, _⟩ := h
  rcases Nat.lt_or_ge b w.heap.size with q | q
  · exact q
  · rw [Array.getElem?_eq_none q] at h1; cases h1

theorem MapAt.made (d : TypeDesc) (w : World) : MapAt d (w.alloc (.map #[] 0)) w.heap.size 0 (fun _ => none) :=
  ⟨#[], 0, (heap_alloc w _).1, rfl, by simp, by simp, fun _ _ => rfl⟩

theorem MapAt.look {d : TypeDesc} {w : World} {b n : Nat} {f : Value → Option Value} (h : MapAt d w b n f) {P : Program} {t kt et : TypeId} (ht : P.underlying t = some (.map kt et)) (hd : P.underlying kt = some d)
    {z : Value} (hz : (zeroValue et).run P w = .ok z w) {k : Value} (hk : IsKey d k) (ok : Bool) :
    (Instr.lookup t (.map (some b)) k ok).run P w = .ok (if ok then .tuple #[(f k).getD z, .bool (f k).isSome] else (f k).getD z) w := by
  obtain ⟨es, c, hb, _, hks, hnd, hf⟩ := h
  obtain ⟨r, h1, h2, _⟩ := findNow_getK hk es.toList 0 hks
  rw [hf k hk] at h2
  rw [← h2]
  cases r with
  | none => simp [Instr.lookup, run_underlying ht, MapKept.run_getObj_map hb, run_checkKey hd hk, run_findKey hd h1, hz, Result.andThen]
  | some p => obtain ⟨j, v⟩ := p; simp [Instr.lookup, run_underlying ht, MapKept.run_getObj_map hb, run_checkKey hd hk, run_findKey hd h1, Result.andThen]

/-- f, but v at k. -/
def updK (d : TypeDesc) (k v : Value) (f : Value → Option Value) (x : Value) : Option Value := if Instr.sameNow d k x = some true then some v else f x

theorem updK_same {d : TypeDesc} {k : Value} (hk : IsKey d k) (v : Value) (f : Value → Option Value) : updK d k v f k = some v := by
  simp [updK, sameNow_eq hk]

theorem updK_other {d : TypeDesc} {k x : Value} (hk : IsKey d k) (hx : IsKey d x) (hne : x ≠ k) (v : Value) (f : Value → Option Value) : updK d k v f x = f x := by
  simp [updK, sameNow_ne hk hx (fun q => hne q.symm)]

theorem MapAt.update {d : TypeDesc} {w : World} {b n : Nat} {f : Value → Option Value} (h : MapAt d w b n f) {P : Program} {t kt et : TypeId} (ht : P.underlying t = some (.map kt et)) (hd : P.underlying kt = some d)
    {k : Value} (hk : IsKey d k) (v : Value) :
    ∃ w', (Instr.mapUpdate t (.map (some b)) k v).run P w = .ok () w' ∧ MapAt d w' b (if (f k).isSome then n else n + 1) (updK d k v f) ∧
      w'.os = w.os ∧ w'.tape = w.tape ∧ w'.output = w.output ∧ w'.heap.size = w.heap.size ∧ ∀ b', b' ≠ b → w'.heap[b']? = w.heap[b']? := by
  obtain ⟨es, c, hb, hn, hks, hnd, hf⟩ := h
  rcases findNow_spec hk es.toList 0 hks with ⟨h1, h2⟩ | ⟨j, e, h1, h2, h3⟩
  · have hfk : f k = none := by rw [← hf k hk]; exact getK_none hk hks h2
    refine ⟨{ w with heap := w.heap.setIfInBounds b (.map (es.push { key := k, val := v, born := c }) (c + 1)) }, by simp [Instr.mapUpdate, run_underlying ht, MapKept.run_getObj_map hb, run_checkKey hd hk, run_findKey hd h1, run_setObj_map _ hb, Result.andThen], ?_, rfl, rfl, rfl, by simp, (heap_set hb).2⟩
    refine ⟨_, _, (heap_set hb).1, by simp [hfk, hn], ?_, ?_, ?_⟩
    · intro x hx
      simp at hx
      rcases hx with hx | rfl
      · exact hks x (by simpa using hx)
      · exact hk
    · simp only [Array.toList_push, List.map_append, List.map_cons, List.map_nil]
      rw [List.nodup_append]
      refine ⟨hnd, by simp, fun a ha b hb => ?_⟩
      simp at hb
      subst hb
      obtain ⟨x, hx, rfl⟩ := List.mem_map.1 ha
      exact h2 x hx
    · intro k' hk'
      have := getK_push hk hk' v c (es := es.toList) hks h2
      simp only [Array.toList_push]
      by_cases q : k' = k
      · subst q; rw [this.2, updK_same hk]
      · rw [this.1 q, hf k' hk', updK_other hk hk' q]
  · have hj : es[j]? = some e := by simpa using h2
    have hjl : j < es.toList.length := by
      rcases Nat.lt_or_ge j es.toList.length with q | q
      · exact q
      · rw [List.getElem?_eq_none q] at h2; cases h2
    have hfirst : ∀ i x, i < j → es.toList[i]? = some x → x.key ≠ k := by
      intro i x hi hx q
      have a1 : (es.toList.map (·.key))[i]? = some k := by rw [List.getElem?_map, hx]; simp [q]
      have a2 : (es.toList.map (·.key))[j]? = some k := by rw [List.getElem?_map, h2]; simp [h3]
      have := (List.getElem?_inj (by simp at hjl ⊢; omega) hnd).1 (a1.trans a2.symm)
      omega
    have hg := fun k' hk' => getK_modify (k' := k') hk hk' v (es := es.toList) (n := j) (e := e) hks h2 h3 hfirst
    have hmod : (es.modify j fun e => { e with key := k, val := v }).toList = es.toList.modify j fun e => { e with key := k, val := v } := by simp
    have hfk : (f k).isSome = true := by
      rw [← hf k hk]
      obtain ⟨r, q1, q2, _⟩ := findNow_getK hk es.toList 0 hks
      rw [h1] at q1
      simp at q1
      rw [← q2, ← q1]; rfl
    refine ⟨{ w with heap := w.heap.setIfInBounds b (.map (es.modify j fun e => { e with key := k, val := v }) c) }, by simp [Instr.mapUpdate, run_underlying ht, MapKept.run_getObj_map hb, run_checkKey hd hk, run_findKey hd h1, hj, h3, run_keyThatStays hk, run_setObj_map _ hb, Result.andThen], ?_, rfl, rfl, rfl, by simp, (heap_set hb).2⟩
    have hkeys : (es.modify j fun e => { e with key := k, val := v }).toList.map (·.key) = es.toList.map (·.key) :=
      modify_keys j (fun e => { e with key := k, val := v }) (fun e' he' => by rw [hj] at he'; cases he'; exact h3.symm)
    refine ⟨_, _, (heap_set hb).1, by simp [hfk, hn], ?_, by rw [hkeys]; exact hnd, ?_⟩
    · exact isKey_modify hks j _ (fun e' he' => by rw [hj] at he'; cases he'; exact h3.symm)
    · intro k' hk'
      rw [hmod]
      by_cases q : k' = k
      · subst q; rw [(hg k' hk').2, updK_same hk]
      · rw [(hg k' hk').1 q, hf k' hk', updK_other hk hk' q]

end Go.Proofs.Qxb6615025a
