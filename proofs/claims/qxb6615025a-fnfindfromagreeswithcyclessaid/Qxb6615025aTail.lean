/-
  A region that draws its order and whose LAST operation (number L, which waits for all others) may break the condition S: the elder law (OrdersHeld) asks S behind every operation; here S is asked only while L has not come up.
-/
import Derived.OrdersHeld
import Derived.Laws.World
namespace Go.Proofs.Qxb6615025a
open Go
section
variable {P : Program} {ops : Array Oper} {Q : Exit → Act → World → Prop} {md : Region.Mode} {S : World → Prop} {L : Nat}

def wpAnyT (P : Program) (md : Region.Mode) (ops : Array Oper) (Q : Exit → Act → World → Prop) (S : World → Prop) (L : Nat) : Nat → Array Bool → Act → World → Prop
  | 0, listed, a, w => Region.ready md ops listed = [] ∧ Q .normal a w
  | fuel + 1, listed, a, w =>
    (Region.ready md ops listed = [] → Q .normal a w) ∧
    ∀ i ∈ Region.ready md ops listed, wpOp P ops Q i (fun a' w' => ((listed.setIfInBounds i true).getD L true = false → S w') ∧ wpAnyT P md ops Q S L fuel (listed.setIfInBounds i true) a' w') a w

theorem wpAny_of_tail : ∀ (fuel : Nat) (listed : Array Bool) (a : Act) (w : World), wpAnyT P md ops Q S L fuel listed a w → wpAny P md ops Q fuel listed a w
  | 0, _, _, _, h => h
  | fuel + 1, _, _, _, h => ⟨h.1, fun i hi => wpOp_mono (fun a' w' h' => wpAny_of_tail fuel _ a' w' h'.2) (h.2 i hi)⟩

/-- Number L waits for number i. -/
def waits (md : Region.Mode) (ops : Array Oper) (L i : Nat) : Bool := ((ops[L]?).map fun o => o.after.any fun e => Region.binds md e && e.on == i).getD false

theorem not_ready_of_waits {listed : Array Bool} {i : Nat} (hw : waits md ops L i = true) (hi : listed.getD i true = false) : L ∉ Region.ready md ops listed := by
  intro hr
  obtain ⟨_, o, ho, hall⟩ := mem_ready.1 hr
  unfold waits at hw
  rw [ho] at hw
  simp only [Option.map_some, Option.getD_some, Array.any_eq_true] at hw
  obtain ⟨k, hk, he⟩ := hw
  simp only [Bool.and_eq_true, beq_iff_eq] at he
  have h1 := hall o.after[k] (Array.getElem_mem hk) he.1
  rw [he.2] at h1
  rcases Nat.lt_or_ge i listed.size with h' | h'
  · simp [h'] at hi h1; rw [hi] at h1; cases h1
  · simp [Array.getElem?_eq_none h'] at h1

theorem wpAnyT_first {i : Nat} {oi : Oper} {v : Value} (hi : ops[i]? = some oi) (hsel : ∀ (j : Nat) (o : Oper) cs b, ops[j]? = some o → o.op ≠ .select cs b)
    (hQ : ∀ c a w, Q (.panic c) (a.put oi.dst v) w → Q (.panic c) a w) (hwait : waits md ops L i = true) (hLi : L ≠ i) :
    ∀ (fuel : Nat) (listed : Array Bool) (a : Act) (w : World),
      (∀ j oj, ops[j]? = some oj → j ≠ i → listed.getD j true = false → (∀ e ∈ oj.after, Region.binds md e = true → e.on ≠ i) → oi.apart ops oj = true) →
      i ∈ Region.ready md ops listed → listed.getD L true = false → YieldsIf P ops S oi v a → S w →
      wpAnyT P md ops Q S L fuel (listed.setIfInBounds i true) (a.put oi.dst v) w → wpAnyT P md ops Q S L (fuel + 1) listed a w := by
  intro fuel
  induction fuel with
  | zero =>
    intro listed a w _ hr _ hy hS H
    refine ⟨fun h => (by rw [h] at hr; cases hr), fun j hj => ?_⟩
    by_cases hji : j = i
    · subst hji; exact hy.wpOp hi hS ⟨fun _ => hS, H⟩
    · have := ready_mono hj hji
      rw [H.1] at this
      cases this
  | succ fuel ih =>
    intro listed a w hfree hr hL hy hS H
    refine ⟨fun h => (by rw [h] at hr; cases hr), fun j hj => ?_⟩
    by_cases hji : j = i
    · subst hji; exact hy.wpOp hi hS ⟨fun _ => hS, H⟩
    · have h1 := H.2 j (ready_mono hj hji)
      obtain ⟨hjun, oj, hoj, hall⟩ := mem_ready.1 hj
      have hiun : listed.getD i true = false := (mem_ready.1 hr).1
      have hnot : ∀ e ∈ oj.after, Region.binds md e = true → e.on ≠ i := fun e he hb heq => by
        have h1 := hall e he hb
        have h0 := (mem_ready.1 hr).1
        rw [heq] at h1
        rcases Nat.lt_or_ge i listed.size with h' | h'
        · simp [h'] at h0 h1; rw [h0] at h1; cases h1
        · simp [Array.getElem?_eq_none h'] at h1
      have hjL : j ≠ L := fun e => by
        subst e
        exact not_ready_of_waits hwait hiun hj
      have h2 := wpOp_putIf hoj (hfree j oj hoj hji hjun hnot) (fun cs b => hsel i oi cs b hi) (fun cs b => hsel j oj cs b hoj) hQ hy h1
      have hfree' : ∀ k ok, ops[k]? = some ok → k ≠ i → (listed.setIfInBounds j true).getD k true = false →
          (∀ e ∈ ok.after, Region.binds md e = true → e.on ≠ i) → oi.apart ops ok = true := fun k ok hk hki hun hno => by
        refine hfree k ok hk hki ?_ hno
        by_cases hjk : j = k
        · subst hjk; exact hjun
        · rw [getD_set_ne true hjk] at hun; exact hun
      have hLj : (listed.setIfInBounds j true).getD L true = false := by rw [getD_set_ne true hjL]; exact hL
      have hLij : ((listed.setIfInBounds i true).setIfInBounds j true).getD L true = false := by
        rw [getD_set_ne true hjL, getD_set_ne true (Ne.symm hLi)]; exact hL
      refine wpOp_mono (fun a' w' h3 => ⟨fun _ => h3.2.1 hLij, ih (listed.setIfInBounds j true) a' w' hfree' (ready_mono hr (Ne.symm hji)) hLj h3.1 (h3.2.1 hLij) ?_⟩) h2
      rw [Array.setIfInBounds_comm _ _ hji]
      exact h3.2.2

/-- Take number 'i' first. -/
theorem wpAnyT_take {i : Nat} {oi : Oper} {v : Value} {fuel : Nat} {listed : Array Bool} {a : Act} {w : World} (hi : ops[i]? = some oi)
    (hchk : (Region.noSelect ops && Region.free md ops listed i && (Region.ready md ops listed).contains i && waits md ops L i && (L != i) && !(listed.getD L true)) = true)
    (hQ : ∀ c a w, Q (.panic c) (a.put oi.dst v) w → Q (.panic c) a w) (hS : S w) (hy : YieldsIf P ops S oi v a)
    (h : wpAnyT P md ops Q S L fuel (listed.setIfInBounds i true) (a.put oi.dst v) w) : wpAnyT P md ops Q S L (fuel + 1) listed a w := by
  simp only [Bool.and_eq_true, bne_iff_ne, ne_eq, Bool.not_eq_true'] at hchk
  obtain ⟨⟨⟨⟨⟨hs, hf⟩, hr⟩, hw⟩, hLi⟩, hL⟩ := hchk
  exact wpAnyT_first hi (Region.noSelect_spec hs) hQ hw hLi fuel listed a w (Region.free_spec hi hf) (by simpa using hr) hL hy hS h

/-- Take number 'i' first; its slot is named. -/
theorem wpAnyT_taked (i : Nat) (d : Option Nat) {oi : Oper} {v : Value} {fuel : Nat} {listed : Array Bool} {a : Act} {w : World} (hi : ops[i]? = some oi) (hd : oi.dst = d)
    (hchk : (Region.noSelect ops && Region.free md ops listed i && (Region.ready md ops listed).contains i && waits md ops L i && (L != i) && !(listed.getD L true)) = true)
    (hQ : ∀ c a w, Q (.panic c) (a.put d v) w → Q (.panic c) a w) (hS : S w) (hy : YieldsIf P ops S oi v a)
    (h : wpAnyT P md ops Q S L fuel (listed.setIfInBounds i true) (a.put d v) w) : wpAnyT P md ops Q S L (fuel + 1) listed a w := by
  subst hd
  exact wpAnyT_take hi hchk hQ hS hy h

/-- One operation alone may come up. -/
theorem wpAnyT_one {i : Nat} {oi : Oper} {fuel : Nat} {listed : Array Bool} {a : Act} {w : World} (hi : ops[i]? = some oi) (hr : Region.ready md ops listed = [i])
    (hw : Region.wanted oi (yielded ops a.tmps) = true)
    (h : oi.wp P a w (fun a' w' => ((listed.setIfInBounds i true).getD L true = false → S w') ∧ wpAnyT P md ops Q S L fuel (listed.setIfInBounds i true) a' w') Q) : wpAnyT P md ops Q S L (fuel + 1) listed a w := by
  refine ⟨fun h0 => ?_, fun j hj => ?_⟩
  · rw [hr] at h0; cases h0
  rw [hr] at hj
  simp at hj
  subst hj
  unfold wpOp
  simp only [hi, hw, if_true]
  exact .inl h

theorem wpAnyT_done {listed : Array Bool} {a : Act} {w : World} (hr : Region.ready md ops listed = []) (h : Q .normal a w) : ∀ fuel, wpAnyT P md ops Q S L fuel listed a w
  | 0 => ⟨hr, h⟩
  | _ + 1 => ⟨fun _ => h, by rw [hr]; simp⟩

theorem wp_region_tail {id : Nat} {a : Act} {w : World} (S : World → Prop) (L : Nat) (hm : P.follows .mixedOrders = true)
    (h : wpAnyT P .any ops Q S L ops.size (Array.replicate ops.size false) a w.drew) : (Code.region id ops true).wp P Q a w :=
  wp_region_any hm (wpAny_of_tail _ _ _ _ h)

/-- The same, the number of the operations named. -/
theorem wp_region_tailn {id : Nat} {a : Act} {w : World} (S : World → Prop) (L n : Nat) (hn : ops.size = n) (hm : P.follows .mixedOrders = true)
    (h : wpAnyT P .any ops Q S L n (Array.replicate n false) a w.drew) : (Code.region id ops true).wp P Q a w := by
  subst hn
  exact wp_region_tail S L hm h
end
end Go.Proofs.Qxb6615025a
