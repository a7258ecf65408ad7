/-
  FnCheckTakenClusterAndUserRefuseApart: the told card, over the walk (Law).
-/
import Derived.Test.Qxb6614633aFmtRows
import Derived.Test.Qxb6614633aFmtCards
import Derived.Test.Qxb6614633aFmtLaw
import Derived.ProofKit
import Derived.Stop.JoinedAt
import Derived.Stop.JoinedTold
import Derived.SevenToldRow
namespace Go.Proofs.Qxb6614633aFmt
open Go.ChangeShapes Go.WideShapes Go.ChangeAt Go.RowKit
open Go.ChangeMaps (open_string shut_string)
open Go.Extern.Stop Go.Stop Go.Extern

theorem own : ownKnob Tryf.prog.godebug = none := by kernel_rfl
theorem laidOut : laidOutB Tryf.pinned.checked.prog = true := by kernel_rfl
theorem stopsAre : Tryf.pinned.checked.prog.stops = ["fmt.Sprintf"] := by kernel_rfl
theorem stopKnobs : Tryf.pinned.checked.prog.stopKnobs = [] := by kernel_rfl
theorem quiet (os : Os) : Stop.quiet Tryf.pinned.checked.prog os := by
  intro k hk
  rw [stopKnobs] at hk
  cases hk
theorem cells23 : Tryf.prog.cellsOf 23 = 6 := by kernel_rfl
theorem cells25 : Tryf.prog.cellsOf 25 = 11 := by kernel_rfl

theorem array6 {α : Type} {cs : Array α} (h : cs.size = 6) : ∃ c0 c1 c2 c3 c4 c5, cs = #[c0, c1, c2, c3, c4, c5] := by
  obtain ⟨l⟩ := cs
  match l, h with
  | [c0, c1, c2, c3, c4, c5], _ => exact ⟨c0, c1, c2, c3, c4, c5, rfl⟩

theorem array11 {α : Type} {cs : Array α} (h : cs.size = 11) : ∃ c0 c1 c2 c3 c4 c5 c6 c7 c8 c9 c10, cs = #[c0, c1, c2, c3, c4, c5, c6, c7, c8, c9, c10] := by
  obtain ⟨l⟩ := cs
  match l, h with
  | [c0, c1, c2, c3, c4, c5, c6, c7, c8, c9, c10], _ => exact ⟨c0, c1, c2, c3, c4, c5, c6, c7, c8, c9, c10, rfl⟩

section
variable {H : Type} {enc : TypeId × Value → H} {w : World} {base : Nat} {spare : Nat → Bool} {held : Bool} {n : Nat}

theorem str_of {c : Value} {y : Option (DataW H × List MemPlace)} (h : DataW.trod enc Tryf.prog w base spare held n 9 [c] = y) (hy : y.isSome = true) : ∃ s : ByteArray, c = .string s := by
  obtain ⟨y', rfl⟩ := Option.isSome_iff_exists.1 hy
  obtain ⟨s, hc, _⟩ := DataW.trod_string Tryf.underlying9 h
  simp only [List.cons.injEq, and_true] at hc
  exact ⟨s, hc⟩

theorem bool_of {c : Value} {y : Option (DataW H × List MemPlace)} (h : DataW.trod enc Tryf.prog w base spare held n 4 [c] = y) (hy : y.isSome = true) : ∃ b : Bool, c = .bool b := by
  obtain ⟨y', rfl⟩ := Option.isSome_iff_exists.1 hy
  obtain ⟨s, hc, _⟩ := DataW.trod_bool Tryf.underlying4 h
  simp only [List.cons.injEq, and_true] at hc
  exact ⟨s, hc⟩
end

/-- A Cluster that came in: its six cells. -/
theorem open23 {H : Type} {enc : TypeId × Value → H} {w : World} {base b0 : Nat} {spare : Nat → Bool} {held : Bool} {r : Reach} {v : Value} {d : DataW H} {p : List MemPlace}
    (hv : Value.okWide Tryf.prog w r b0 23 v) (h : DataW.Trod enc Tryf.prog w base spare held 23 v d p) :
    ∃ (c0 c1 c2 c3 px : ByteArray) (b : Bool), v = .agg #[.string c0, .string c1, .string c2, .string c3, .bool b, .string px] := by
  obtain ⟨cs, rfl, hsz⟩ := okWide_struct Tryf.underlying23 hv
  obtain ⟨c0, c1, c2, c3, c4, c5, rfl⟩ := array6 (hsz.trans cells23)
  obtain ⟨fuel, hf⟩ := h
  obtain ⟨xs, n, _, _, _, hlen, hh⟩ := DataW.trod_struct Tryf.underlying23 hf
  have hl : xs.length = 6 := by simpa using hlen
  have hs : ∀ i, i < 6 → (xs[i]?).isSome = true := fun i hi => by rw [List.getElem?_eq_getElem (by omega)]; rfl
  have k0 := hh 0 _ rfl
  have k1 := hh 1 _ rfl
  have k2 := hh 2 _ rfl
  have k3 := hh 3 _ rfl
  have k4 := hh 4 _ rfl
  have k5 := hh 5 _ rfl
  simp only [Value.cells] at k0 k1 k2 k3 k4 k5
  obtain ⟨s0, rfl⟩ := str_of k0 (hs 0 (by omega))
  obtain ⟨s1, rfl⟩ := str_of k1 (hs 1 (by omega))
  obtain ⟨s2, rfl⟩ := str_of k2 (hs 2 (by omega))
  obtain ⟨s3, rfl⟩ := str_of k3 (hs 3 (by omega))
  obtain ⟨b, rfl⟩ := bool_of k4 (hs 4 (by omega))
  obtain ⟨s5, rfl⟩ := str_of k5 (hs 5 (by omega))
  exact ⟨s0, s1, s2, s3, s5, b, rfl⟩

/-- A User that came in: its eleven cells. -/
theorem open25 {H : Type} {enc : TypeId × Value → H} {w : World} {base b0 : Nat} {spare : Nat → Bool} {held : Bool} {r : Reach} {v : Value} {d : DataW H} {p : List MemPlace}
    (hv : Value.okWide Tryf.prog w r b0 25 v) (h : DataW.Trod enc Tryf.prog w base spare held 25 v d p) :
    ∃ (t0 t1 t2 t3 t4 t5 us pw asx : ByteArray) (he ha : Bool), v = .agg #[.string t0, .string t1, .string t2, .string t3, .string t4, .string t5, .string us, .string pw, .bool he, .bool ha, .string asx] := by
  obtain ⟨cs, rfl, hsz⟩ := okWide_struct Tryf.underlying25 hv
  obtain ⟨c0, c1, c2, c3, c4, c5, c6, c7, c8, c9, c10, rfl⟩ := array11 (hsz.trans cells25)
  obtain ⟨fuel, hf⟩ := h
  obtain ⟨xs, n, _, _, _, hlen, hh⟩ := DataW.trod_struct Tryf.underlying25 hf
  have hl : xs.length = 11 := by simpa using hlen
  have hs : ∀ i, i < 11 → (xs[i]?).isSome = true := fun i hi => by rw [List.getElem?_eq_getElem (by omega)]; rfl
  have k0 := hh 0 _ rfl
  have k1 := hh 1 _ rfl
  have k2 := hh 2 _ rfl
  have k3 := hh 3 _ rfl
  have k4 := hh 4 _ rfl
  have k5 := hh 5 _ rfl
  have k6 := hh 6 _ rfl
  have k7 := hh 7 _ rfl
  have k8 := hh 8 _ rfl
  have k9 := hh 9 _ rfl
  have k10 := hh 10 _ rfl
  simp only [Value.cells] at k0 k1 k2 k3 k4 k5 k6 k7 k8 k9 k10
  obtain ⟨s0, rfl⟩ := str_of k0 (hs 0 (by omega))
  obtain ⟨s1, rfl⟩ := str_of k1 (hs 1 (by omega))
  obtain ⟨s2, rfl⟩ := str_of k2 (hs 2 (by omega))
  obtain ⟨s3, rfl⟩ := str_of k3 (hs 3 (by omega))
  obtain ⟨s4, rfl⟩ := str_of k4 (hs 4 (by omega))
  obtain ⟨s5, rfl⟩ := str_of k5 (hs 5 (by omega))
  obtain ⟨s6, rfl⟩ := str_of k6 (hs 6 (by omega))
  obtain ⟨s7, rfl⟩ := str_of k7 (hs 7 (by omega))
  obtain ⟨b8, rfl⟩ := bool_of k8 (hs 8 (by omega))
  obtain ⟨b9, rfl⟩ := bool_of k9 (hs 9 (by omega))
  obtain ⟨s10, rfl⟩ := str_of k10 (hs 10 (by omega))
  exact ⟨s0, s1, s2, s3, s4, s5, s6, s7, s10, b8, b9, rfl⟩

set_option maxRecDepth 100000 in
theorem lifted (os : Os) (started : os.Started) (H : Type) (enc : TypeId × Value → H) :
    ReturnsInTold none {} Tryf.checked os 4 .any Input.okWide ((OpenSpec.ofChange Rows.fnCheckTakenClusterAndUserRefuseApartSpec).preRow enc Tryf.prog Tryf.f4 [] false []) (fun F => ((OpenSpec.ofChange Rows.fnCheckTakenClusterAndUserRefuseApartSpec).at F).post enc Tryf.prog Tryf.f4 false true false false) (aloneAtReturn Tryf.prog) nothingAlways := by
  refine returnsInTold_of_row (C := Tryf.checked) (s := OpenSpec.ofChange Rows.fnCheckTakenClusterAndUserRefuseApartSpec) (by kernel_rfl) own started (by kernel_rfl) Tryf.func4
    (OpenSpec.witness_stopped (enc := enc) (C := Tryf.checked) false ⟨#[], #[.agg #[.string ⟨#[]⟩, .string ⟨#[]⟩, .string ⟨#[]⟩, .string ⟨#[]⟩, .bool false, .string ⟨#[]⟩], .agg #[.string ⟨#[]⟩, .string ⟨#[]⟩, .string ⟨#[]⟩, .string ⟨#[]⟩, .string ⟨#[]⟩, .string ⟨#[]⟩, .string ⟨#[]⟩, .string ⟨#[]⟩, .bool false, .bool false, .string ⟨#[]⟩]], []⟩ 8 (by kernel_rfl) (by kernel_rfl) (by kernel_rfl) (by kernel_rfl)) ?_
  intro F W base args ds gs before _ hF hval0 hW _ _ hsz _ _
  have hval : ∀ (j : Nat) t v, Tryf.f4.params[j]? = some t → args[j]? = some v → Value.okWide Tryf.prog W .any base t v := hval0
  have hW' := hW
  obtain ⟨p, q, hA0, hV, rfl, hfz, hnd⟩ := hW
  have hA : DataW.TrodAll enc Tryf.prog W 0 (fun _ => true) true Tryf.f4.params.toList args.toList ds p := hA0
  rw [Tryf.params4] at hA hval
  obtain ⟨v0, v1, d0, d1, p0, p1, rfl, rfl, rfl, h0, h1⟩ := trodAll_two hA
  obtain ⟨rfl, rfl⟩ := trodVars_none hV
  have lt0 : ∀ x ∈ p0, x.block < W.heap.size := by obtain ⟨m, hm⟩ := h0; exact DataW.trod_lt m _ _ _ hm
  have lt1 : ∀ x ∈ p1, x.block < W.heap.size := by obtain ⟨m, hm⟩ := h1; exact DataW.trod_lt m _ _ _ hm
  obtain ⟨c0, c1, c2, c3, px, b, rfl⟩ := open23 (hval 0 23 v0 rfl rfl) h0
  obtain ⟨t0, t1, t2, t3, t4, t5, us, pw, asx, he, ha, rfl⟩ := open25 (hval 1 25 v1 rfl rfl) h1
  clear hA0 hval0
  refine (law_any F.told c0 c1 c2 c3 px t0 t1 t2 t3 t4 t5 us pw asx b he ha W hF (fun s t hs ht => tx_small F s t hs ht) _ _ rfl rfl).mono fun e W' ⟨hee, bel⟩ => ?_
  subst hee
  exact ⟨_, rfl, _, _, _, [], p0 ++ p1, [], hW', trodAll_mk1 (shut_bool Tryf.underlying4 _),
    trodAll_mk2 (Below.trod laidOut (by kernel_rfl) (of_decide_eq_true (by kernel_rfl)) h0 bel lt0) (Below.trod laidOut (by kernel_rfl) (of_decide_eq_true (by kernel_rfl)) h1 bel lt1), rfl, bel.frame _, fun h => by cases h⟩

/-- The statement. -/
theorem proved : Rows.FnCheckTakenClusterAndUserRefuseApartToldSaid :=
  Claim7.holds_of_told_any 4 Tryf.f4 "fmt.Sprintf" [] [] _ _ _ (by kernel_rfl) rfl rfl rfl laidOut (by kernel_rfl) rfl ⟨rfl, rfl, rfl, rfl, rfl, rfl, rfl⟩ rfl rfl (by kernel_rfl) (by kernel_rfl) Tryf.func4 (by kernel_rfl)
    (of_decide_eq_true (by kernel_rfl)) (by unfold Func.isWrapper; first | (rw [if_pos (by decide +kernel)]; kernel_rfl) | (rw [if_neg (by decide +kernel)]; exact ⟨rfl, rfl⟩)) stopsAre.symm rfl stopKnobs.symm (by kernel_rfl)
    (by kernel_rfl) (by kernel_rfl) (by kernel_rfl) (by kernel_rfl) (by kernel_rfl) (by kernel_rfl) (by kernel_rfl) (by kernel_rfl) (by kernel_rfl) rfl (by kernel_rfl) rfl rfl
    rfl rfl
    rfl (by kernel_rfl) (by kernel_rfl) (by kernel_rfl) (by decide) (by kernel_rfl)
    (OpenClaim.moreEntering_of (by kernel_rfl) (by kernel_rfl) (by kernel_rfl) (by kernel_rfl) (by kernel_rfl) (by kernel_rfl) (by kernel_rfl) (by kernel_rfl) (by kernel_rfl) (by kernel_rfl))
    ⟨_, WideRow.started_initial, quiet _⟩
    (fun os started _ H enc _ => lifted os started H enc)
#print axioms proved
end Go.Proofs.Qxb6614633aFmt
