/- findFrom from a fresh cycler: what is found. -/
import Derived.Test.Qxb6615025aZff0
import Derived.Test.Qxb6615025aFindFrom
namespace Go.Proofs.Qxb6615025a
open Go.RowKit Go.MapKept

/-- What is found from the hub of a fresh cycler. -/
structure Fnd (H : Nat) (w' : World) (n lead hub : Nat) (ks : List ByteArray) (g : Nat → List Nat) (f : Nat → Bool) (G G' : GS) (fm : Value → Option Value) : Prop where
  no : stepL f G.dp (g hub) (-1) < 0 → ∀ k, IsKey .string k → fm k = none
  yes : 0 ≤ stepL f G.dp (g hub) (-1) → ∀ v, v < n → f v = true → ∃ a cc, fm (.string (ks.getD v ByteArray.empty)) = some (.agg #[.int .i64 ((cycP G G' hub (stepL f G.dp (g hub) (-1)).toNat v).length : Int), .slice a ((cycP G G' hub (stepL f G.dp (g hub) (-1)).toNat v).take lead).length cc]) ∧
          Sl w' 9 1 a ((cycP G G' hub (stepL f G.dp (g hub) (-1)).toNat v).take lead).length cc (names ks ((cycP G G' hub (stepL f G.dp (g hub) (-1)).toNat v).take lead)) ∧ ∀ b, blk a = some b → H ≤ b
  none : ∀ k, IsKey .string k → (∀ v, v < n → f v = true → k ≠ .string (ks.getD v ByteArray.empty)) → fm k = none

theorem Fnd.low {H H' : Nat} {w' : World} {n lead hub : Nat} {ks : List ByteArray} {g : Nat → List Nat} {f : Nat → Bool} {G G' : GS} {fm : Value → Option Value} (h : Fnd H w' n lead hub ks g f G G' fm) (hH : H' ≤ H) : Fnd H' w' n lead hub ks g f G G' fm :=
  ⟨h.no, fun hs v hv hf => by
    obtain ⟨a, cc, h1, h2, h3⟩ := h.yes hs v hv hf
    exact ⟨a, cc, h1, h2, fun b hb => Nat.le_trans hH (h3 b hb)⟩, h.none⟩

set_option maxRecDepth 10000 in
theorem find_new (w : World) (n lead hub : Nat) (ks : List ByteArray) (aoi : Option Addr) (ci bn bv : Nat) (ao ao2 : Nat → Option Addr) (c c2 : Nat → Nat) (g gp : Nat → List Nat) (f : Nat → Bool) (G G' : GS) (p7 p9 bi cb : Nat)
    (bc bm bs bt bfi i0 i1 i2 i3 bfo o0 o1 o2 o3 : Nat) (own : Nat → Nat)
    (hSc : Scene n g gp f hub (fun _ => -2) (fun _ => 0) (fun _ => -2) (fun _ => 0) G G')
    (hG : growL f gp (n + 1) 0 (grow0 (fun _ => -2) (fun _ => 0) hub) = G) (hG' : growL f g (n + 1) 0 (grow0 (fun _ => -2) (fun _ => 0) hub) = G')
    (hlead : lead < 9223372036854775808) (hkn : ks.Nodup) (hkl : ks.length = n)
    (hC : Rec w bc 61 (cyc (.slice aoi n ci) (.slice (some ⟨bn, 0, none⟩) n n) (.slice (some ⟨bv, 0, none⟩) n n) bfo bfi lead (.map (some bm)) (.slice none 0 0) bs)) (hbc : own bc = 6 ∧ p9 < bc)
    (hK : Sl w 9 1 aoi n ci (strs ks)) (hKp : ∀ g, blk aoi = some g → g < p9)
    (hA : Adj w bn n ao c g) (hAp : bn < p9 ∧ ∀ i, i < n → ∀ b, blk (ao i) = some b → b < p9) (hAl : ∀ i, i < n → (g i).length ≤ 1048576)
    (hA2 : Adj w bv n ao2 c2 gp) (hA2p : own bv = 1 ∧ ∀ i, i < n → ∀ b, blk (ao2 i) = some b → own b = 1) (hA2l : ∀ i, i < n → (gp i).length ≤ 1048576)
    (hFo : Fo w bfo o0 o1 o2 o3 n (fun _ => -2) (fun _ => 0) (fun _ => 0) (fun _ => 0)) (yo : ∀ b, b ∈ [bfo, o0, o1, o2, o3] → own b = 2 ∧ p9 < b)
    (hFi : Fo w bfi i0 i1 i2 i3 n (fun _ => -2) (fun _ => 0) (fun _ => 0) (fun _ => 0)) (yi : ∀ b, b ∈ [bfi, i0, i1, i2, i3] → own b = 3 ∧ p9 < b)
    (hIv : Iv w bs bt n none 0 (fun _ => -1) []) (yv : ∀ b, b ∈ [bs, bt] → own b = 4 ∧ p9 < b)
    (hM : MapAt .string w bm 0 (fun _ => none)) (ym : own bm = 5 ∧ p9 < bm)
    (hp7 : p7 < p9) (hbi : bi < p9) (h7 : Rec w p7 44 #[.slice (some ⟨bi, 0, none⟩) n cb]) (hB : Bools w bi n f) :
    Calls Try.prog 29 #[.pointer (some ⟨bc, 0, none⟩), .int .i64 hub, .func (.func 32) #[] #[.pointer (some ⟨p7, 0, none⟩)]] w fun e w' => e = .returned (.tuple #[]) ∧ Fr (fun b => p9 < b) w w' ∧
      w'.cell? ⟨bc, 6, none⟩ = some (.map (some bm)) ∧ ∃ cnt fm, MapAt .string w' bm cnt fm ∧ Fnd w.heap.size w' n lead hub ks g f G G' fm := by
  obtain ⟨E, hE⟩ : ∃ E : Env, E = { n := n, lead := lead, bc := bc, bs := bs, bt := bt, bm := bm, bfi := bfi, i0 := i0, i1 := i1, i2 := i2, i3 := i3, bfo := bfo, o0 := o0, o1 := o1, o2 := o2, o3 := o3, aoi := aoi, ci := ci, keys := ks, nextv := .slice (some ⟨bn, 0, none⟩) n n, prevv := .slice (some ⟨bv, 0, none⟩) n n, fri := fun _ => -2, dpi := fun _ => 0, szi := fun _ => 0, psi := fun _ => 0, fro := fun _ => -2, dpo := fun _ => 0, szo := fun _ => 0, pso := fun _ => 0 } := ⟨_, rfl⟩
  have hblk : E.blocks = bm :: bc :: ([bs, bt] ++ ([bfi, i0, i1, i2, i3] ++ [bfo, o0, o1, o2, o3])) := by rw [hE]; rfl
  have hmem : ∀ b, b ∈ E.blocks → p9 < b ∧ 2 ≤ own b := fun b hb => by
    rw [hblk] at hb
    simp only [List.mem_cons, List.mem_append, List.not_mem_nil, or_false] at hb
    rcases hb with rfl | rfl | (q | q) | q | q
    · exact ⟨ym.2, by rw [ym.1]; omega⟩
    · exact ⟨hbc.2, by rw [hbc.1]; omega⟩
    · have := yv b (by simp [q]); omega
    · have := yv b (by simp [q]); omega
    · have := yi b (by simpa using q); omega
    · have := yo b (by simpa using q); omega
  have hnd : E.blocks.Nodup := by
    rw [hblk, List.nodup_cons, List.nodup_cons, List.nodup_append, List.nodup_append]
    refine ⟨fun q => ?_, fun q => ?_, by simpa using hIv.ne, ⟨hFi.nd, hFo.nd, fun a ha b hb e => ?_⟩, fun a ha b hb e => ?_⟩
    · simp only [List.mem_cons, List.mem_append, List.not_mem_nil, or_false] at q
      rcases q with rfl | (q | q) | q | q
      · have := ym.1; have := hbc.1; omega
      · have := ym.1; have := yv bm (by simp [q]); omega
      · have := ym.1; have := yv bm (by simp [q]); omega
      · have := ym.1; have := yi bm (by simpa using q); omega
      · have := ym.1; have := yo bm (by simpa using q); omega
    · simp only [List.mem_cons, List.mem_append, List.not_mem_nil, or_false] at q
      rcases q with (q | q) | q | q
      · have := hbc.1; have := yv bc (by simp [q]); omega
      · have := hbc.1; have := yv bc (by simp [q]); omega
      · have := hbc.1; have := yi bc (by simpa using q); omega
      · have := hbc.1; have := yo bc (by simpa using q); omega
    · have h1 := yi a ha
      have h2 := yo b hb
      rw [e] at h1
      omega
    · have h1 := yv a ha
      rw [List.mem_append] at hb
      rcases hb with q | q
      · have := yi b q; rw [e] at h1; omega
      · have := yo b q; rw [e] at h1; omega
  have hn := hSc.hn
  have hCS : CS E w [] none 0 none 0 := by
    refine ⟨?_, ?_, ?_, ?_, ?_, Sl.nil _ _ _, hnd, fun g hg q => ?_, fun g hg => by simp [blk] at hg, fun g hg => by simp [blk] at hg, fun g hg => by simp [blk] at hg, fun u hu => by simp at hu, fun u hu => by simp at hu, by simp, ?_, ?_⟩
    · rw [hE]; exact hC
    · rw [hE]; exact hK
    · rw [hE]; exact hFi
    · rw [hE]; exact hFo
    · rw [hE]; exact hIv
    · have := (hmem g q).1
      have := hKp g (by rw [hE] at hg; exact hg)
      omega
    · rw [hE]; exact hn
    · rw [hE]; exact hlead
  have hrv : ∀ i, i < n → ∀ x ∈ gp i, x < n := fun i hi x hx => (hSc.rv x i hi hx).1
  have hCall : Call E w bn bv ao ao2 c c2 g gp 32 #[.pointer (some ⟨p7, 0, none⟩)] f (fun b => b ∈ E.blocks) := by
    refine ⟨by rw [hE], by rw [hE], by rw [hE]; exact hA, by rw [hE]; exact hA2, fun i hi => ?_, fun i hi => ?_, fun b hb q => ?_, fun b hb q => ?_, fun _ _ => by kernel_rfl, fun v w' hv hf => ?_⟩
    · rw [hE] at hi ⊢; exact ⟨hSc.gl i hi, hAl i hi⟩
    · rw [hE] at hi ⊢; exact ⟨hrv i hi, hA2l i hi⟩
    · have := (hmem b q).1
      rcases hb with rfl | ⟨i, hi, hb⟩
      · have := hAp.1; omega
      · have := hAp.2 i (by rw [hE] at hi; exact hi) b hb; omega
    · have := (hmem b q).2
      rcases hb with rfl | ⟨i, hi, hb⟩
      · have := hA2p.1; omega
      · have := hA2p.2 i (by rw [hE] at hi; exact hi) b hb; omega
    · have c0 : w'.cell? ⟨p7, 0, none⟩ = some (.slice (some ⟨bi, 0, none⟩) n cb) := (h7.fr hf (fun q => by have := (hmem _ q).1; omega)).cell 0
      exact inside_any p7 bi n cb f v w' (by rw [hE] at hv; exact hv) c0 (Arr.fr hB hf (fun q => by have := (hmem _ q).1; omega))
  have hG2 : growL f gp (E.n + 1) 0 (grow0 E.fri E.dpi hub) = G := by rw [hE]; exact hG
  have hG2' : growL f g (E.n + 1) 0 (grow0 E.fro E.dpo hub) = G' := by rw [hE]; exact hG'
  obtain ⟨E4, hE4⟩ : ∃ E4, E4 = (E.withIn G.fr G.dp (sizeF G.fr G.rc E.szi) (posF G.fr G.rc (sizeF G.fr G.rc E.szi) E.psi)).withOut G'.fr G'.dp (sizeF G'.fr G'.rc E.szo) (posF G'.fr G'.rc (sizeF G'.fr G'.rc E.szo) E.pso) := ⟨_, rfl⟩
  obtain ⟨par, hD, _⟩ := hSc.T.deep
  obtain ⟨par', hD', _⟩ := hSc.T'.deep
  have hrl : G.rc.length ≤ n := nodup_len n _ hSc.T.nd hSc.T.lt
  have hrl' : G'.rc.length ≤ n := nodup_len n _ hSc.T'.nd hSc.T'.lt
  have hpi : 0 ≤ stepL f G.dp (g hub) (-1) → PreOk G.fr G.rc E.szi E.psi ∧ PreOk G'.fr G'.rc E.szo E.pso ∧ (∀ u ∈ ([] : List Nat), E4.psi u = E.psi u ∧ E4.szi u = E.szi u) ∧ (odL G'.rc (posF G'.fr G'.rc (sizeF G'.fr G'.rc E.szo) E.pso)).length = G'.rc.length ∧
      (∀ k, k < (odL G'.rc (posF G'.fr G'.rc (sizeF G'.fr G'.rc E.szo) E.pso)).length → orderF G'.rc E4.pso k = ((odL G'.rc (posF G'.fr G'.rc (sizeF G'.fr G'.rc E.szo) E.pso)).getD k 0 : Int)) ∧
      Plan E4 hub (stepL f G.dp (g hub) (-1)).toNat [] (odL G'.rc (posF G'.fr G'.rc (sizeF G'.fr G'.rc E.szo) E.pso)) (fun v => turnP G (upP G' v) v) (chP G G' hub (stepL f G.dp (g hub) (-1)).toNat) (fun v => (cycP G G' hub (stepL f G.dp (g hub) (-1)).toNat v).length) (fun v => (cycP G G' hub (stepL f G.dp (g hub) (-1)).toNat v).take E4.lead) := fun hst => by
    obtain ⟨s1, s2⟩ := Scene.first hst
    refine ⟨hD.preOk _ _ (by omega), hD'.preOk _ _ (by omega), fun u hu => by simp at hu, odL_len _ _, fun k hk => ?_, ?_⟩
    · rw [odL_len] at hk
      obtain ⟨j, _, _, h1, h2⟩ := hD'.od E.szo E.pso hk
      rw [h1, hE4]
      exact h2
    · exact hSc.plan s1 s2 (E := E4) (s0 := E.szi) (p0 := E.psi) (s1 := E.szo) (p1 := E.pso) (p00 := []) (by rw [hE4, hE]; rfl) (by rw [hE4]; rfl) (by rw [hE4]; rfl) (by rw [hE4]; rfl) (by rw [hE4]; rfl) (by rw [hE4]; rfl) (by rw [hE4, hE]; exact hkn) (by rw [hE4, hE]; exact hkl) (fun u hu => by simp at hu)
  have hEl : ∀ b ∈ E.blocks, b < w.heap.size := fun b hb => by
    rw [hblk] at hb
    simp only [List.mem_cons, List.mem_append, List.not_mem_nil, or_false] at hb
    rcases hb with rfl | rfl | (rfl | rfl) | q | q
    · exact hM.lt
    · exact hC.lt
    · exact hIv.str.lt
    · exact Arr.lt hIv.top
    · exact hFi.lt b (by simpa using q)
    · exact hFo.lt b (by simpa using q)
  have hmap : MapAt .string w E.bm 0 (fun _ => none) := by rw [hE]; exact hM
  have key := findFrom_any E w [] none 0 none 0 bn bv ao ao2 c c2 g gp 32 #[.pointer (some ⟨p7, 0, none⟩)] f (fun b => b ∈ E.blocks) hub G G' E4 _ _ _ _ _ 0 (fun _ => none) hCS hCall (fun _ q => q) (fun b hb => by simp [blk] at hb) (by rw [hE]; exact hSc.hb) hmap hEl hG2 hG2' hE4 hpi
  rw [show E.bc = bc by rw [hE]] at key
  refine key.mono ?_
  rintro e w' ⟨rfl, hF, hno, hyes⟩
  have hEbc : E.bc = bc := by rw [hE]
  have hEbm : E.bm = bm := by rw [hE]
  refine ⟨rfl, hF.mono (fun b _ q => (hmem b q).1), ?_⟩
  by_cases hst : stepL f G.dp (g hub) (-1) < 0
  · obtain ⟨k1, k2, _⟩ := hno hst
    have c6 := k1.C.cell 6
    have e1 : (E.withIn G.fr G.dp E.szi E.psi).bc = bc := hEbc
    have e2 : (E.withIn G.fr G.dp E.szi E.psi).bm = bm := hEbm
    rw [e1, e2] at c6
    rw [hEbm] at k2
    exact ⟨c6, 0, _, k2, ⟨fun _ _ _ => rfl, fun q => by omega, fun _ _ _ => rfl⟩⟩
  · obtain ⟨pao', pc', ao', c', cnt', f', k1, k2, k3, _, _⟩ := hyes (by omega)
    have c6 := k1.C.cell 6
    have e1 : E4.bc = bc := by rw [hE4]; exact hEbc
    have e2 : E4.bm = bm := by rw [hE4]; exact hEbm
    have e3 : E4.lead = lead := by rw [hE4, hE]; rfl
    have e4 : E4.keys = ks := by rw [hE4, hE]; rfl
    rw [e1, e2] at c6
    rw [hEbm] at k2
    have hod : ∀ v, v ∈ odL G'.rc (posF G'.fr G'.rc (sizeF G'.fr G'.rc E.szo) E.pso) ↔ v < n ∧ f v = true := fun v => (hD'.odmem E.szo E.pso v).trans hSc.mem'
    refine ⟨c6, cnt', f', k2, ⟨fun q => absurd q hst, fun _ v hv hfv => ?_, fun k hk hno2 => ?_⟩⟩
    · obtain ⟨a, cc, h1, h2, h3⟩ := k3.each v ((hod v).2 ⟨hv, hfv⟩)
      simp only [Env.key, e3, e4] at h1 h2
      exact ⟨a, cc, h1, h2, fun b hb => (h3 b hb).1⟩
    · have := k3.rest k hk (fun v hv => by
        simp only [Env.key, e4]
        exact hno2 v ((hod v).1 hv).1 ((hod v).1 hv).2)
      exact this
end Go.Proofs.Qxb6615025a
