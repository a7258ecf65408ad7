-- Cycles' function within (30); a fresh cycler; the loop's state kept.
import Derived.Test.Qxb6615025aNext
import Derived.Test.Qxb6615025aComps
namespace Go.Proofs.Qxb6615025a
open Go.RowKit Go.MapKept

set_option maxRecDepth 100000 in
set_option maxHeartbeats 1000000 in
theorem within_any (pc pi bC n i v : Nat) (cmp : Nat → Int) (w : World) (hv : v < n) (hi : i < n) (c0 : w.cell? ⟨pc, 0, none⟩ = some (.slice (some ⟨bC, 0, none⟩) n n)) (c1 : w.cell? ⟨pi, 0, none⟩ = some (.int .i64 i)) (hb : Ints w bC n cmp) :
    Calls Try.prog 30 #[.int .i64 v, .pointer (some ⟨pc, 0, none⟩), .pointer (some ⟨pi, 0, none⟩)] w fun e w' => e = .returned (.bool (decide (cmp v = cmp i))) ∧ ∃ k, w' = w.drewN k := by
  have c2 := Ints.cell hb hv
  have c3 := Ints.cell hb hi
  clear hb
  have hd : (cmp v == cmp i) = decide (cmp v = cmp i) := rfl
  go_enter Try.func30, Try.ntmps30
  go_upto_region 1 with fail
  go_quiet (fail)
  go_wp2
  go_ret
  exact ⟨rfl, _, rfl⟩

theorem Fds.fr {n lead : Nat} {ks : List ByteArray} {g gp : Nat → List Nat} {same : Nat → Nat → Bool} {H : Nat} {w w' : World} {bad : Nat → Prop} {i : Nat} {fm : Value → Option Value} (h : Fds n lead ks g gp same H w bad i fm) {M : Nat → Prop} (hf : Fr M w w') (hm : ∀ b, H ≤ b → b < w.heap.size → ¬ M b) : Fds n lead ks g gp same H w' bad i fm :=
  ⟨fun hh v h1 h2 h3 h4 h5 h6 => by
    obtain ⟨a, cc, q1, q2, q3⟩ := h.each hh v h1 h2 h3 h4 h5 h6
    exact ⟨a, cc, q1, q2.fr hf (fun b hb => hm b (q3 b hb).1 (q3 b hb).2.1), fun b hb => ⟨(q3 b hb).1, Nat.lt_of_lt_of_le (q3 b hb).2.1 hf.size, (q3 b hb).2.2⟩⟩, h.none⟩

section
variable {E0 : Env} {g gp : Nat → List Nat} {same : Nat → Nat → Bool} {T H i : Nat} {E : Env} {w w' : World} {path : List Nat} {pao : Option Addr} {pc : Nat} {ao : Option Addr} {c cnt : Nat} {fm : Value → Option Value}

theorem Lp.fr (L : Lp E0 g gp same T T i E w path pao pc ao c cnt fm) {M : Nat → Prop} (hf : Fr M w w') (h1 : ∀ b ∈ E0.blocks, ¬ M b) (h2 : ∀ b, blk E0.aoi = some b → ¬ M b) (h3 : ∀ b, T ≤ b → b < w.heap.size → ¬ M b) : Lp E0 g gp same T T i E w' path pao pc ao c cnt fm := by
  obtain ⟨x1, x2, x3, x4, y1, y2, y3, y4, hE⟩ := L.eq
  have eb : E.rest = E0.rest := by rw [hE]; rfl
  have ea : E.aoi = E0.aoi := by rw [hE]; rfl
  have hsz := hf.size
  refine ⟨L.eq, ?_, L.map.of_block (hf.block E0.bm L.map.lt (h1 _ (by simp [Env.blocks]))), L.el, Nat.le_trans L.tw hsz, L.ht, L.pT, L.fre, L.pth, L.fnd.fr hf h3⟩
  refine L.cs.fr hf (fun b hb => h1 b (List.mem_cons_of_mem _ (eb ▸ hb))) (fun b hb => ?_)
  rcases hb with q | q | q
  · exact h2 b (ea ▸ q)
  · exact h3 b (L.pT b (.inl q)) (L.cs.P.lt q)
  · exact h3 b (L.pT b (.inr q)) (L.cs.I.held.lt q)

theorem Lp.skip (L : Lp E0 g gp same T H i E w path pao pc ao c cnt fm) (hh : ∃ h, h < i ∧ same h i = true) : Lp E0 g gp same T H (i + 1) E w path pao pc ao c cnt fm := by
  refine ⟨L.eq, L.cs, L.map, L.el, L.tw, L.ht, L.pT, fun v hv q => L.fre v hv (fun h hh => q h (by omega)), fun u hu => ?_, ⟨fun h v h1 h2 h3 h4 h5 h6 => ?_, fun k hk q => L.fnd.none k hk (fun h v h1 => q h v (by omega))⟩⟩
  · obtain ⟨q1, h, q2, q3⟩ := L.pth u hu
    exact ⟨q1, h, by omega, q3⟩
  · refine L.fnd.each h v ?_ h2 h3 h4 h5 h6
    rcases Nat.lt_or_ge h i with q | q
    · exact q
    · obtain ⟨h', q1, q2⟩ := hh
      have e : h = i := by omega
      subst e
      rw [h3 h' q1] at q2
      cases q2
end

theorem cs_new (w : World) (n lead : Nat) (ks : List ByteArray) (aoi : Option Addr) (ci bn bv : Nat) (p9 : Nat)
    (bc bm bs bt bfi i0 i1 i2 i3 bfo o0 o1 o2 o3 : Nat) (own : Nat → Nat) (hn : n ≤ 1024)
    (hlead : lead < 9223372036854775808)
    (hC : Rec w bc 61 (cyc (.slice aoi n ci) (.slice (some ⟨bn, 0, none⟩) n n) (.slice (some ⟨bv, 0, none⟩) n n) bfo bfi lead (.map (some bm)) (.slice none 0 0) bs)) (hbc : own bc = 6 ∧ p9 < bc)
    (hK : Sl w 9 1 aoi n ci (strs ks)) (hKp : ∀ g, blk aoi = some g → g < p9)
    (hFo : Fo w bfo o0 o1 o2 o3 n (fun _ => -2) (fun _ => 0) (fun _ => 0) (fun _ => 0)) (yo : ∀ b, b ∈ [bfo, o0, o1, o2, o3] → own b = 2 ∧ p9 < b)
    (hFi : Fo w bfi i0 i1 i2 i3 n (fun _ => -2) (fun _ => 0) (fun _ => 0) (fun _ => 0)) (yi : ∀ b, b ∈ [bfi, i0, i1, i2, i3] → own b = 3 ∧ p9 < b)
    (hIv : Iv w bs bt n none 0 (fun _ => -1) []) (yv : ∀ b, b ∈ [bs, bt] → own b = 4 ∧ p9 < b)
    (hM : MapAt .string w bm 0 (fun _ => none)) (ym : own bm = 5 ∧ p9 < bm) :
    ∃ E : Env, E.n = n ∧ E.lead = lead ∧ E.keys = ks ∧ E.bc = bc ∧ E.bm = bm ∧ E.aoi = aoi ∧ E.nextv = .slice (some ⟨bn, 0, none⟩) n n ∧ E.prevv = .slice (some ⟨bv, 0, none⟩) n n ∧ E.fri = (fun _ => -2) ∧ E.fro = (fun _ => -2) ∧ CS E w [] none 0 none 0 ∧
      (∀ b, b ∈ E.blocks → p9 < b ∧ 2 ≤ own b) ∧ (∀ b ∈ E.blocks, b < w.heap.size) := by
  obtain ⟨E, hE⟩ : ∃ E : Env, E = { n := n, lead := lead, bc := bc, bs := bs, bt := bt, bm := bm, bfi := bfi, i0 := i0, i1 := i1, i2 := i2, i3 := i3, bfo := bfo, o0 := o0, o1 := o1, o2 := o2, o3 := o3, aoi := aoi, ci := ci, keys := ks, nextv := .slice (some ⟨bn, 0, none⟩) n n, prevv := .slice (some ⟨bv, 0, none⟩) n n, fri := fun _ => -2, dpi := fun _ => 0, szi := fun _ => 0, psi := fun _ => 0, fro := fun _ => -2, dpo := fun _ => 0, szo := fun _ => 0, pso := fun _ => 0 } := ⟨_, rfl⟩
  have hblk : E.blocks = bm :: bc :: ([bs, bt] ++ ([bfi, i0, i1, i2, i3] ++ [bfo, o0, o1, o2, o3])) := by rw [hE]; rfl
  have hmem : ∀ b, b ∈ E.blocks → p9 < b ∧ 2 ≤ own b := fun b hb => by
    rw [hblk] at hb
    simp only [List.mem_cons, List.mem_append, List.not_mem_nil, or_false] at hb
    rcases hb with rfl | rfl | (q | q) | q | q
    · exact ⟨ym.2, by rw [ym.1]; omega⟩
    · exact ⟨hbc.2, by rw [hbc.1]; omega⟩
    · have := yv b (by simp [q]); omega
    · have := yv b (by simp [q]); omega
    · have := yi b (by simpa using q); omega
    · have := yo b (by simpa using q); omega
  have hnd : E.blocks.Nodup := by
    rw [hblk, List.nodup_cons, List.nodup_cons, List.nodup_append, List.nodup_append]
    refine ⟨fun q => ?_, fun q => ?_, by simpa using hIv.ne, ⟨hFi.nd, hFo.nd, fun a ha b hb e => ?_⟩, fun a ha b hb e => ?_⟩
    · simp only [List.mem_cons, List.mem_append, List.not_mem_nil, or_false] at q
      rcases q with rfl | (q | q) | q | q
      · have := ym.1; have := hbc.1; omega
      · have := ym.1; have := yv bm (by simp [q]); omega
      · have := ym.1; have := yv bm (by simp [q]); omega
      · have := ym.1; have := yi bm (by simpa using q); omega
      · have := ym.1; have := yo bm (by simpa using q); omega
    · simp only [List.mem_cons, List.mem_append, List.not_mem_nil, or_false] at q
      rcases q with (q | q) | q | q
      · have := hbc.1; have := yv bc (by simp [q]); omega
      · have := hbc.1; have := yv bc (by simp [q]); omega
      · have := hbc.1; have := yi bc (by simpa using q); omega
      · have := hbc.1; have := yo bc (by simpa using q); omega
    · have h1 := yi a ha
      have h2 := yo b hb
      rw [e] at h1
      omega
    · have h1 := yv a ha
      rw [List.mem_append] at hb
      rcases hb with q | q
      · have := yi b q; rw [e] at h1; omega
      · have := yo b q; rw [e] at h1; omega
  have hCS : CS E w [] none 0 none 0 := by
    refine ⟨?_, ?_, ?_, ?_, ?_, Sl.nil _ _ _, hnd, fun g hg q => ?_, fun g hg => by simp [blk] at hg, fun g hg => by simp [blk] at hg, fun g hg => by simp [blk] at hg, fun u hu => by simp at hu, fun u hu => by simp at hu, by simp, ?_, ?_⟩
    · rw [hE]; exact hC
    · rw [hE]; exact hK
    · rw [hE]; exact hFi
    · rw [hE]; exact hFo
    · rw [hE]; exact hIv
    · have := (hmem g q).1
      have := hKp g (by rw [hE] at hg; exact hg)
      omega
    · rw [hE]; exact hn
    · rw [hE]; exact hlead
  have hEl : ∀ b ∈ E.blocks, b < w.heap.size := fun b hb => by
    rw [hblk] at hb
    simp only [List.mem_cons, List.mem_append, List.not_mem_nil, or_false] at hb
    rcases hb with rfl | rfl | (rfl | rfl) | q | q
    · exact hM.lt
    · exact hC.lt
    · exact hIv.str.lt
    · exact Arr.lt hIv.top
    · exact hFi.lt b (by simpa using q)
    · exact hFo.lt b (by simpa using q)
  exact ⟨E, by rw [hE], by rw [hE], by rw [hE], by rw [hE], by rw [hE], by rw [hE], by rw [hE], by rw [hE], by rw [hE], by rw [hE], hCS, hmem, hEl⟩
end Go.Proofs.Qxb6615025a
