/-
  newLead (33), along (40), through (41), the function that asks the table (32).
-/
import Derived.Test.Qxb6615025aPre
namespace Go.Proofs.Qxb6615025a
open Go.RowKit

/-- make([]T, 0, m), one cell an element. -/
theorem run_make0 {t T bytes : Nat} {z : Value} (el : El t T 1 bytes z) (hz : z.cells = #[z]) (w : World) (m : Nat) (hm : m ≤ 2097152) :
    (Instr.makeSlice t (.int .i64 0) (.int .i64 (m : Int))).run Try.prog w = .ok (.slice (some ⟨w.heap.size, 0, none⟩) 0 m) (w.alloc (.cells (Array.ofFn fun _ : Fin m => z) T)) := by
  obtain ⟨i0, hi, hz0, hz1, hz2⟩ := info_parts el.info
  have hb := el.small
  have hnb : bytes * m ≤ 32 * 2097152 := Nat.mul_le_mul hb hm
  have hb' : (i0.bytes : Int) * (m : Int) ≤ 281474976710656 := by
    rw [hz2]
    have h : ((bytes * m : Nat) : Int) ≤ 281474976710656 := by omega
    rwa [Int.natCast_mul] at h
  have hr := run_make (P := Try.prog) w t T i0 z el.under hi hz0 .i64 .i64 0 m (by omega) (by omega) hb' (by omega)
  simp only [Int.toNat_natCast, hz1, Nat.mul_one, hz, madeCells_one] at hr
  exact hr

def names (keys : List ByteArray) (l : List Nat) : List Value := l.map fun v => .string (keys.getD v ByteArray.empty)

def strs (keys : List ByteArray) : List Value := keys.map fun s => .string s

theorem names_append (keys : List ByteArray) (a b : List Nat) : names keys (a ++ b) = names keys a ++ names keys b := by simp [names]

set_option maxRecDepth 100000 in
set_option maxHeartbeats 1000000 in
theorem newLead_any (bc lead length : Nat) (w : World) (hl : lead < 9223372036854775808) (hlen : length ≤ 1024) (c5 : w.cell? ⟨bc, 5, none⟩ = some (.int .i64 lead)) :
    Calls Try.prog 33 #[.pointer (some ⟨bc, 0, none⟩), .int .i64 length] w fun e w' =>
      e = .returned (.slice (some ⟨w.heap.size, 0, none⟩) 0 (min lead length)) ∧ w' = w.alloc (.cells (Array.ofFn fun _ : Fin (min lead length) => .string ByteArray.empty) 9) := by
  have hm0 : (Instr.makeSlice 22 (.int .i64 0) (.int .i64 0)).run Try.prog w = .ok (.slice (some ⟨w.heap.size, 0, none⟩) 0 0) (w.alloc (.cells (Array.ofFn fun _ : Fin 0 => .string ByteArray.empty) 9)) := run_make0 el22 rfl w 0 (by omega)
  by_cases h : lead ≤ length
  · have hm := run_make0 el22 rfl w lead (by omega)
    rw [Nat.min_eq_left h]
    go_enter Try.func33, Try.ntmps33
    go_wp2
    · go_ret
      exact ⟨rfl, rfl⟩
    · go_ret
      have e : lead = 0 := by omega
      subst e
      exact ⟨rfl, rfl⟩
  · have hm := run_make0 el22 rfl w length (by omega)
    rw [Nat.min_eq_right (by omega)]
    go_enter Try.func33, Try.ntmps33
    go_wp2
    · go_ret
      exact ⟨rfl, rfl⟩
    · go_ret
      have e : length = 0 := by omega
      subst e
      exact ⟨rfl, rfl⟩

set_option maxRecDepth 100000 in
set_option maxHeartbeats 1000000 in
theorem along_any (bc bfi b0 n : Nat) (aoi : Option Addr) (ci : Nat) (keys : List ByteArray) (fr : Nat → Int) (lead : Nat) (ao : Option Addr) (c : Nat) (l : List Nat) (ps : List Nat) (stop start : Nat) (w : World)
    (hl : lead < 9223372036854775808) (hll : l.length ≤ 1024) (hpl : ps.length ≤ 1024)
    (c0 : w.cell? ⟨bc, 0, none⟩ = some (.slice aoi n ci)) (c4 : w.cell? ⟨bc, 4, none⟩ = some (.pointer (some ⟨bfi, 0, none⟩))) (c5 : w.cell? ⟨bc, 5, none⟩ = some (.int .i64 lead))
    (f0 : w.cell? ⟨bfi, 0, none⟩ = some (.slice (some ⟨b0, 0, none⟩) n n)) (hi : Ints w b0 n fr) (hk : Sl w 9 1 aoi n ci (strs keys)) (hs : Sl w 9 1 ao l.length c (names keys l))
    (d1 : blk ao ≠ some bc) (d2 : blk ao ≠ some bfi) (d3 : blk ao ≠ some b0) (d4 : ∀ b, blk aoi = some b → blk ao ≠ some b)
    (hst : (ps ++ [stop]).getD 0 0 = start) (hps : ∀ v ∈ ps, v < n ∧ v ≠ stop) (hch : ∀ i, i < ps.length → fr (ps.getD i 0) = ((ps ++ [stop]).getD (i + 1) 0 : Int)) :
    Calls Try.prog 40 #[.pointer (some ⟨bc, 0, none⟩), .slice ao l.length c, .int .i64 start, .int .i64 stop] w fun e w' => ∃ ao' c',
      e = .returned (.slice ao' (l ++ ps.take (lead - l.length)).length c') ∧ Sl w' 9 1 ao' (l ++ ps.take (lead - l.length)).length c' (names keys (l ++ ps.take (lead - l.length))) ∧
      Fr (fun k => blk ao = some k) w w' ∧ (blk ao' = blk ao ∨ ∃ g, w.heap.size ≤ g ∧ blk ao' = some g) := by
  have HI := hid hi
  have HK := hid hk
  have HS := hid hs
  have HPS := hid hps
  have HCH := hid hch
  have HST := hid hst
  have hkl : keys.length = n := by have := hk.length; simpa [strs] using this
  have bb0 := Arr.lt hi
  have bbc := World.block_lt_of_cell? _ _ c0
  have bbf := World.block_lt_of_cell? _ _ f0
  have hao := hid (fun g (hg : blk ao = some g) => hs.lt hg)
  have hai := hid (fun g (hg : blk aoi = some g) => hk.lt hg)
  simp at bbc bbf
  have D4 := hid d4
  clear hi hk hs hps hch hst d4
  go_enter Try.func40, Try.ntmps40
  go_wp2
  go_loopg [1, 9] (ps.length + 1) (fun gg s1 s9 wr => ∃ (i : Nat) (ao' : Option Addr) (c' : Nat), gg + i = ps.length + 1 ∧ i ≤ ps.length ∧ s9 = .int .i64 (((ps ++ [stop]).getD i 0 : Nat) : Int) ∧ s1 = .slice ao' (l ++ ps.take i).length c' ∧ (l.length + i ≤ lead ∨ i = 0) ∧ Hid (Sl wr 9 1 ao' (l ++ ps.take i).length c' (names keys (l ++ ps.take i))) ∧ Hid (Fr (fun k => blk ao = some k) w wr) ∧ Hid (blk ao' = blk ao ∨ ∃ g, w.heap.size ≤ g ∧ blk ao' = some g))
  case atStart => exact ⟨0, ao, c, by omega, by omega, by rw [HST.out], by simp, .inr rfl, hid (by simpa using HS.out), hid (Fr.refl _ w), hid (.inl rfl)⟩
  case round =>
    obtain ⟨i, ao', c', hgi, hi, rfl, rfl, hil, hS, hR, hA⟩ := hrel
    have r0 := hR.out.cell c0 d1
    have r4 := hR.out.cell c4 d1
    have r5 := hR.out.cell c5 d1
    have rf := hR.out.cell f0 d2
    have rI := hid (Arr.fr HI.out hR.out d3)
    have rK := hid (HK.out.fr hR.out (fun g hg => D4.out g hg))
    by_cases hi2 : i < ps.length
    · have hv0 : (ps ++ [stop]).getD i 0 = ps[i] := by rw [List.getD_eq_getElem?_getD, List.getElem?_append_left hi2]; simp [hi2]
      have hv := HPS.out ps[i] (List.getElem_mem hi2)
      have hfr := HCH.out i hi2
      rw [show ps.getD i 0 = ps[i] by simp [hi2]] at hfr
      rw [hv0]
      obtain ⟨v, hvv⟩ : ∃ v, ps[i] = v := ⟨_, rfl⟩
      rw [hvv] at hv hfr ⊢
      obtain ⟨hv1, hv2⟩ := hv
      have hne : ((v : Int) == (stop : Int)) = false := by simp; omega
      have hne2 : ((v : Int) != (stop : Int)) = true := by simp; omega
      have hlen : (l ++ ps.take i).length = l.length + i := by simp; omega
      rw [hlen]
      by_cases hroom : l.length + i < lead
      · obtain ⟨kv, hkv⟩ : ∃ kv, keys.getD v ByteArray.empty = kv := ⟨_, rfl⟩
        have hx : (strs keys)[v]? = some (.string kv) := by rw [← hkv]; simp [strs, hkl, hv1]
        obtain ⟨bi, hbi, q1⟩ := rK.out.cell hx
        have q2 := Arr.cell rI.out hv1
        rw [hfr] at q2
        have hS' : Hid (Sl wr 9 1 ao' (l.length + i) c' (names keys (l ++ ps.take i))) := hid (by rw [← hlen]; exact hS.out)
        have HKV := hid hkv
        have HFR := hid hfr
        have HVV := hid hvv
        have HLEN := hid hlen
        have hbc2 : blk ao' ≠ some bc := fun q => by
          rcases hA.out with r | ⟨g, hg, r⟩
          · exact d1 (r ▸ q)
          · rw [q] at r; cases r; omega
        have hbf2 : blk ao' ≠ some bfi := fun q => by
          rcases hA.out with r | ⟨g, hg, r⟩
          · exact d2 (r ▸ q)
          · rw [q] at r; cases r; omega
        have hb02 : blk ao' ≠ some b0 := fun q => by
          rcases hA.out with r | ⟨g, hg, r⟩
          · exact d3 (r ▸ q)
          · rw [q] at r; cases r; omega
        have X2 := hid hb02
        clear hkv hx hvv hS hlen hfr hv0
        go_wp2_with (refine wpList_app _ _ rfl rfl el22 ao' (l.length + i) c' (names keys (l ++ ps.take i)) rfl (hS'.out.alloc _) wr.heap.size 9 #[.string kv] rfl (Rec.new wr 9 _) rfl (by intro u hu; simp at hu; subst hu; rfl) (by omega) (wr.heap.size + 1) (World.size_alloc _ _) ?_; intro b4 c4' w4 k1 k2 k3 k4; have hf4 := hid (((Fr.refl (fun k => blk ao' = some k) wr).alloc _).grown k2 (fun k hk _ => hk)); have q4 := hf4.out.cell r4 hbc2; have qf := hf4.out.cell rf hbf2; have q2' := Arr.cell (Arr.fr rI.out hf4.out hb02) hv1; clear r0 r4 r5 rf q1 q2)
        try rw [← hbi]
        go_roundg (gk - 1)
        case measure => omega
        case rel =>
          have htk : l ++ ps.take (i + 1) = (l ++ ps.take i) ++ [v] := by
            rw [List.take_succ_eq_append_getElem hi2, HVV.out, List.append_assoc]
          have hlen1 : (l ++ ps.take (i + 1)).length = l.length + i + 1 := by simp; omega
          refine ⟨i + 1, some ⟨b4, 0, none⟩, c4', by omega, by omega, by rw [HFR.out], by rw [hlen1], .inl (by omega), hid ?_, hid ?_, hid ?_⟩
          · rw [hlen1, htk, names_append]
            simpa [names, ← HKV.out] using k1
          · refine hR.out.trans hf4.out fun j hj q => ?_
            rcases hA.out with r | ⟨g, hg, r⟩
            · rw [← r]; exact q
            · rw [q] at r; cases r; omega
          · rcases k3 with q | q
            · rw [show blk (some (⟨b4, 0, none⟩ : Addr)) = some b4 from rfl, ← q]; exact hA.out
            · exact .inr ⟨b4, by have := hR.out.size; omega, rfl⟩
      · have hcut : ps.take (lead - l.length) = ps.take i := by
          rcases hil with q | q
          · rw [show lead - l.length = i by omega]
          · subst q; rw [show lead - l.length = 0 by omega]
        go_wp2_with fail
        go_ret
        refine ⟨ao', c', ?_, ?_, hR.out, hA.out⟩
        · rw [hcut, hlen]; rfl
        · rw [hcut]; exact hS.out
    · have hi3 : i = ps.length := by omega
      subst hi3
      have hv0 : (ps ++ [stop]).getD ps.length 0 = stop := by simp
      rw [hv0]
      go_wp2_with fail
      go_ret
      have hcut : ps.take (lead - l.length) = ps := by
        rcases hil with q | q
        · exact List.take_of_length_le (by omega)
        · have : ps = [] := List.eq_nil_of_length_eq_zero q
          simp [this]
      rw [hcut]
      rw [List.take_length] at hS
      refine ⟨ao', c', ?_, hS.out, hR.out, hA.out⟩
      rw [List.take_length]; rfl

set_option maxRecDepth 100000 in
set_option maxHeartbeats 1000000 in
theorem through_any (bc n : Nat) (aoi : Option Addr) (ci : Nat) (keys : List ByteArray) (lead : Nat) (ao : Option Addr) (c : Nat) (l : List Nat) (bp off cp : Nat) (ns : List Nat) (w : World)
    (hl : lead < 9223372036854775808) (hll : l.length ≤ 1024) (hpl : ns.length ≤ 1024) (hle : l.length ≤ lead)
    (c0 : w.cell? ⟨bc, 0, none⟩ = some (.slice aoi n ci)) (c5 : w.cell? ⟨bc, 5, none⟩ = some (.int .i64 lead))
    (hk : Sl w 9 1 aoi n ci (strs keys)) (hs : Sl w 9 1 ao l.length c (names keys l)) (hp : ∀ j, j < ns.length → w.cell? ⟨bp, off + j, none⟩ = some (.int .i64 (ns.getD j 0 : Int)))
    (d1 : blk ao ≠ some bc) (d2 : blk ao ≠ some bp) (d4 : ∀ b, blk aoi = some b → blk ao ≠ some b) (hps : ∀ v ∈ ns, v < n) :
    Calls Try.prog 41 #[.pointer (some ⟨bc, 0, none⟩), .slice ao l.length c, .slice (some ⟨bp, off, none⟩) ns.length cp] w fun e w' => ∃ ao' c',
      e = .returned (.slice ao' (l ++ ns.take (lead - l.length)).length c') ∧ Sl w' 9 1 ao' (l ++ ns.take (lead - l.length)).length c' (names keys (l ++ ns.take (lead - l.length))) ∧
      Fr (fun k => blk ao = some k) w w' ∧ (blk ao' = blk ao ∨ ∃ g, w.heap.size ≤ g ∧ blk ao' = some g) := by
  have HK := hid hk
  have HS := hid hs
  have HPS := hid hps
  have HP := hid hp
  have hkl : keys.length = n := by have := hk.length; simpa [strs] using this
  have bbc := World.block_lt_of_cell? _ _ c0
  have hao := hid (fun g (hg : blk ao = some g) => hs.lt hg)
  have hai := hid (fun g (hg : blk aoi = some g) => hk.lt hg)
  simp at bbc
  have D4 := hid d4
  clear hk hs hps hp d4
  go_enter Try.func41, Try.ntmps41
  go_wp2
  go_loopg [1, 8, 11] (ns.length + 1) (fun gg s1 s8 s11 wr => ∃ (i : Nat) (ao' : Option Addr) (c' : Nat), gg + i = ns.length + 1 ∧ i ≤ ns.length ∧ s11 = .int .i64 (i : Int) ∧ s1 = .slice ao' (l.length + i) c' ∧ l.length + i ≤ lead ∧ Hid (Sl wr 9 1 ao' (l.length + i) c' (names keys (l ++ ns.take i))) ∧ Hid (Fr (fun k => blk ao = some k) w wr) ∧ Hid (blk ao' = blk ao ∨ ∃ g, w.heap.size ≤ g ∧ blk ao' = some g))
  case atStart => exact ⟨0, ao, c, by omega, by omega, rfl, rfl, by omega, hid (by simpa using HS.out), hid (Fr.refl _ w), hid (.inl rfl)⟩
  case round =>
    obtain ⟨i, ao', c', hgi, hi, rfl, rfl, hil, hS, hR, hA⟩ := hrel
    have r0 := hR.out.cell c0 d1
    have r5 := hR.out.cell c5 d1
    have rK := hid (HK.out.fr hR.out (fun g hg => D4.out g hg))
    by_cases hi2 : i < ns.length
    · have hpi := HP.out i hi2
      have hv := HPS.out ns[i] (List.getElem_mem hi2)
      rw [show ns.getD i 0 = ns[i] by simp [hi2]] at hpi
      obtain ⟨v, hvv⟩ : ∃ v, ns[i] = v := ⟨_, rfl⟩
      rw [hvv] at hv hpi
      have hpi2 := hR.out.cell hpi d2
      have HVV := hid hvv
      clear hvv hpi
      by_cases hroom : l.length + i = lead
      · have hroom2 : ((l.length : Int) + i == (lead : Int)) = true := by simp; omega
        have hcut : ns.take (lead - l.length) = ns.take i := by rw [show lead - l.length = i by omega]
        have HCUT := hid hcut
        clear hcut
        go_wp2_with fail
        go_ret
        refine ⟨ao', c', ?_, ?_, hR.out, hA.out⟩
        · rw [HCUT.out, List.length_append, List.length_take, Nat.min_eq_left hi]; rfl
        · rw [HCUT.out, List.length_append, List.length_take, Nat.min_eq_left hi]; exact hS.out
      · have hroom2 : ((l.length : Int) + i == (lead : Int)) = false := by simp; omega
        obtain ⟨kv, hkv⟩ : ∃ kv, keys.getD v ByteArray.empty = kv := ⟨_, rfl⟩
        have hx : (strs keys)[v]? = some (.string kv) := by rw [← hkv]; simp [strs, hkl, hv]
        obtain ⟨bi, hbi, q1⟩ := rK.out.cell hx
        have HKV := hid hkv
        clear hkv hx
        go_wp2_with (refine wpList_app _ _ rfl rfl el22 ao' (l.length + i) c' (names keys (l ++ ns.take i)) rfl (hS.out.alloc _) wr.heap.size 9 #[.string kv] rfl (Rec.new wr 9 _) rfl (by intro u hu; simp at hu; subst hu; rfl) (by omega) (wr.heap.size + 1) (World.size_alloc _ _) ?_; intro b4 c4' w4 k1 k2 k3 k4; have hf4 := hid (((Fr.refl (fun k => blk ao' = some k) wr).alloc _).grown k2 (fun k hk _ => hk)); clear r0 r5 q1 hpi2)
        try rw [← hbi]
        go_roundg (gk - 1)
        case measure => omega
        case rel =>
          have htk : l ++ ns.take (i + 1) = (l ++ ns.take i) ++ [v] := by
            rw [List.take_succ_eq_append_getElem hi2, HVV.out, List.append_assoc]
          refine ⟨i + 1, some ⟨b4, 0, none⟩, c4', by omega, by omega, by go_num, by rw [Nat.add_assoc], by omega, hid ?_, hid ?_, hid ?_⟩
          · rw [htk, names_append, ← Nat.add_assoc]
            simpa [names, ← HKV.out] using k1
          · refine hR.out.trans hf4.out fun j hj q => ?_
            rcases hA.out with r | ⟨g, hg, r⟩
            · rw [← r]; exact q
            · rw [q] at r; cases r; omega
          · rcases k3 with q | q
            · rw [show blk (some (⟨b4, 0, none⟩ : Addr)) = some b4 from rfl, ← q]; exact hA.out
            · exact .inr ⟨b4, by have := hR.out.size; omega, rfl⟩
    · have hi3 : i = ns.length := by omega
      subst hi3
      go_wp2_with fail
      go_ret
      have hcut : ns.take (lead - l.length) = ns := List.take_of_length_le (by omega)
      rw [hcut]
      rw [List.take_length] at hS
      refine ⟨ao', c', ?_, by rw [List.length_append]; exact hS.out, hR.out, hA.out⟩
      rw [List.length_append]; rfl

set_option maxRecDepth 100000 in
set_option maxHeartbeats 1000000 in
theorem inside_any (p bi n ci : Nat) (f : Nat → Bool) (v : Nat) (w : World) (hv : v < n) (c0 : w.cell? ⟨p, 0, none⟩ = some (.slice (some ⟨bi, 0, none⟩) n ci)) (hb : Bools w bi n f) :
    Calls Try.prog 32 #[.int .i64 v, .pointer (some ⟨p, 0, none⟩)] w fun e w' => e = .returned (.bool (f v)) ∧ ∃ k, w' = w.drewN k := by
  have c1 := Arr.cell hb hv
  clear hb
  go_enter Try.func32, Try.ntmps32
  go_wp2
  go_ret
  exact ⟨rfl, 0, rfl⟩
end Go.Proofs.Qxb6615025a
