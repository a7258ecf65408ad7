/- The arguments in memory; zzBytes (16), zzLess (22), zzEdgesOf (23), zzTooBig (9). -/
import Derived.Test.Qxb6615025aLead
import Derived.Deep.DeepCutAuto
import Derived.BigQuiet
namespace Go.Proofs.Qxb6615025a
open Go.RowKit

/-- Strings in memory that the call only reads. -/
def Str (w : World) (ao : Option Addr) (l : List ByteArray) : Prop := ∀ j s, l[j]? = some s → ∃ b off, ao = some ⟨b, off, none⟩ ∧ w.cell? ⟨b, off + j, none⟩ = some (.string s)

/-- Rows of strings in memory that the call only reads. -/
def Edg (w : World) (ao : Option Addr) (ra : Nat → Option Addr) (rc : Nat → Nat) (rl : List (List ByteArray)) : Prop :=
  ∀ j l, rl[j]? = some l → (∃ b off, ao = some ⟨b, off, none⟩ ∧ w.cell? ⟨b, off + j, none⟩ = some (.slice (ra j) l.length (rc j))) ∧ Str w (ra j) l

theorem Str.fr {w w' : World} {ao : Option Addr} {l : List ByteArray} (h : Str w ao l) (hf : Fr Nothing w w') : Str w' ao l := fun j s hj => by
  obtain ⟨b, off, h1, h2⟩ := h j s hj
  exact ⟨b, off, h1, hf.cell h2 (fun q => q)⟩

theorem Edg.fr {w w' : World} {ao : Option Addr} {ra : Nat → Option Addr} {rc : Nat → Nat} {rl : List (List ByteArray)} (h : Edg w ao ra rc rl) (hf : Fr Nothing w w') : Edg w' ao ra rc rl := fun j l hj => by
  obtain ⟨⟨b, off, h1, h2⟩, h3⟩ := h j l hj
  exact ⟨⟨b, off, h1, hf.cell h2 (fun q => q)⟩, h3.fr hf⟩

set_option maxRecDepth 100000 in
set_option maxHeartbeats 4000000 in
theorem zzBytes16_any (ai ae : Option Addr) (ci ce : Nat) (ids : List ByteArray) (ra : Nat → Option Addr) (rc : Nat → Nat) (rl : List (List ByteArray)) (x y : Value) (w : World) (hi : Str w ai ids) (he : Edg w ae ra rc rl) :
    Calls Try.prog 16 #[.slice ai ids.length ci, .slice ae rl.length ce, x, y] w fun e w' => ∃ r, e = .returned (.bool r) ∧ ∃ k, w' = w.drewN k := by
  have HI := hid hi
  have HE := hid he
  clear hi he
  go_enter Try.func16, Try.ntmps16
  by_cases h1 : ids.length ≤ 1048576
  · go_wp2
    go_loopg [9, 10] ids.length (fun g sT s10 wr => ∃ k t : Nat, g + k = ids.length ∧ s10 = .int .i64 k ∧ sT = .int .i64 t ∧ t ≤ 1048576 ∧ w = wr)
    case atStart => exact ⟨0, ids.length, by omega, rfl, rfl, h1, rfl⟩
    case round =>
      obtain ⟨k, t, hg, rfl, rfl, ht, rfl⟩ := hrel
      by_cases hk : k < ids.length
      · obtain ⟨b, off, hb, hc⟩ := HI.out k ids[k] (List.getElem?_eq_getElem hk)
        by_cases h2 : (ids[k]).size ≤ 1048576
        · by_cases h3 : t + (ids[k]).size ≤ 1048576
          · generalize ids[k] = s at *
            go_wp2
            go_roundg (gk - 1)
            case measure => omega
            case rel => exact ⟨k + 1, t + s.size, by omega, by go_num, by go_num, h3, rfl⟩
          · generalize ids[k] = s at *
            go_wp2
            go_ret
            exact ⟨_, rfl, 0, rfl⟩
        · generalize ids[k] = s at *
          go_wp2
          go_ret
          exact ⟨_, rfl, 0, rfl⟩
      · by_cases h4 : rl.length ≤ 1048576
        · by_cases h5 : t + rl.length ≤ 1048576
          · go_wp2
            go_loopg [9, 11, 12] rl.length (fun g sT s11 s12 wr => ∃ k t : Nat, g + k = rl.length ∧ s11 = .int .i64 k ∧ sT = .int .i64 t ∧ t ≤ 1048576 ∧ w = wr)
            case atStart => exact ⟨0, t + rl.length, by omega, rfl, by go_num, h5, rfl⟩
            case round =>
              obtain ⟨k, t, hg, rfl, rfl, ht, rfl⟩ := hrel
              by_cases hk : k < rl.length
              · obtain ⟨⟨b, off, hb, hc⟩, hS⟩ := HE.out k rl[k] (List.getElem?_eq_getElem hk)
                have HS := hid hS
                clear hS
                generalize ra k = ak at *
                generalize rc k = ck at *
                generalize rl[k] = l at *
                by_cases h2 : l.length ≤ 1048576
                · by_cases h3 : t + l.length ≤ 1048576
                  · go_wp2
                    go_loopg [9, 12] l.length (fun g sT s12 wr => ∃ j t : Nat, g + j = l.length ∧ s12 = .int .i64 j ∧ sT = .int .i64 t ∧ t ≤ 1048576 ∧ w = wr)
                    case atStart => exact ⟨0, t + l.length, by omega, rfl, by go_num, h3, rfl⟩
                    case round =>
                      obtain ⟨j, t, hg2, rfl, rfl, ht, rfl⟩ := hrel
                      by_cases hj : j < l.length
                      · obtain ⟨b2, off2, hb2, hc2⟩ := HS.out j l[j] (List.getElem?_eq_getElem hj)
                        generalize l[j] = s at *
                        by_cases h4 : s.size ≤ 1048576
                        · by_cases h5 : t + s.size ≤ 1048576
                          · go_wp2
                            go_roundg (gk - 1)
                            case measure => omega
                            case rel => exact ⟨j + 1, t + s.size, by omega, by go_num, by go_num, h5, rfl⟩
                          · go_wp2
                            go_ret
                            exact ⟨_, rfl, 0, rfl⟩
                        · go_wp2
                          go_ret
                          exact ⟨_, rfl, 0, rfl⟩
                      · go_wp2
                        go_roundg (rl.length - (k + 1))
                        case measure => omega
                        case rel => exact ⟨k + 1, t, by omega, by go_num, rfl, ht, rfl⟩
                  · go_wp2
                    go_ret
                    exact ⟨_, rfl, 0, rfl⟩
                · go_wp2
                  go_ret
                  exact ⟨_, rfl, 0, rfl⟩
              · go_wp2
                go_ret
                exact ⟨_, rfl, 0, rfl⟩
          · go_wp2
            go_ret
            exact ⟨_, rfl, 0, rfl⟩
        · go_wp2
          go_ret
          exact ⟨_, rfl, 0, rfl⟩
  · go_wp2
    go_ret
    exact ⟨_, rfl, 0, rfl⟩

theorem lex_diff : ∀ (k : Nat) {l m : List UInt8} {x y : UInt8}, (∀ i, i < k → l[i]? = m[i]?) → l[k]? = some x → m[k]? = some y → x ≠ y → (l < m ↔ x < y)
  | 0, l, m, x, y, _, hx, hy, hne => by
    cases l with
    | nil => simp at hx
    | cons a l =>
      cases m with
      | nil => simp at hy
      | cons b m =>
        simp at hx hy
        subst hx
        subst hy
        rw [List.cons_lt_cons_iff]
        constructor
        · rintro (q | q)
          · exact q
          · exact absurd q.1 hne
        · intro q; exact .inl q
  | k + 1, l, m, x, y, h, hx, hy, hne => by
    cases l with
    | nil => simp at hx
    | cons a l =>
      cases m with
      | nil => simp at hy
      | cons b m =>
        have h0 := h 0 (by omega)
        simp at h0 hx hy
        subst h0
        rw [List.cons_lt_cons_iff]
        have ih := lex_diff k (l := l) (m := m) (fun i hi => by simpa using h (i + 1) (by omega)) hx hy hne
        constructor
        · rintro (q | q)
          · exact absurd q (UInt8.lt_irrefl a)
          · exact ih.1 q.2
        · intro q; exact .inr ⟨rfl, ih.2 q⟩

theorem lex_end : ∀ (k : Nat) {l m : List UInt8}, (∀ i, i < k → l[i]? = m[i]?) → k = min l.length m.length → (l < m ↔ l.length < m.length)
  | 0, l, m, _, hk => by
    cases l with
    | nil =>
      cases m with
      | nil => simp
      | cons b m => simp
    | cons a l =>
      cases m with
      | nil => simp
      | cons b m => simp at hk
  | k + 1, l, m, h, hk => by
    cases l with
    | nil => simp at hk
    | cons a l =>
      cases m with
      | nil => simp at hk
      | cons b m =>
        have h0 := h 0 (by omega)
        simp at h0 hk
        subst h0
        rw [List.cons_lt_cons_iff]
        have ih := lex_end k (l := l) (m := m) (fun i hi => by simpa using h (i + 1) (by omega)) (by omega)
        simp only [List.length_cons]
        constructor
        · rintro (q | q)
          · exact absurd q (UInt8.lt_irrefl a)
          · have := ih.1 q.2; omega
        · intro q
          refine .inr ⟨?_, ih.2 (by omega)⟩
          trivial

theorem byte_at {a : ByteArray} {k : Nat} (h : k < a.size) : a.data.toList[k]? = some a[k] := by
  rw [List.getElem?_eq_getElem (by simpa using h)]
  rfl

set_option maxRecDepth 100000 in
set_option maxHeartbeats 4000000 in
theorem zzLess_any (a b : ByteArray) (w : World) (ha : a.size ≤ 1048576) (hb : b.size ≤ 1048576) :
    Calls Try.prog 22 #[.string a, .string b] w fun e w' => e = .returned (.bool (decide (a.data.toList < b.data.toList))) ∧ ∃ k, w' = w.drewN k := by
  go_enter Try.func22, Try.ntmps22
  obtain ⟨m, hm⟩ : ∃ m, m = min a.size b.size := ⟨_, rfl⟩
  have HM := hid hm
  have hm1 : m ≤ 1048576 := by omega
  clear hm
  go_upto_if 12 with fail
  go_cut [5] (fun s5 wc => s5 = .int .i64 m ∧ wc = w)
  case first =>
    have := HM.out
    by_cases h : b.size < a.size
    · have e : m = b.size := by omega
      clear this
      subst e
      go_wp2_with fail
      go_meet
      case rel => exact ⟨rfl, rfl⟩
    · have e : m = a.size := by omega
      clear this
      subst e
      go_wp2_with fail
      go_meet
      case rel => exact ⟨rfl, rfl⟩
  case rest =>
    obtain ⟨rfl, rfl⟩ := hcut
    go_wp2
    go_loopg [6] m (fun g s6 wr => ∃ k j : Nat, g + k = m ∧ s6 = .int .i64 k ∧ wr = wc.drewN j ∧ ∀ i, i < k → a.data.toList[i]? = b.data.toList[i]?)
    case atStart => exact ⟨0, 0, by omega, rfl, rfl, fun i hi => by omega⟩
    case round =>
      obtain ⟨k, j, hg, rfl, rfl, hEq⟩ := hrel
      by_cases hk : k < m
      · have hka : k < a.size := by have := HM.out; omega
        have hkb : k < b.size := by have := HM.out; omega
        have e1 := byte_at hka
        have e2 := byte_at hkb
        by_cases hq : a[k] = b[k]
        · have hn : (((a[k].toNat : Nat) : Int) != ((b[k].toNat : Nat) : Int)) = false := by simp [hq]
          go_upto_region 7 with fail
          go_quiet (fail)
          go_wp2_with fail
          go_roundg (gk - 1)
          case measure => omega
          case rel =>
            refine ⟨k + 1, j + nq, by omega, by go_num, rfl, fun i hi => ?_⟩
            by_cases e : i = k
            · subst e; rw [e1, e2, hq]
            · exact hEq i (by omega)
        · have hn : (((a[k].toNat : Nat) : Int) != ((b[k].toNat : Nat) : Int)) = true := by
            simp only [bne_iff_ne, ne_eq]
            intro q
            exact hq (UInt8.toNat_inj.1 (by omega))
          go_upto_region 7 with fail
          go_quiet (fail)
          go_upto_region 8 with fail
          go_quiet (fail)
          go_wp2_with fail
          go_ret
          refine ⟨?_, ?_⟩
          · have : decide (a.data.toList < b.data.toList) = decide (a[k].toNat < b[k].toNat) := decide_eq_decide.2 ((lex_diff k hEq e1 e2 hq).trans UInt8.lt_iff_toNat_lt)
            rw [this]; rfl
          · simp only [World.drewN_drewN]
            exact ⟨_, rfl⟩
      · go_wp2
        go_ret
        refine ⟨?_, j, rfl⟩
        have hk2 : k = m := by omega
        have : decide (a.data.toList < b.data.toList) = decide (a.size < b.size) := decide_eq_decide.2 ((lex_end k hEq (by rw [hk2, HM.out]; simp)).trans (by simp))
        rw [this]; rfl

/-- The row of edges that i stands for, and where it lies. -/
def eA (rl : List (List ByteArray)) (ra : Nat → Option Addr) (i : Nat) : Option Addr := if i < rl.length then ra i else none
def eC (rl : List (List ByteArray)) (rc : Nat → Nat) (i : Nat) : Nat := if i < rl.length then rc i else 0

theorem Edg.row {w : World} {ao : Option Addr} {ra : Nat → Option Addr} {rc : Nat → Nat} {rl : List (List ByteArray)} (h : Edg w ao ra rc rl) (i : Nat) : Str w (eA rl ra i) (rl.getD i []) := by
  unfold eA
  by_cases hi : i < rl.length
  · rw [if_pos hi]
    have := (h i rl[i] (List.getElem?_eq_getElem hi)).2
    simpa [hi] using this
  · intro j s hj
    simp [show rl.length ≤ i by omega] at hj

set_option maxRecDepth 100000 in
theorem zzEdgesOf_any (ae : Option Addr) (ce : Nat) (ra : Nat → Option Addr) (rc : Nat → Nat) (rl : List (List ByteArray)) (i : Nat) (w : World) (he : Edg w ae ra rc rl) :
    Calls Try.prog 23 #[.slice ae rl.length ce, .int .i64 i] w fun e w' => e = .returned (.slice (eA rl ra i) (rl.getD i []).length (eC rl rc i)) ∧ w' = w := by
  unfold eA eC
  go_enter Try.func23, Try.ntmps23
  by_cases hi : i < rl.length
  · obtain ⟨⟨b, off, hb, hc⟩, _⟩ := he i rl[i] (List.getElem?_eq_getElem hi)
    go_wp2
    go_ret
    exact ⟨rfl, rfl⟩
  · go_wp2
    go_ret
    exact ⟨rfl, rfl⟩

/-- How many edges there are. -/
def tot (rl : List (List ByteArray)) : Nat := (rl.map List.length).sum

theorem tot_take {rl : List (List ByteArray)} {k : Nat} (hk : k < rl.length) : tot (rl.take (k + 1)) = tot (rl.take k) + rl[k].length := by
  unfold tot
  rw [List.take_succ_eq_append_getElem hk, List.map_append, List.sum_append]
  simp

set_option maxRecDepth 100000 in
set_option maxHeartbeats 4000000 in
theorem zzTooBig_any (ai ae : Option Addr) (ci ce : Nat) (ids : List ByteArray) (ra : Nat → Option Addr) (rc : Nat → Nat) (rl : List (List ByteArray)) (w : World) (hi : Str w ai ids) (he : Edg w ae ra rc rl) :
    Calls Try.prog 9 #[.slice ai ids.length ci, .slice ae rl.length ce] w fun e w' => ∃ r, e = .returned (.bool r) ∧ (∃ k, w' = w.drewN k) ∧
      (r = false → ids.length ≤ 1024 ∧ (∀ s ∈ ids, s.size ≤ 1048576) ∧ rl.length ≤ 1048576 ∧ 16 * tot rl ≤ 1048576) := by
  have HI := hid hi
  have HE := hid he
  clear hi he
  go_enter Try.func9, Try.ntmps9
  by_cases h0 : ids.length ≤ 1024
  · by_cases h1 : rl.length ≤ 1048576
    · go_wp2
      go_loopg [5, 6] ids.length (fun g s5 s6 wr => ∃ k t : Nat, g + k = ids.length ∧ s6 = .int .i64 k ∧ s5 = .int .i64 t ∧ t ≤ 1048576 ∧ w = wr ∧ Hid (∀ s ∈ ids.take k, s.size ≤ 1048576))
      case atStart => exact ⟨0, 0, by omega, rfl, rfl, by omega, rfl, hid (by simp)⟩
      case round =>
        obtain ⟨k, t, hg, rfl, rfl, ht, rfl, hsz⟩ := hrel
        by_cases hk : k < ids.length
        · obtain ⟨b, off, hb, hc⟩ := HI.out k ids[k] (List.getElem?_eq_getElem hk)
          have hnx : ids[k].size ≤ 1048576 → ∀ s ∈ ids.take (k + 1), s.size ≤ 1048576 := fun q s hs => by
            rw [List.take_succ_eq_append_getElem hk] at hs
            simp only [List.mem_append, List.mem_singleton] at hs
            rcases hs with hs | rfl
            · exact hsz.out s hs
            · exact q
          have HNX := hid hnx
          clear hnx
          by_cases h2 : (ids[k]).size ≤ 1048576
          · have HN2 := hid (HNX.out h2)
            clear HNX
            by_cases h3 : t + (16 + (ids[k]).size) ≤ 1048576
            · generalize ids[k] = s at *
              go_wp2
              go_roundg (gk - 1)
              case measure => omega
              case rel => exact ⟨k + 1, t + (16 + s.size), by omega, by go_num, by go_num, h3, rfl, HN2⟩
            · generalize ids[k] = s at *
              go_wp2
              go_ret
              exact ⟨_, rfl, ⟨0, rfl⟩, fun q => by cases q⟩
          · generalize ids[k] = s at *
            go_wp2
            go_ret
            exact ⟨_, rfl, ⟨0, rfl⟩, fun q => by cases q⟩
        · have hkl : k = ids.length := by omega
          have HSZ := hid (show ∀ s ∈ ids, s.size ≤ 1048576 by have := hsz.out; rw [hkl, List.take_length] at this; exact this)
          clear hsz hkl
          go_wp2
          go_loopg [5, 7, 8] rl.length (fun g s5 s7 s8 wr => ∃ k t : Nat, g + k = rl.length ∧ s7 = .int .i64 k ∧ s5 = .int .i64 t ∧ t ≤ 1048576 ∧ w = wr ∧ Hid (16 * tot (rl.take k) ≤ t))
          case atStart => exact ⟨0, t, by omega, rfl, rfl, ht, rfl, hid (by simp [tot])⟩
          case round =>
            obtain ⟨k, t, hg, rfl, rfl, ht, rfl, hT⟩ := hrel
            by_cases hk : k < rl.length
            · obtain ⟨⟨b, off, hb, hc⟩, hS⟩ := HE.out k rl[k] (List.getElem?_eq_getElem hk)
              have HS := hid hS
              clear hS
              have HT2 := hid (tot_take hk)
              have hT3 := hT.out
              generalize hA : tot (rl.take k) = A at *
              clear hA hT
              generalize ra k = ak at *
              generalize rc k = ck at *
              generalize rl[k] = l at *
              have HT3 := hid hT3
              clear hT3
              obtain ⟨t2, ht2⟩ : ∃ t2 : Nat, (t : Int) + 24 = t2 := ⟨t + 24, by omega⟩
              by_cases h3 : t2 ≤ 1048576
              · go_wp2
                go_loopg [5, 8] l.length (fun g s5 s8 wr => ∃ j t : Nat, g + j = l.length ∧ s8 = .int .i64 j ∧ s5 = .int .i64 t ∧ t ≤ 1048576 ∧ w = wr ∧ Hid (16 * (A + j) ≤ t))
                case atStart => exact ⟨0, t2, by omega, rfl, rfl, h3, rfl, hid (by have := HT3.out; omega)⟩
                case round =>
                  obtain ⟨j, t, hg2, rfl, rfl, ht, rfl, hT⟩ := hrel
                  have hjb : j ≤ 65536 := by have := hT.out; omega
                  by_cases hj : j < l.length
                  · obtain ⟨b2, off2, hb2, hc2⟩ := HS.out j l[j] (List.getElem?_eq_getElem hj)
                    generalize l[j] = s at *
                    by_cases h4 : s.size ≤ 1048576
                    · by_cases h5 : t + (16 + s.size) ≤ 1048576
                      · go_wp2
                        go_roundg (gk - 1)
                        case measure => omega
                        case rel => exact ⟨j + 1, t + (16 + s.size), by omega, by go_num, by go_num, by omega, rfl, hid (by have := hT.out; omega)⟩
                      · go_wp2
                        go_ret
                        exact ⟨_, rfl, ⟨0, rfl⟩, fun q => by cases q⟩
                    · go_wp2
                      go_ret
                      exact ⟨_, rfl, ⟨0, rfl⟩, fun q => by cases q⟩
                  · go_wp2
                    go_roundg (rl.length - (k + 1))
                    case measure => omega
                    case rel => exact ⟨k + 1, t, by omega, by go_num, rfl, ht, rfl, hid (by rw [HT2.out]; have := hT.out; omega)⟩
              · go_wp2
                go_ret
                exact ⟨_, rfl, ⟨0, rfl⟩, fun q => by cases q⟩
            · have hkl2 : k = rl.length := by omega
              have HT := hid (show 16 * tot rl ≤ 1048576 by have := hT.out; rw [hkl2, List.take_length] at this; omega)
              clear hT
              go_wp2
              go_ret
              exact ⟨_, rfl, ⟨0, rfl⟩, fun _ => ⟨h0, HSZ.out, h1, HT.out⟩⟩
    · go_wp2
      go_ret
      exact ⟨_, rfl, ⟨0, rfl⟩, fun q => by cases q⟩
  · go_wp2
    go_ret
    exact ⟨rfl, ⟨0, rfl⟩⟩
end Go.Proofs.Qxb6615025a
