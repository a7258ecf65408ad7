/- zzBytes (8, 15, 19, 20). -/
import Derived.Test.Qxb6615025aArgs
namespace Go.Proofs.Qxb6615025a
open Go.RowKit

set_option maxRecDepth 100000 in
set_option maxHeartbeats 4000000 in
theorem zzBytes8_any (ai ae : Option Addr) (ci ce : Nat) (ids : List ByteArray) (ra : Nat → Option Addr) (rc : Nat → Nat) (rl : List (List ByteArray)) (x : Value) (w : World) (hi : Str w ai ids) (he : Edg w ae ra rc rl) :
    Calls Try.prog 8 #[.slice ai ids.length ci, .slice ae rl.length ce, x] w fun e w' => ∃ r, e = .returned (.bool r) ∧ ∃ k, w' = w.drewN k := by
  have HI := hid hi
  have HE := hid he
  clear hi he
  go_enter Try.func8, Try.ntmps8
  by_cases h1 : ids.length ≤ 1048576
  · go_wp2
    go_loopg [7, 8] ids.length (fun g sT s10 wr => ∃ k t : Nat, g + k = ids.length ∧ s10 = .int .i64 k ∧ sT = .int .i64 t ∧ t ≤ 1048576 ∧ w = wr)
    case atStart => exact ⟨0, ids.length, by omega, rfl, rfl, h1, rfl⟩
    case round =>
      obtain ⟨k, t, hg, rfl, rfl, ht, rfl⟩ := hrel
      by_cases hk : k < ids.length
      · obtain ⟨b, off, hb, hc⟩ := HI.out k ids[k] (List.getElem?_eq_getElem hk)
        by_cases h2 : (ids[k]).size ≤ 1048576
        · by_cases h3 : t + (ids[k]).size ≤ 1048576
          · generalize ids[k] = s at *
            go_wp2
            go_roundg (gk - 1)
            case measure => omega
            case rel => exact ⟨k + 1, t + s.size, by omega, by go_num, by go_num, h3, rfl⟩
          · generalize ids[k] = s at *
            go_wp2
            go_ret
            exact ⟨_, rfl, 0, rfl⟩
        · generalize ids[k] = s at *
          go_wp2
          go_ret
          exact ⟨_, rfl, 0, rfl⟩
      · by_cases h4 : rl.length ≤ 1048576
        · by_cases h5 : t + rl.length ≤ 1048576
          · go_wp2
            go_loopg [7, 9, 10] rl.length (fun g sT s11 s12 wr => ∃ k t : Nat, g + k = rl.length ∧ s11 = .int .i64 k ∧ sT = .int .i64 t ∧ t ≤ 1048576 ∧ w = wr)
            case atStart => exact ⟨0, t + rl.length, by omega, rfl, by go_num, h5, rfl⟩
            case round =>
              obtain ⟨k, t, hg, rfl, rfl, ht, rfl⟩ := hrel
              by_cases hk : k < rl.length
              · obtain ⟨⟨b, off, hb, hc⟩, hS⟩ := HE.out k rl[k] (List.getElem?_eq_getElem hk)
                have HS := hid hS
                clear hS
                generalize ra k = ak at *
                generalize rc k = ck at *
                generalize rl[k] = l at *
                by_cases h2 : l.length ≤ 1048576
                · by_cases h3 : t + l.length ≤ 1048576
                  · go_wp2
                    go_loopg [7, 10] l.length (fun g sT s12 wr => ∃ j t : Nat, g + j = l.length ∧ s12 = .int .i64 j ∧ sT = .int .i64 t ∧ t ≤ 1048576 ∧ w = wr)
                    case atStart => exact ⟨0, t + l.length, by omega, rfl, by go_num, h3, rfl⟩
                    case round =>
                      obtain ⟨j, t, hg2, rfl, rfl, ht, rfl⟩ := hrel
                      by_cases hj : j < l.length
                      · obtain ⟨b2, off2, hb2, hc2⟩ := HS.out j l[j] (List.getElem?_eq_getElem hj)
                        generalize l[j] = s at *
                        by_cases h4 : s.size ≤ 1048576
                        · by_cases h5 : t + s.size ≤ 1048576
                          · go_wp2
                            go_roundg (gk - 1)
                            case measure => omega
                            case rel => exact ⟨j + 1, t + s.size, by omega, by go_num, by go_num, h5, rfl⟩
                          · go_wp2
                            go_ret
                            exact ⟨_, rfl, 0, rfl⟩
                        · go_wp2
                          go_ret
                          exact ⟨_, rfl, 0, rfl⟩
                      · go_wp2
                        go_roundg (rl.length - (k + 1))
                        case measure => omega
                        case rel => exact ⟨k + 1, t, by omega, by go_num, rfl, ht, rfl⟩
                  · go_wp2
                    go_ret
                    exact ⟨_, rfl, 0, rfl⟩
                · go_wp2
                  go_ret
                  exact ⟨_, rfl, 0, rfl⟩
              · go_wp2
                go_ret
                exact ⟨_, rfl, 0, rfl⟩
          · go_wp2
            go_ret
            exact ⟨_, rfl, 0, rfl⟩
        · go_wp2
          go_ret
          exact ⟨_, rfl, 0, rfl⟩
  · go_wp2
    go_ret
    exact ⟨_, rfl, 0, rfl⟩

set_option maxRecDepth 100000 in
set_option maxHeartbeats 4000000 in
theorem zzBytes15_any (ai ae : Option Addr) (ci ce : Nat) (ids : List ByteArray) (ra : Nat → Option Addr) (rc : Nat → Nat) (rl : List (List ByteArray)) (x y : Value) (w : World) (hi : Str w ai ids) (he : Edg w ae ra rc rl) :
    Calls Try.prog 15 #[.slice ai ids.length ci, .slice ae rl.length ce, x, y] w fun e w' => ∃ r, e = .returned (.bool r) ∧ ∃ k, w' = w.drewN k := by
  have HI := hid hi
  have HE := hid he
  clear hi he
  go_enter Try.func15, Try.ntmps15
  by_cases h1 : ids.length ≤ 1048576
  · go_wp2
    go_loopg [9, 10] ids.length (fun g sT s10 wr => ∃ k t : Nat, g + k = ids.length ∧ s10 = .int .i64 k ∧ sT = .int .i64 t ∧ t ≤ 1048576 ∧ w = wr)
    case atStart => exact ⟨0, ids.length, by omega, rfl, rfl, h1, rfl⟩
    case round =>
      obtain ⟨k, t, hg, rfl, rfl, ht, rfl⟩ := hrel
      by_cases hk : k < ids.length
      · obtain ⟨b, off, hb, hc⟩ := HI.out k ids[k] (List.getElem?_eq_getElem hk)
        by_cases h2 : (ids[k]).size ≤ 1048576
        · by_cases h3 : t + (ids[k]).size ≤ 1048576
          · generalize ids[k] = s at *
            go_wp2
            go_roundg (gk - 1)
            case measure => omega
            case rel => exact ⟨k + 1, t + s.size, by omega, by go_num, by go_num, h3, rfl⟩
          · generalize ids[k] = s at *
            go_wp2
            go_ret
            exact ⟨_, rfl, 0, rfl⟩
        · generalize ids[k] = s at *
          go_wp2
          go_ret
          exact ⟨_, rfl, 0, rfl⟩
      · by_cases h4 : rl.length ≤ 1048576
        · by_cases h5 : t + rl.length ≤ 1048576
          · go_wp2
            go_loopg [9, 11, 12] rl.length (fun g sT s11 s12 wr => ∃ k t : Nat, g + k = rl.length ∧ s11 = .int .i64 k ∧ sT = .int .i64 t ∧ t ≤ 1048576 ∧ w = wr)
            case atStart => exact ⟨0, t + rl.length, by omega, rfl, by go_num, h5, rfl⟩
            case round =>
              obtain ⟨k, t, hg, rfl, rfl, ht, rfl⟩ := hrel
              by_cases hk : k < rl.length
              · obtain ⟨⟨b, off, hb, hc⟩, hS⟩ := HE.out k rl[k] (List.getElem?_eq_getElem hk)
                have HS := hid hS
                clear hS
                generalize ra k = ak at *
                generalize rc k = ck at *
                generalize rl[k] = l at *
                by_cases h2 : l.length ≤ 1048576
                · by_cases h3 : t + l.length ≤ 1048576
                  · go_wp2
                    go_loopg [9, 12] l.length (fun g sT s12 wr => ∃ j t : Nat, g + j = l.length ∧ s12 = .int .i64 j ∧ sT = .int .i64 t ∧ t ≤ 1048576 ∧ w = wr)
                    case atStart => exact ⟨0, t + l.length, by omega, rfl, by go_num, h3, rfl⟩
                    case round =>
                      obtain ⟨j, t, hg2, rfl, rfl, ht, rfl⟩ := hrel
                      by_cases hj : j < l.length
                      · obtain ⟨b2, off2, hb2, hc2⟩ := HS.out j l[j] (List.getElem?_eq_getElem hj)
                        generalize l[j] = s at *
                        by_cases h4 : s.size ≤ 1048576
                        · by_cases h5 : t + s.size ≤ 1048576
                          · go_wp2
                            go_roundg (gk - 1)
                            case measure => omega
                            case rel => exact ⟨j + 1, t + s.size, by omega, by go_num, by go_num, h5, rfl⟩
                          · go_wp2
                            go_ret
                            exact ⟨_, rfl, 0, rfl⟩
                        · go_wp2
                          go_ret
                          exact ⟨_, rfl, 0, rfl⟩
                      · go_wp2
                        go_roundg (rl.length - (k + 1))
                        case measure => omega
                        case rel => exact ⟨k + 1, t, by omega, by go_num, rfl, ht, rfl⟩
                  · go_wp2
                    go_ret
                    exact ⟨_, rfl, 0, rfl⟩
                · go_wp2
                  go_ret
                  exact ⟨_, rfl, 0, rfl⟩
              · go_wp2
                go_ret
                exact ⟨_, rfl, 0, rfl⟩
          · go_wp2
            go_ret
            exact ⟨_, rfl, 0, rfl⟩
        · go_wp2
          go_ret
          exact ⟨_, rfl, 0, rfl⟩
  · go_wp2
    go_ret
    exact ⟨_, rfl, 0, rfl⟩

set_option maxRecDepth 100000 in
set_option maxHeartbeats 4000000 in
theorem zzBytes19_any (ai ae : Option Addr) (ci ce : Nat) (ids : List ByteArray) (ra : Nat → Option Addr) (rc : Nat → Nat) (rl : List (List ByteArray)) (x y : Value) (w : World) (hi : Str w ai ids) (he : Edg w ae ra rc rl) :
    Calls Try.prog 19 #[.slice ai ids.length ci, .slice ae rl.length ce, x, y] w fun e w' => ∃ r, e = .returned (.bool r) ∧ ∃ k, w' = w.drewN k := by
  have HI := hid hi
  have HE := hid he
  clear hi he
  go_enter Try.func19, Try.ntmps19
  by_cases h1 : ids.length ≤ 1048576
  · go_wp2
    go_loopg [9, 10] ids.length (fun g sT s10 wr => ∃ k t : Nat, g + k = ids.length ∧ s10 = .int .i64 k ∧ sT = .int .i64 t ∧ t ≤ 1048576 ∧ w = wr)
    case atStart => exact ⟨0, ids.length, by omega, rfl, rfl, h1, rfl⟩
    case round =>
      obtain ⟨k, t, hg, rfl, rfl, ht, rfl⟩ := hrel
      by_cases hk : k < ids.length
      · obtain ⟨b, off, hb, hc⟩ := HI.out k ids[k] (List.getElem?_eq_getElem hk)
        by_cases h2 : (ids[k]).size ≤ 1048576
        · by_cases h3 : t + (ids[k]).size ≤ 1048576
          · generalize ids[k] = s at *
            go_wp2
            go_roundg (gk - 1)
            case measure => omega
            case rel => exact ⟨k + 1, t + s.size, by omega, by go_num, by go_num, h3, rfl⟩
          · generalize ids[k] = s at *
            go_wp2
            go_ret
            exact ⟨_, rfl, 0, rfl⟩
        · generalize ids[k] = s at *
          go_wp2
          go_ret
          exact ⟨_, rfl, 0, rfl⟩
      · by_cases h4 : rl.length ≤ 1048576
        · by_cases h5 : t + rl.length ≤ 1048576
          · go_wp2
            go_loopg [9, 11, 12] rl.length (fun g sT s11 s12 wr => ∃ k t : Nat, g + k = rl.length ∧ s11 = .int .i64 k ∧ sT = .int .i64 t ∧ t ≤ 1048576 ∧ w = wr)
            case atStart => exact ⟨0, t + rl.length, by omega, rfl, by go_num, h5, rfl⟩
            case round =>
              obtain ⟨k, t, hg, rfl, rfl, ht, rfl⟩ := hrel
              by_cases hk : k < rl.length
              · obtain ⟨⟨b, off, hb, hc⟩, hS⟩ := HE.out k rl[k] (List.getElem?_eq_getElem hk)
                have HS := hid hS
                clear hS
                generalize ra k = ak at *
                generalize rc k = ck at *
                generalize rl[k] = l at *
                by_cases h2 : l.length ≤ 1048576
                · by_cases h3 : t + l.length ≤ 1048576
                  · go_wp2
                    go_loopg [9, 12] l.length (fun g sT s12 wr => ∃ j t : Nat, g + j = l.length ∧ s12 = .int .i64 j ∧ sT = .int .i64 t ∧ t ≤ 1048576 ∧ w = wr)
                    case atStart => exact ⟨0, t + l.length, by omega, rfl, by go_num, h3, rfl⟩
                    case round =>
                      obtain ⟨j, t, hg2, rfl, rfl, ht, rfl⟩ := hrel
                      by_cases hj : j < l.length
                      · obtain ⟨b2, off2, hb2, hc2⟩ := HS.out j l[j] (List.getElem?_eq_getElem hj)
                        generalize l[j] = s at *
                        by_cases h4 : s.size ≤ 1048576
                        · by_cases h5 : t + s.size ≤ 1048576
                          · go_wp2
                            go_roundg (gk - 1)
                            case measure => omega
                            case rel => exact ⟨j + 1, t + s.size, by omega, by go_num, by go_num, h5, rfl⟩
                          · go_wp2
                            go_ret
                            exact ⟨_, rfl, 0, rfl⟩
                        · go_wp2
                          go_ret
                          exact ⟨_, rfl, 0, rfl⟩
                      · go_wp2
                        go_roundg (rl.length - (k + 1))
                        case measure => omega
                        case rel => exact ⟨k + 1, t, by omega, by go_num, rfl, ht, rfl⟩
                  · go_wp2
                    go_ret
                    exact ⟨_, rfl, 0, rfl⟩
                · go_wp2
                  go_ret
                  exact ⟨_, rfl, 0, rfl⟩
              · go_wp2
                go_ret
                exact ⟨_, rfl, 0, rfl⟩
          · go_wp2
            go_ret
            exact ⟨_, rfl, 0, rfl⟩
        · go_wp2
          go_ret
          exact ⟨_, rfl, 0, rfl⟩
  · go_wp2
    go_ret
    exact ⟨_, rfl, 0, rfl⟩

set_option maxRecDepth 100000 in
set_option maxHeartbeats 4000000 in
theorem zzBytes20_any (ai ae : Option Addr) (ci ce : Nat) (ids : List ByteArray) (ra : Nat → Option Addr) (rc : Nat → Nat) (rl : List (List ByteArray)) (x : Value) (w : World) (hi : Str w ai ids) (he : Edg w ae ra rc rl) :
    Calls Try.prog 20 #[.slice ai ids.length ci, .slice ae rl.length ce, x] w fun e w' => ∃ r, e = .returned (.bool r) ∧ ∃ k, w' = w.drewN k := by
  have HI := hid hi
  have HE := hid he
  clear hi he
  go_enter Try.func20, Try.ntmps20
  by_cases h1 : ids.length ≤ 1048576
  · go_wp2
    go_loopg [7, 8] ids.length (fun g sT s10 wr => ∃ k t : Nat, g + k = ids.length ∧ s10 = .int .i64 k ∧ sT = .int .i64 t ∧ t ≤ 1048576 ∧ w = wr)
    case atStart => exact ⟨0, ids.length, by omega, rfl, rfl, h1, rfl⟩
    case round =>
      obtain ⟨k, t, hg, rfl, rfl, ht, rfl⟩ := hrel
      by_cases hk : k < ids.length
      · obtain ⟨b, off, hb, hc⟩ := HI.out k ids[k] (List.getElem?_eq_getElem hk)
        by_cases h2 : (ids[k]).size ≤ 1048576
        · by_cases h3 : t + (ids[k]).size ≤ 1048576
          · generalize ids[k] = s at *
            go_wp2
            go_roundg (gk - 1)
            case measure => omega
            case rel => exact ⟨k + 1, t + s.size, by omega, by go_num, by go_num, h3, rfl⟩
          · generalize ids[k] = s at *
            go_wp2
            go_ret
            exact ⟨_, rfl, 0, rfl⟩
        · generalize ids[k] = s at *
          go_wp2
          go_ret
          exact ⟨_, rfl, 0, rfl⟩
      · by_cases h4 : rl.length ≤ 1048576
        · by_cases h5 : t + rl.length ≤ 1048576
          · go_wp2
            go_loopg [7, 9, 10] rl.length (fun g sT s11 s12 wr => ∃ k t : Nat, g + k = rl.length ∧ s11 = .int .i64 k ∧ sT = .int .i64 t ∧ t ≤ 1048576 ∧ w = wr)
            case atStart => exact ⟨0, t + rl.length, by omega, rfl, by go_num, h5, rfl⟩
            case round =>
              obtain ⟨k, t, hg, rfl, rfl, ht, rfl⟩ := hrel
              by_cases hk : k < rl.length
              · obtain ⟨⟨b, off, hb, hc⟩, hS⟩ := HE.out k rl[k] (List.getElem?_eq_getElem hk)
                have HS := hid hS
                clear hS
                generalize ra k = ak at *
                generalize rc k = ck at *
                generalize rl[k] = l at *
                by_cases h2 : l.length ≤ 1048576
                · by_cases h3 : t + l.length ≤ 1048576
                  · go_wp2
                    go_loopg [7, 10] l.length (fun g sT s12 wr => ∃ j t : Nat, g + j = l.length ∧ s12 = .int .i64 j ∧ sT = .int .i64 t ∧ t ≤ 1048576 ∧ w = wr)
                    case atStart => exact ⟨0, t + l.length, by omega, rfl, by go_num, h3, rfl⟩
                    case round =>
                      obtain ⟨j, t, hg2, rfl, rfl, ht, rfl⟩ := hrel
                      by_cases hj : j < l.length
                      · obtain ⟨b2, off2, hb2, hc2⟩ := HS.out j l[j] (List.getElem?_eq_getElem hj)
                        generalize l[j] = s at *
                        by_cases h4 : s.size ≤ 1048576
                        · by_cases h5 : t + s.size ≤ 1048576
                          · go_wp2
                            go_roundg (gk - 1)
                            case measure => omega
                            case rel => exact ⟨j + 1, t + s.size, by omega, by go_num, by go_num, h5, rfl⟩
                          · go_wp2
                            go_ret
                            exact ⟨_, rfl, 0, rfl⟩
                        · go_wp2
                          go_ret
                          exact ⟨_, rfl, 0, rfl⟩
                      · go_wp2
                        go_roundg (rl.length - (k + 1))
                        case measure => omega
                        case rel => exact ⟨k + 1, t, by omega, by go_num, rfl, ht, rfl⟩
                  · go_wp2
                    go_ret
                    exact ⟨_, rfl, 0, rfl⟩
                · go_wp2
                  go_ret
                  exact ⟨_, rfl, 0, rfl⟩
              · go_wp2
                go_ret
                exact ⟨_, rfl, 0, rfl⟩
          · go_wp2
            go_ret
            exact ⟨_, rfl, 0, rfl⟩
        · go_wp2
          go_ret
          exact ⟨_, rfl, 0, rfl⟩
  · go_wp2
    go_ret
    exact ⟨_, rfl, 0, rfl⟩

end Go.Proofs.Qxb6615025a
