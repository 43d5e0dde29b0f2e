/-
  zzBytes_..: what each answers is of no account: that it returns a bool and writes nothing.
-/
import Derived.Test.Qxb6602338aEnts
namespace Go.Proofs.Qxb6602338a
open Go.RowKit

def RetB (e : Ending) : Prop := ∃ r : Bool, e = .returned (.bool r)

set_option maxHeartbeats 1000000 in
theorem bytes31 (a1 : Option Addr) (l1 c1 : Nat) (es1 : List (ByteArray × Bool)) (a2 : Option Addr) (l2 c2 : Nat) (es2 : List (ByteArray × Bool)) (w : World) (h1 : Ents w a1 l1 es1) (h2 : Ents w a2 l2 es2) :
    Calls Try.prog 31 #[.slice a1 l1 c1, .slice a2 l2 c2] w fun e w' => RetB e ∧ w' = w := by
  have HE1 : Aside (Ents w a1 l1 es1) := h1
  clear h1
  have HE2 : Aside (Ents w a2 l2 es2) := h2
  clear h2
  by_cases hl : (1048576 : Int) < l1
  · go_enter Try.func31, Try.ntmps31
    go_wp2
    go_ret
    exact ⟨⟨_, rfl⟩, rfl⟩
  · go_enter Try.func31, Try.ntmps31
    go_wp2
    go_loopg [5, 6] l1 (fun k n i wr => ∃ (j : Nat) (z : Int), j ≤ l1 ∧ k + j = l1 ∧ i = .int .i64 j ∧ n = .int .i64 z ∧ 0 ≤ z ∧ z ≤ 1048576 ∧ Aside (wr = w))
    case atStart => exact ⟨0, _, Nat.zero_le _, by omega, rfl, rfl, by omega, by omega, (show _ = _ from rfl)⟩
    case round =>
      obtain ⟨j1, z1, hj1, hk1, rfl, rfl, hz1, hy1, hw⟩ := hrel
      obtain rfl := hw.out.symm
      clear hw
      by_cases hlt : j1 < l1
      · have hlti : (j1 : Int) < (l1 : Int) := by omega
        obtain ⟨b, off, ha, hb, hc⟩ := HE1.out.2.2.2.2 (by omega)
        subst ha
        obtain ⟨s, hs⟩ : ∃ s, s = (es1.getD j1 noE).1 := ⟨_, rfl⟩
        have hcv := (hc j1 hlt).1
        rw [← hs] at hcv
        clear hs hc
        by_cases hk1 : (1048576 : Int) < s.size
        · go_wp2
          go_ret
          exact ⟨⟨_, rfl⟩, rfl⟩
        · by_cases hk2 : (1048576 : Int) < z1 + s.size
          · go_wp2
            go_ret
            exact ⟨⟨_, rfl⟩, rfl⟩
          · go_wp2
            go_roundg (gk - 1)
            case measure => omega
            case rel => exact ⟨j1 + 1, _, by omega, by omega, by go_num, rfl, by omega, by omega, (show _ = _ from rfl)⟩
      · have hlti : ¬ (j1 : Int) < (l1 : Int) := by omega
        clear hlt
        by_cases hl2 : (1048576 : Int) < l2
        · go_wp2
          go_ret
          exact ⟨⟨_, rfl⟩, rfl⟩
        · by_cases hs2 : (1048576 : Int) < z1 + l2
          · go_wp2
            go_ret
            exact ⟨⟨_, rfl⟩, rfl⟩
          · go_wp2
            go_loopg [5, 7] l2 (fun k n i wr => ∃ (j : Nat) (z : Int), j ≤ l2 ∧ k + j = l2 ∧ i = .int .i64 j ∧ n = .int .i64 z ∧ 0 ≤ z ∧ z ≤ 1048576 ∧ Aside (wr = w))
            case atStart => exact ⟨0, _, Nat.zero_le _, by omega, rfl, rfl, by omega, by omega, (show _ = _ from rfl)⟩
            case round =>
              obtain ⟨j2, z2, hj2, hk2, rfl, rfl, hz2, hy2, hw⟩ := hrel
              obtain rfl := hw.out.symm
              clear hw
              by_cases hlt : j2 < l2
              · have hlti : (j2 : Int) < (l2 : Int) := by omega
                obtain ⟨b, off, ha, hb, hc⟩ := HE2.out.2.2.2.2 (by omega)
                subst ha
                obtain ⟨s, hs⟩ : ∃ s, s = (es2.getD j2 noE).1 := ⟨_, rfl⟩
                have hcv := (hc j2 hlt).1
                rw [← hs] at hcv
                clear hs hc
                by_cases hk1 : (1048576 : Int) < s.size
                · go_wp2
                  go_ret
                  exact ⟨⟨_, rfl⟩, rfl⟩
                · by_cases hk2 : (1048576 : Int) < z2 + s.size
                  · go_wp2
                    go_ret
                    exact ⟨⟨_, rfl⟩, rfl⟩
                  · go_wp2
                    go_roundg (gk - 1)
                    case measure => omega
                    case rel => exact ⟨j2 + 1, _, by omega, by omega, by go_num, rfl, by omega, by omega, (show _ = _ from rfl)⟩
              · have hlti : ¬ (j2 : Int) < (l2 : Int) := by omega
                clear hlt
                go_wp2
                go_ret
                exact ⟨⟨_, rfl⟩, rfl⟩

set_option maxHeartbeats 1000000 in
theorem bytes29 (a1 : Option Addr) (l1 c1 : Nat) (es1 : List (ByteArray × Bool)) (a2 : Option Addr) (l2 c2 : Nat) (es2 : List (ByteArray × Bool)) (w : World) (h1 : Ents w a1 l1 es1) (h2 : Ents w a2 l2 es2) :
    Calls Try.prog 29 #[.slice a1 l1 c1, .slice a2 l2 c2] w fun e w' => RetB e ∧ w' = w := by
  have HE1 : Aside (Ents w a1 l1 es1) := h1
  clear h1
  have HE2 : Aside (Ents w a2 l2 es2) := h2
  clear h2
  by_cases hl : (1048576 : Int) < l1
  · go_enter Try.func29, Try.ntmps29
    go_wp2
    go_ret
    exact ⟨⟨_, rfl⟩, rfl⟩
  · go_enter Try.func29, Try.ntmps29
    go_wp2
    go_loopg [5, 6] l1 (fun k n i wr => ∃ (j : Nat) (z : Int), j ≤ l1 ∧ k + j = l1 ∧ i = .int .i64 j ∧ n = .int .i64 z ∧ 0 ≤ z ∧ z ≤ 1048576 ∧ Aside (wr = w))
    case atStart => exact ⟨0, _, Nat.zero_le _, by omega, rfl, rfl, by omega, by omega, (show _ = _ from rfl)⟩
    case round =>
      obtain ⟨j1, z1, hj1, hk1, rfl, rfl, hz1, hy1, hw⟩ := hrel
      obtain rfl := hw.out.symm
      clear hw
      by_cases hlt : j1 < l1
      · have hlti : (j1 : Int) < (l1 : Int) := by omega
        obtain ⟨b, off, ha, hb, hc⟩ := HE1.out.2.2.2.2 (by omega)
        subst ha
        obtain ⟨s, hs⟩ : ∃ s, s = (es1.getD j1 noE).1 := ⟨_, rfl⟩
        have hcv := (hc j1 hlt).1
        rw [← hs] at hcv
        clear hs hc
        by_cases hk1 : (1048576 : Int) < s.size
        · go_wp2
          go_ret
          exact ⟨⟨_, rfl⟩, rfl⟩
        · by_cases hk2 : (1048576 : Int) < z1 + s.size
          · go_wp2
            go_ret
            exact ⟨⟨_, rfl⟩, rfl⟩
          · go_wp2
            go_roundg (gk - 1)
            case measure => omega
            case rel => exact ⟨j1 + 1, _, by omega, by omega, by go_num, rfl, by omega, by omega, (show _ = _ from rfl)⟩
      · have hlti : ¬ (j1 : Int) < (l1 : Int) := by omega
        clear hlt
        by_cases hl2 : (1048576 : Int) < l2
        · go_wp2
          go_ret
          exact ⟨⟨_, rfl⟩, rfl⟩
        · by_cases hs2 : (1048576 : Int) < z1 + l2
          · go_wp2
            go_ret
            exact ⟨⟨_, rfl⟩, rfl⟩
          · go_wp2
            go_loopg [5, 7] l2 (fun k n i wr => ∃ (j : Nat) (z : Int), j ≤ l2 ∧ k + j = l2 ∧ i = .int .i64 j ∧ n = .int .i64 z ∧ 0 ≤ z ∧ z ≤ 1048576 ∧ Aside (wr = w))
            case atStart => exact ⟨0, _, Nat.zero_le _, by omega, rfl, rfl, by omega, by omega, (show _ = _ from rfl)⟩
            case round =>
              obtain ⟨j2, z2, hj2, hk2, rfl, rfl, hz2, hy2, hw⟩ := hrel
              obtain rfl := hw.out.symm
              clear hw
              by_cases hlt : j2 < l2
              · have hlti : (j2 : Int) < (l2 : Int) := by omega
                obtain ⟨b, off, ha, hb, hc⟩ := HE2.out.2.2.2.2 (by omega)
                subst ha
                obtain ⟨s, hs⟩ : ∃ s, s = (es2.getD j2 noE).1 := ⟨_, rfl⟩
                have hcv := (hc j2 hlt).1
                rw [← hs] at hcv
                clear hs hc
                by_cases hk1 : (1048576 : Int) < s.size
                · go_wp2
                  go_ret
                  exact ⟨⟨_, rfl⟩, rfl⟩
                · by_cases hk2 : (1048576 : Int) < z2 + s.size
                  · go_wp2
                    go_ret
                    exact ⟨⟨_, rfl⟩, rfl⟩
                  · go_wp2
                    go_roundg (gk - 1)
                    case measure => omega
                    case rel => exact ⟨j2 + 1, _, by omega, by omega, by go_num, rfl, by omega, by omega, (show _ = _ from rfl)⟩
              · have hlti : ¬ (j2 : Int) < (l2 : Int) := by omega
                clear hlt
                go_wp2
                go_ret
                exact ⟨⟨_, rfl⟩, rfl⟩

set_option maxHeartbeats 1000000 in
theorem bytes25 (a1 : Option Addr) (l1 c1 : Nat) (es1 : List (ByteArray × Bool)) (a2 : Option Addr) (l2 c2 : Nat) (es2 : List (ByteArray × Bool)) (k : ByteArray) (w : World) (h1 : Ents w a1 l1 es1) (h2 : Ents w a2 l2 es2) :
    Calls Try.prog 25 #[.slice a1 l1 c1, .slice a2 l2 c2, .string k] w fun e w' => RetB e ∧ w' = w := by
  have HE1 : Aside (Ents w a1 l1 es1) := h1
  clear h1
  have HE2 : Aside (Ents w a2 l2 es2) := h2
  clear h2
  by_cases hl : (1048576 : Int) < l1
  · go_enter Try.func25, Try.ntmps25
    go_wp2
    go_ret
    exact ⟨⟨_, rfl⟩, rfl⟩
  · go_enter Try.func25, Try.ntmps25
    go_wp2
    go_loopg [7, 8] l1 (fun k n i wr => ∃ (j : Nat) (z : Int), j ≤ l1 ∧ k + j = l1 ∧ i = .int .i64 j ∧ n = .int .i64 z ∧ 0 ≤ z ∧ z ≤ 1048576 ∧ Aside (wr = w))
    case atStart => exact ⟨0, _, Nat.zero_le _, by omega, rfl, rfl, by omega, by omega, (show _ = _ from rfl)⟩
    case round =>
      obtain ⟨j1, z1, hj1, hk1, rfl, rfl, hz1, hy1, hw⟩ := hrel
      obtain rfl := hw.out.symm
      clear hw
      by_cases hlt : j1 < l1
      · have hlti : (j1 : Int) < (l1 : Int) := by omega
        obtain ⟨b, off, ha, hb, hc⟩ := HE1.out.2.2.2.2 (by omega)
        subst ha
        obtain ⟨s, hs⟩ : ∃ s, s = (es1.getD j1 noE).1 := ⟨_, rfl⟩
        have hcv := (hc j1 hlt).1
        rw [← hs] at hcv
        clear hs hc
        by_cases hk1 : (1048576 : Int) < s.size
        · go_wp2
          go_ret
          exact ⟨⟨_, rfl⟩, rfl⟩
        · by_cases hk2 : (1048576 : Int) < z1 + s.size
          · go_wp2
            go_ret
            exact ⟨⟨_, rfl⟩, rfl⟩
          · go_wp2
            go_roundg (gk - 1)
            case measure => omega
            case rel => exact ⟨j1 + 1, _, by omega, by omega, by go_num, rfl, by omega, by omega, (show _ = _ from rfl)⟩
      · have hlti : ¬ (j1 : Int) < (l1 : Int) := by omega
        clear hlt
        by_cases hl2 : (1048576 : Int) < l2
        · go_wp2
          go_ret
          exact ⟨⟨_, rfl⟩, rfl⟩
        · by_cases hs2 : (1048576 : Int) < z1 + l2
          · go_wp2
            go_ret
            exact ⟨⟨_, rfl⟩, rfl⟩
          · go_wp2
            go_loopg [7, 9] l2 (fun k n i wr => ∃ (j : Nat) (z : Int), j ≤ l2 ∧ k + j = l2 ∧ i = .int .i64 j ∧ n = .int .i64 z ∧ 0 ≤ z ∧ z ≤ 1048576 ∧ Aside (wr = w))
            case atStart => exact ⟨0, _, Nat.zero_le _, by omega, rfl, rfl, by omega, by omega, (show _ = _ from rfl)⟩
            case round =>
              obtain ⟨j2, z2, hj2, hk2, rfl, rfl, hz2, hy2, hw⟩ := hrel
              obtain rfl := hw.out.symm
              clear hw
              by_cases hlt : j2 < l2
              · have hlti : (j2 : Int) < (l2 : Int) := by omega
                obtain ⟨b, off, ha, hb, hc⟩ := HE2.out.2.2.2.2 (by omega)
                subst ha
                obtain ⟨s, hs⟩ : ∃ s, s = (es2.getD j2 noE).1 := ⟨_, rfl⟩
                have hcv := (hc j2 hlt).1
                rw [← hs] at hcv
                clear hs hc
                by_cases hk1 : (1048576 : Int) < s.size
                · go_wp2
                  go_ret
                  exact ⟨⟨_, rfl⟩, rfl⟩
                · by_cases hk2 : (1048576 : Int) < z2 + s.size
                  · go_wp2
                    go_ret
                    exact ⟨⟨_, rfl⟩, rfl⟩
                  · go_wp2
                    go_roundg (gk - 1)
                    case measure => omega
                    case rel => exact ⟨j2 + 1, _, by omega, by omega, by go_num, rfl, by omega, by omega, (show _ = _ from rfl)⟩
              · have hlti : ¬ (j2 : Int) < (l2 : Int) := by omega
                clear hlt
                by_cases hlk : (1048576 : Int) < k.size
                · go_wp2
                  go_ret
                  exact ⟨⟨_, rfl⟩, rfl⟩
                · by_cases hsk : (1048576 : Int) < z2 + k.size
                  · go_wp2
                    go_ret
                    exact ⟨⟨_, rfl⟩, rfl⟩
                  · go_wp2
                    go_ret
                    exact ⟨⟨_, rfl⟩, rfl⟩

set_option maxHeartbeats 1000000 in
theorem bytes30 (a1 : Option Addr) (l1 c1 : Nat) (es1 : List (ByteArray × Bool)) (a2 : Option Addr) (l2 c2 : Nat) (es2 : List (ByteArray × Bool)) (k : ByteArray) (w : World) (h1 : Ents w a1 l1 es1) (h2 : Ents w a2 l2 es2) :
    Calls Try.prog 30 #[.slice a1 l1 c1, .slice a2 l2 c2, .string k] w fun e w' => RetB e ∧ w' = w := by
  have HE1 : Aside (Ents w a1 l1 es1) := h1
  clear h1
  have HE2 : Aside (Ents w a2 l2 es2) := h2
  clear h2
  by_cases hl : (1048576 : Int) < l1
  · go_enter Try.func30, Try.ntmps30
    go_wp2
    go_ret
    exact ⟨⟨_, rfl⟩, rfl⟩
  · go_enter Try.func30, Try.ntmps30
    go_wp2
    go_loopg [7, 8] l1 (fun k n i wr => ∃ (j : Nat) (z : Int), j ≤ l1 ∧ k + j = l1 ∧ i = .int .i64 j ∧ n = .int .i64 z ∧ 0 ≤ z ∧ z ≤ 1048576 ∧ Aside (wr = w))
    case atStart => exact ⟨0, _, Nat.zero_le _, by omega, rfl, rfl, by omega, by omega, (show _ = _ from rfl)⟩
    case round =>
      obtain ⟨j1, z1, hj1, hk1, rfl, rfl, hz1, hy1, hw⟩ := hrel
      obtain rfl := hw.out.symm
      clear hw
      by_cases hlt : j1 < l1
      · have hlti : (j1 : Int) < (l1 : Int) := by omega
        obtain ⟨b, off, ha, hb, hc⟩ := HE1.out.2.2.2.2 (by omega)
        subst ha
        obtain ⟨s, hs⟩ : ∃ s, s = (es1.getD j1 noE).1 := ⟨_, rfl⟩
        have hcv := (hc j1 hlt).1
        rw [← hs] at hcv
        clear hs hc
        by_cases hk1 : (1048576 : Int) < s.size
        · go_wp2
          go_ret
          exact ⟨⟨_, rfl⟩, rfl⟩
        · by_cases hk2 : (1048576 : Int) < z1 + s.size
          · go_wp2
            go_ret
            exact ⟨⟨_, rfl⟩, rfl⟩
          · go_wp2
            go_roundg (gk - 1)
            case measure => omega
            case rel => exact ⟨j1 + 1, _, by omega, by omega, by go_num, rfl, by omega, by omega, (show _ = _ from rfl)⟩
      · have hlti : ¬ (j1 : Int) < (l1 : Int) := by omega
        clear hlt
        by_cases hl2 : (1048576 : Int) < l2
        · go_wp2
          go_ret
          exact ⟨⟨_, rfl⟩, rfl⟩
        · by_cases hs2 : (1048576 : Int) < z1 + l2
          · go_wp2
            go_ret
            exact ⟨⟨_, rfl⟩, rfl⟩
          · go_wp2
            go_loopg [7, 9] l2 (fun k n i wr => ∃ (j : Nat) (z : Int), j ≤ l2 ∧ k + j = l2 ∧ i = .int .i64 j ∧ n = .int .i64 z ∧ 0 ≤ z ∧ z ≤ 1048576 ∧ Aside (wr = w))
            case atStart => exact ⟨0, _, Nat.zero_le _, by omega, rfl, rfl, by omega, by omega, (show _ = _ from rfl)⟩
            case round =>
              obtain ⟨j2, z2, hj2, hk2, rfl, rfl, hz2, hy2, hw⟩ := hrel
              obtain rfl := hw.out.symm
              clear hw
              by_cases hlt : j2 < l2
              · have hlti : (j2 : Int) < (l2 : Int) := by omega
                obtain ⟨b, off, ha, hb, hc⟩ := HE2.out.2.2.2.2 (by omega)
                subst ha
                obtain ⟨s, hs⟩ : ∃ s, s = (es2.getD j2 noE).1 := ⟨_, rfl⟩
                have hcv := (hc j2 hlt).1
                rw [← hs] at hcv
                clear hs hc
                by_cases hk1 : (1048576 : Int) < s.size
                · go_wp2
                  go_ret
                  exact ⟨⟨_, rfl⟩, rfl⟩
                · by_cases hk2 : (1048576 : Int) < z2 + s.size
                  · go_wp2
                    go_ret
                    exact ⟨⟨_, rfl⟩, rfl⟩
                  · go_wp2
                    go_roundg (gk - 1)
                    case measure => omega
                    case rel => exact ⟨j2 + 1, _, by omega, by omega, by go_num, rfl, by omega, by omega, (show _ = _ from rfl)⟩
              · have hlti : ¬ (j2 : Int) < (l2 : Int) := by omega
                clear hlt
                by_cases hlk : (1048576 : Int) < k.size
                · go_wp2
                  go_ret
                  exact ⟨⟨_, rfl⟩, rfl⟩
                · by_cases hsk : (1048576 : Int) < z2 + k.size
                  · go_wp2
                    go_ret
                    exact ⟨⟨_, rfl⟩, rfl⟩
                  · go_wp2
                    go_ret
                    exact ⟨⟨_, rfl⟩, rfl⟩

set_option maxHeartbeats 1000000 in
theorem bytes27 (a1 : Option Addr) (l1 c1 : Nat) (es1 : List (ByteArray × Bool)) (a2 : Option Addr) (l2 c2 : Nat) (es2 : List (ByteArray × Bool)) (a3 : Option Addr) (l3 c3 : Nat) (es3 : List (ByteArray × Bool)) (w : World) (h1 : Ents w a1 l1 es1) (h2 : Ents w a2 l2 es2) (h3 : Ents w a3 l3 es3) :
    Calls Try.prog 27 #[.slice a1 l1 c1, .slice a2 l2 c2, .slice a3 l3 c3] w fun e w' => RetB e ∧ w' = w := by
  have HE1 : Aside (Ents w a1 l1 es1) := h1
  clear h1
  have HE2 : Aside (Ents w a2 l2 es2) := h2
  clear h2
  have HE3 : Aside (Ents w a3 l3 es3) := h3
  clear h3
  by_cases hl : (1048576 : Int) < l1
  · go_enter Try.func27, Try.ntmps27
    go_wp2
    go_ret
    exact ⟨⟨_, rfl⟩, rfl⟩
  · go_enter Try.func27, Try.ntmps27
    go_wp2
    go_loopg [7, 8] l1 (fun k n i wr => ∃ (j : Nat) (z : Int), j ≤ l1 ∧ k + j = l1 ∧ i = .int .i64 j ∧ n = .int .i64 z ∧ 0 ≤ z ∧ z ≤ 1048576 ∧ Aside (wr = w))
    case atStart => exact ⟨0, _, Nat.zero_le _, by omega, rfl, rfl, by omega, by omega, (show _ = _ from rfl)⟩
    case round =>
      obtain ⟨j1, z1, hj1, hk1, rfl, rfl, hz1, hy1, hw⟩ := hrel
      obtain rfl := hw.out.symm
      clear hw
      by_cases hlt : j1 < l1
      · have hlti : (j1 : Int) < (l1 : Int) := by omega
        obtain ⟨b, off, ha, hb, hc⟩ := HE1.out.2.2.2.2 (by omega)
        subst ha
        obtain ⟨s, hs⟩ : ∃ s, s = (es1.getD j1 noE).1 := ⟨_, rfl⟩
        have hcv := (hc j1 hlt).1
        rw [← hs] at hcv
        clear hs hc
        by_cases hk1 : (1048576 : Int) < s.size
        · go_wp2
          go_ret
          exact ⟨⟨_, rfl⟩, rfl⟩
        · by_cases hk2 : (1048576 : Int) < z1 + s.size
          · go_wp2
            go_ret
            exact ⟨⟨_, rfl⟩, rfl⟩
          · go_wp2
            go_roundg (gk - 1)
            case measure => omega
            case rel => exact ⟨j1 + 1, _, by omega, by omega, by go_num, rfl, by omega, by omega, (show _ = _ from rfl)⟩
      · have hlti : ¬ (j1 : Int) < (l1 : Int) := by omega
        clear hlt
        by_cases hl2 : (1048576 : Int) < l2
        · go_wp2
          go_ret
          exact ⟨⟨_, rfl⟩, rfl⟩
        · by_cases hs2 : (1048576 : Int) < z1 + l2
          · go_wp2
            go_ret
            exact ⟨⟨_, rfl⟩, rfl⟩
          · go_wp2
            go_loopg [7, 9] l2 (fun k n i wr => ∃ (j : Nat) (z : Int), j ≤ l2 ∧ k + j = l2 ∧ i = .int .i64 j ∧ n = .int .i64 z ∧ 0 ≤ z ∧ z ≤ 1048576 ∧ Aside (wr = w))
            case atStart => exact ⟨0, _, Nat.zero_le _, by omega, rfl, rfl, by omega, by omega, (show _ = _ from rfl)⟩
            case round =>
              obtain ⟨j2, z2, hj2, hk2, rfl, rfl, hz2, hy2, hw⟩ := hrel
              obtain rfl := hw.out.symm
              clear hw
              by_cases hlt : j2 < l2
              · have hlti : (j2 : Int) < (l2 : Int) := by omega
                obtain ⟨b, off, ha, hb, hc⟩ := HE2.out.2.2.2.2 (by omega)
                subst ha
                obtain ⟨s, hs⟩ : ∃ s, s = (es2.getD j2 noE).1 := ⟨_, rfl⟩
                have hcv := (hc j2 hlt).1
                rw [← hs] at hcv
                clear hs hc
                by_cases hk1 : (1048576 : Int) < s.size
                · go_wp2
                  go_ret
                  exact ⟨⟨_, rfl⟩, rfl⟩
                · by_cases hk2 : (1048576 : Int) < z2 + s.size
                  · go_wp2
                    go_ret
                    exact ⟨⟨_, rfl⟩, rfl⟩
                  · go_wp2
                    go_roundg (gk - 1)
                    case measure => omega
                    case rel => exact ⟨j2 + 1, _, by omega, by omega, by go_num, rfl, by omega, by omega, (show _ = _ from rfl)⟩
              · have hlti : ¬ (j2 : Int) < (l2 : Int) := by omega
                clear hlt
                by_cases hl3 : (1048576 : Int) < l3
                · go_wp2
                  go_ret
                  exact ⟨⟨_, rfl⟩, rfl⟩
                · by_cases hs3 : (1048576 : Int) < z2 + l3
                  · go_wp2
                    go_ret
                    exact ⟨⟨_, rfl⟩, rfl⟩
                  · go_wp2
                    go_loopg [7, 10] l3 (fun k n i wr => ∃ (j : Nat) (z : Int), j ≤ l3 ∧ k + j = l3 ∧ i = .int .i64 j ∧ n = .int .i64 z ∧ 0 ≤ z ∧ z ≤ 1048576 ∧ Aside (wr = w))
                    case atStart => exact ⟨0, _, Nat.zero_le _, by omega, rfl, rfl, by omega, by omega, (show _ = _ from rfl)⟩
                    case round =>
                      obtain ⟨j3, z3, hj3, hk3, rfl, rfl, hz3, hy3, hw⟩ := hrel
                      obtain rfl := hw.out.symm
                      clear hw
                      by_cases hlt : j3 < l3
                      · have hlti : (j3 : Int) < (l3 : Int) := by omega
                        obtain ⟨b, off, ha, hb, hc⟩ := HE3.out.2.2.2.2 (by omega)
                        subst ha
                        obtain ⟨s, hs⟩ : ∃ s, s = (es3.getD j3 noE).1 := ⟨_, rfl⟩
                        have hcv := (hc j3 hlt).1
                        rw [← hs] at hcv
                        clear hs hc
                        by_cases hk1 : (1048576 : Int) < s.size
                        · go_wp2
                          go_ret
                          exact ⟨⟨_, rfl⟩, rfl⟩
                        · by_cases hk2 : (1048576 : Int) < z3 + s.size
                          · go_wp2
                            go_ret
                            exact ⟨⟨_, rfl⟩, rfl⟩
                          · go_wp2
                            go_roundg (gk - 1)
                            case measure => omega
                            case rel => exact ⟨j3 + 1, _, by omega, by omega, by go_num, rfl, by omega, by omega, (show _ = _ from rfl)⟩
                      · have hlti : ¬ (j3 : Int) < (l3 : Int) := by omega
                        clear hlt
                        go_wp2
                        go_ret
                        exact ⟨⟨_, rfl⟩, rfl⟩

end Go.Proofs.Qxb6602338a
