/-
  zzBytes_FnReachesPeelsRoleByRole (12), walked: what it answers is of no account: that it returns a bool and writes nothing that was there.
-/
import Derived.Test.Qxb6602338aBytes
namespace Go.Proofs.Qxb6602338a
open Go.RowKit

set_option maxHeartbeats 8000000 in
set_option maxRecDepth 100000 in
theorem bytes12 (a1 : Option Addr) (l1 c1 : Nat) (es1 : List (ByteArray × Bool)) (a2 : Option Addr) (l2 c2 : Nat) (es2 : List (ByteArray × Bool)) (a3 : Option Addr) (l3 c3 : Nat) (es3 : List (ByteArray × Bool)) (a4 : Option Addr) (l4 c4 : Nat) (es4 : List (ByteArray × Bool)) (a5 : Option Addr) (l5 c5 : Nat) (es5 : List (ByteArray × Bool)) (a6 : Option Addr) (l6 c6 : Nat) (es6 : List (ByteArray × Bool)) (rs1 ev1 ru1 ac1 : Bool) (u1 p1 : ByteArray) (ch1 co1 : Int) (rs2 ev2 ru2 ac2 : Bool) (u2 p2 : ByteArray) (ch2 co2 : Int) (k : ByteArray) (w : World) (h1 : Ents w a1 l1 es1) (h2 : Ents w a2 l2 es2) (h3 : Ents w a3 l3 es3) (h4 : Ents w a4 l4 es4) (h5 : Ents w a5 l5 es5) (h6 : Ents w a6 l6 es6) :
    Calls Try.prog 12 #[.agg #[.slice a1 l1 c1, .bool rs1, .string u1, .bool ev1, .slice a2 l2 c2, .bool ru1, .slice a3 l3 c3, .string p1, .int .u8 ch1, .int .u8 co1, .bool ac1], .agg #[.slice a4 l4 c4, .bool rs2, .string u2, .bool ev2, .slice a5 l5 c5, .bool ru2, .slice a6 l6 c6, .string p2, .int .u8 ch2, .int .u8 co2, .bool ac2], .string k] w fun e w' => RetB e ∧ Below w.heap.size w w' := by
  have HB : Aside (Below w.heap.size w ((w.alloc (.cells #[.slice a1 l1 c1, .bool rs1, .string u1, .bool ev1, .slice a2 l2 c2, .bool ru1, .slice a3 l3 c3, .string p1, .int .u8 ch1, .int .u8 co1, .bool ac1] 24)).alloc (.cells #[.slice a4 l4 c4, .bool rs2, .string u2, .bool ev2, .slice a5 l5 c5, .bool ru2, .slice a6 l6 c6, .string p2, .int .u8 ch2, .int .u8 co2, .bool ac2] 24))) := ((Below.refl _ _).alloc (Nat.le_refl _) _).alloc (by simp) _
  have K1 : ((w.alloc (.cells #[.slice a1 l1 c1, .bool rs1, .string u1, .bool ev1, .slice a2 l2 c2, .bool ru1, .slice a3 l3 c3, .string p1, .int .u8 ch1, .int .u8 co1, .bool ac1] 24)).alloc (.cells #[.slice a4 l4 c4, .bool rs2, .string u2, .bool ev2, .slice a5 l5 c5, .bool ru2, .slice a6 l6 c6, .string p2, .int .u8 ch2, .int .u8 co2, .bool ac2] 24)).cell? ⟨w.heap.size, 0, none⟩ = some (.slice a1 l1 c1) := by go_simp
  have K2 : ((w.alloc (.cells #[.slice a1 l1 c1, .bool rs1, .string u1, .bool ev1, .slice a2 l2 c2, .bool ru1, .slice a3 l3 c3, .string p1, .int .u8 ch1, .int .u8 co1, .bool ac1] 24)).alloc (.cells #[.slice a4 l4 c4, .bool rs2, .string u2, .bool ev2, .slice a5 l5 c5, .bool ru2, .slice a6 l6 c6, .string p2, .int .u8 ch2, .int .u8 co2, .bool ac2] 24)).cell? ⟨w.heap.size, 4, none⟩ = some (.slice a2 l2 c2) := by go_simp
  have K3 : ((w.alloc (.cells #[.slice a1 l1 c1, .bool rs1, .string u1, .bool ev1, .slice a2 l2 c2, .bool ru1, .slice a3 l3 c3, .string p1, .int .u8 ch1, .int .u8 co1, .bool ac1] 24)).alloc (.cells #[.slice a4 l4 c4, .bool rs2, .string u2, .bool ev2, .slice a5 l5 c5, .bool ru2, .slice a6 l6 c6, .string p2, .int .u8 ch2, .int .u8 co2, .bool ac2] 24)).cell? ⟨w.heap.size, 6, none⟩ = some (.slice a3 l3 c3) := by go_simp
  have K4 : ((w.alloc (.cells #[.slice a1 l1 c1, .bool rs1, .string u1, .bool ev1, .slice a2 l2 c2, .bool ru1, .slice a3 l3 c3, .string p1, .int .u8 ch1, .int .u8 co1, .bool ac1] 24)).alloc (.cells #[.slice a4 l4 c4, .bool rs2, .string u2, .bool ev2, .slice a5 l5 c5, .bool ru2, .slice a6 l6 c6, .string p2, .int .u8 ch2, .int .u8 co2, .bool ac2] 24)).cell? ⟨w.heap.size + 1, 0, none⟩ = some (.slice a4 l4 c4) := by go_simp
  have K5 : ((w.alloc (.cells #[.slice a1 l1 c1, .bool rs1, .string u1, .bool ev1, .slice a2 l2 c2, .bool ru1, .slice a3 l3 c3, .string p1, .int .u8 ch1, .int .u8 co1, .bool ac1] 24)).alloc (.cells #[.slice a4 l4 c4, .bool rs2, .string u2, .bool ev2, .slice a5 l5 c5, .bool ru2, .slice a6 l6 c6, .string p2, .int .u8 ch2, .int .u8 co2, .bool ac2] 24)).cell? ⟨w.heap.size + 1, 4, none⟩ = some (.slice a5 l5 c5) := by go_simp
  have K6 : ((w.alloc (.cells #[.slice a1 l1 c1, .bool rs1, .string u1, .bool ev1, .slice a2 l2 c2, .bool ru1, .slice a3 l3 c3, .string p1, .int .u8 ch1, .int .u8 co1, .bool ac1] 24)).alloc (.cells #[.slice a4 l4 c4, .bool rs2, .string u2, .bool ev2, .slice a5 l5 c5, .bool ru2, .slice a6 l6 c6, .string p2, .int .u8 ch2, .int .u8 co2, .bool ac2] 24)).cell? ⟨w.heap.size + 1, 6, none⟩ = some (.slice a6 l6 c6) := by go_simp
  have Ku1 : ((w.alloc (.cells #[.slice a1 l1 c1, .bool rs1, .string u1, .bool ev1, .slice a2 l2 c2, .bool ru1, .slice a3 l3 c3, .string p1, .int .u8 ch1, .int .u8 co1, .bool ac1] 24)).alloc (.cells #[.slice a4 l4 c4, .bool rs2, .string u2, .bool ev2, .slice a5 l5 c5, .bool ru2, .slice a6 l6 c6, .string p2, .int .u8 ch2, .int .u8 co2, .bool ac2] 24)).cell? ⟨w.heap.size, 2, none⟩ = some (.string u1) := by go_simp
  have Kp1 : ((w.alloc (.cells #[.slice a1 l1 c1, .bool rs1, .string u1, .bool ev1, .slice a2 l2 c2, .bool ru1, .slice a3 l3 c3, .string p1, .int .u8 ch1, .int .u8 co1, .bool ac1] 24)).alloc (.cells #[.slice a4 l4 c4, .bool rs2, .string u2, .bool ev2, .slice a5 l5 c5, .bool ru2, .slice a6 l6 c6, .string p2, .int .u8 ch2, .int .u8 co2, .bool ac2] 24)).cell? ⟨w.heap.size, 7, none⟩ = some (.string p1) := by go_simp
  have Ku2 : ((w.alloc (.cells #[.slice a1 l1 c1, .bool rs1, .string u1, .bool ev1, .slice a2 l2 c2, .bool ru1, .slice a3 l3 c3, .string p1, .int .u8 ch1, .int .u8 co1, .bool ac1] 24)).alloc (.cells #[.slice a4 l4 c4, .bool rs2, .string u2, .bool ev2, .slice a5 l5 c5, .bool ru2, .slice a6 l6 c6, .string p2, .int .u8 ch2, .int .u8 co2, .bool ac2] 24)).cell? ⟨w.heap.size + 1, 2, none⟩ = some (.string u2) := by go_simp
  have Kp2 : ((w.alloc (.cells #[.slice a1 l1 c1, .bool rs1, .string u1, .bool ev1, .slice a2 l2 c2, .bool ru1, .slice a3 l3 c3, .string p1, .int .u8 ch1, .int .u8 co1, .bool ac1] 24)).alloc (.cells #[.slice a4 l4 c4, .bool rs2, .string u2, .bool ev2, .slice a5 l5 c5, .bool ru2, .slice a6 l6 c6, .string p2, .int .u8 ch2, .int .u8 co2, .bool ac2] 24)).cell? ⟨w.heap.size + 1, 7, none⟩ = some (.string p2) := by go_simp
  have HE1 : Aside (Ents ((w.alloc (.cells #[.slice a1 l1 c1, .bool rs1, .string u1, .bool ev1, .slice a2 l2 c2, .bool ru1, .slice a3 l3 c3, .string p1, .int .u8 ch1, .int .u8 co1, .bool ac1] 24)).alloc (.cells #[.slice a4 l4 c4, .bool rs2, .string u2, .bool ev2, .slice a5 l5 c5, .bool ru2, .slice a6 l6 c6, .string p2, .int .u8 ch2, .int .u8 co2, .bool ac2] 24)) a1 l1 es1) := h1.below HB.out
  have HE2 : Aside (Ents ((w.alloc (.cells #[.slice a1 l1 c1, .bool rs1, .string u1, .bool ev1, .slice a2 l2 c2, .bool ru1, .slice a3 l3 c3, .string p1, .int .u8 ch1, .int .u8 co1, .bool ac1] 24)).alloc (.cells #[.slice a4 l4 c4, .bool rs2, .string u2, .bool ev2, .slice a5 l5 c5, .bool ru2, .slice a6 l6 c6, .string p2, .int .u8 ch2, .int .u8 co2, .bool ac2] 24)) a2 l2 es2) := h2.below HB.out
  have HE3 : Aside (Ents ((w.alloc (.cells #[.slice a1 l1 c1, .bool rs1, .string u1, .bool ev1, .slice a2 l2 c2, .bool ru1, .slice a3 l3 c3, .string p1, .int .u8 ch1, .int .u8 co1, .bool ac1] 24)).alloc (.cells #[.slice a4 l4 c4, .bool rs2, .string u2, .bool ev2, .slice a5 l5 c5, .bool ru2, .slice a6 l6 c6, .string p2, .int .u8 ch2, .int .u8 co2, .bool ac2] 24)) a3 l3 es3) := h3.below HB.out
  have HE4 : Aside (Ents ((w.alloc (.cells #[.slice a1 l1 c1, .bool rs1, .string u1, .bool ev1, .slice a2 l2 c2, .bool ru1, .slice a3 l3 c3, .string p1, .int .u8 ch1, .int .u8 co1, .bool ac1] 24)).alloc (.cells #[.slice a4 l4 c4, .bool rs2, .string u2, .bool ev2, .slice a5 l5 c5, .bool ru2, .slice a6 l6 c6, .string p2, .int .u8 ch2, .int .u8 co2, .bool ac2] 24)) a4 l4 es4) := h4.below HB.out
  have HE5 : Aside (Ents ((w.alloc (.cells #[.slice a1 l1 c1, .bool rs1, .string u1, .bool ev1, .slice a2 l2 c2, .bool ru1, .slice a3 l3 c3, .string p1, .int .u8 ch1, .int .u8 co1, .bool ac1] 24)).alloc (.cells #[.slice a4 l4 c4, .bool rs2, .string u2, .bool ev2, .slice a5 l5 c5, .bool ru2, .slice a6 l6 c6, .string p2, .int .u8 ch2, .int .u8 co2, .bool ac2] 24)) a5 l5 es5) := h5.below HB.out
  have HE6 : Aside (Ents ((w.alloc (.cells #[.slice a1 l1 c1, .bool rs1, .string u1, .bool ev1, .slice a2 l2 c2, .bool ru1, .slice a3 l3 c3, .string p1, .int .u8 ch1, .int .u8 co1, .bool ac1] 24)).alloc (.cells #[.slice a4 l4 c4, .bool rs2, .string u2, .bool ev2, .slice a5 l5 c5, .bool ru2, .slice a6 l6 c6, .string p2, .int .u8 ch2, .int .u8 co2, .bool ac2] 24)) a6 l6 es6) := h6.below HB.out
  clear h1 h2 h3 h4 h5 h6
  by_cases hl : (1048576 : Int) < l1
  · go_enter Try.func12, Try.ntmps12
    go_wp2
    go_ret
    exact ⟨⟨_, rfl⟩, HB.out⟩
  · go_enter Try.func12, Try.ntmps12
    go_wp2
    obtain ⟨W, hW⟩ : ∃ W, W = ((w.alloc (.cells #[.slice a1 l1 c1, .bool rs1, .string u1, .bool ev1, .slice a2 l2 c2, .bool ru1, .slice a3 l3 c3, .string p1, .int .u8 ch1, .int .u8 co1, .bool ac1] 24)).alloc (.cells #[.slice a4 l4 c4, .bool rs2, .string u2, .bool ev2, .slice a5 l5 c5, .bool ru2, .slice a6 l6 c6, .string p2, .int .u8 ch2, .int .u8 co2, .bool ac2] 24)) := ⟨_, rfl⟩
    rw [← hW] at HB K1 K2 K3 K4 K5 K6 Ku1 Kp1 Ku2 Kp2 HE1 HE2 HE3 HE4 HE5 HE6 ⊢
    clear hW
    go_loopg [7, 8] l1 (fun k n i wr => ∃ (j : Nat) (z : Int), j ≤ l1 ∧ k + j = l1 ∧ i = .int .i64 j ∧ n = .int .i64 z ∧ 0 ≤ z ∧ z ≤ 1048576 ∧ Aside (wr = W))
    case atStart => exact ⟨0, _, Nat.zero_le _, by omega, rfl, rfl, by omega, by omega, (show _ = _ from rfl)⟩
    case round =>
      obtain ⟨j1, z1, hj1, hk1, rfl, rfl, hz1, hy1, hw⟩ := hrel
      obtain rfl := hw.out.symm
      clear hw
      by_cases hlt : j1 < l1
      · have hlti : (j1 : Int) < (l1 : Int) := by omega
        obtain ⟨b, off, ha, hb, hc⟩ := HE1.out.2.2.2.2 (by omega)
        subst ha
        obtain ⟨s, hs⟩ : ∃ s, s = (es1.getD j1 noE).1 := ⟨_, rfl⟩
        have hcv := (hc j1 hlt).1
        rw [← hs] at hcv
        clear hs hc
        by_cases hk1 : (1048576 : Int) < s.size
        · go_wp2
          go_ret
          exact ⟨⟨_, rfl⟩, HB.out⟩
        · by_cases hk2 : (1048576 : Int) < z1 + s.size
          · go_wp2
            go_ret
            exact ⟨⟨_, rfl⟩, HB.out⟩
          · go_wp2
            go_roundg (gk - 1)
            case measure => omega
            case rel => exact ⟨j1 + 1, _, by omega, by omega, by go_num, rfl, by omega, by omega, (show _ = _ from rfl)⟩
      · have hlti : ¬ (j1 : Int) < (l1 : Int) := by omega
        clear hlt hk1 hj1
        by_cases hlu1 : (1048576 : Int) < u1.size
        · go_wp2
          go_ret
          exact ⟨⟨_, rfl⟩, HB.out⟩
        · by_cases hsu1 : (1048576 : Int) < z1 + u1.size
          · go_wp2
            go_ret
            exact ⟨⟨_, rfl⟩, HB.out⟩
          · by_cases hl2 : (1048576 : Int) < l2
            · go_wp2
              go_ret
              exact ⟨⟨_, rfl⟩, HB.out⟩
            · by_cases hs2 : (1048576 : Int) < (z1 + u1.size) + l2
              · go_wp2
                go_ret
                exact ⟨⟨_, rfl⟩, HB.out⟩
              · go_wp2
                go_loopg [7, 9] l2 (fun k n i wr => ∃ (j : Nat) (z : Int), j ≤ l2 ∧ k + j = l2 ∧ i = .int .i64 j ∧ n = .int .i64 z ∧ 0 ≤ z ∧ z ≤ 1048576 ∧ Aside (wr = W))
                case atStart => exact ⟨0, _, Nat.zero_le _, by omega, rfl, rfl, by omega, by omega, (show _ = _ from rfl)⟩
                case round =>
                  obtain ⟨j2, z2, hj2, hk2, rfl, rfl, hz2, hy2, hw⟩ := hrel
                  obtain rfl := hw.out.symm
                  clear hw
                  by_cases hlt : j2 < l2
                  · have hlti : (j2 : Int) < (l2 : Int) := by omega
                    obtain ⟨b, off, ha, hb, hc⟩ := HE2.out.2.2.2.2 (by omega)
                    subst ha
                    obtain ⟨s, hs⟩ : ∃ s, s = (es2.getD j2 noE).1 := ⟨_, rfl⟩
                    have hcv := (hc j2 hlt).1
                    rw [← hs] at hcv
                    clear hs hc
                    by_cases hk1 : (1048576 : Int) < s.size
                    · go_wp2
                      go_ret
                      exact ⟨⟨_, rfl⟩, HB.out⟩
                    · by_cases hk2 : (1048576 : Int) < z2 + s.size
                      · go_wp2
                        go_ret
                        exact ⟨⟨_, rfl⟩, HB.out⟩
                      · go_wp2
                        go_roundg (gk - 1)
                        case measure => omega
                        case rel => exact ⟨j2 + 1, _, by omega, by omega, by go_num, rfl, by omega, by omega, (show _ = _ from rfl)⟩
                  · have hlti : ¬ (j2 : Int) < (l2 : Int) := by omega
                    clear hlt hk2 hj2
                    by_cases hl3 : (1048576 : Int) < l3
                    · go_wp2
                      go_ret
                      exact ⟨⟨_, rfl⟩, HB.out⟩
                    · by_cases hs3 : (1048576 : Int) < z2 + l3
                      · go_wp2
                        go_ret
                        exact ⟨⟨_, rfl⟩, HB.out⟩
                      · go_wp2
                        go_loopg [7, 10] l3 (fun k n i wr => ∃ (j : Nat) (z : Int), j ≤ l3 ∧ k + j = l3 ∧ i = .int .i64 j ∧ n = .int .i64 z ∧ 0 ≤ z ∧ z ≤ 1048576 ∧ Aside (wr = W))
                        case atStart => exact ⟨0, _, Nat.zero_le _, by omega, rfl, rfl, by omega, by omega, (show _ = _ from rfl)⟩
                        case round =>
                          obtain ⟨j3, z3, hj3, hk3, rfl, rfl, hz3, hy3, hw⟩ := hrel
                          obtain rfl := hw.out.symm
                          clear hw
                          by_cases hlt : j3 < l3
                          · have hlti : (j3 : Int) < (l3 : Int) := by omega
                            obtain ⟨b, off, ha, hb, hc⟩ := HE3.out.2.2.2.2 (by omega)
                            subst ha
                            obtain ⟨s, hs⟩ : ∃ s, s = (es3.getD j3 noE).1 := ⟨_, rfl⟩
                            have hcv := (hc j3 hlt).1
                            rw [← hs] at hcv
                            clear hs hc
                            by_cases hk1 : (1048576 : Int) < s.size
                            · go_wp2
                              go_ret
                              exact ⟨⟨_, rfl⟩, HB.out⟩
                            · by_cases hk2 : (1048576 : Int) < z3 + s.size
                              · go_wp2
                                go_ret
                                exact ⟨⟨_, rfl⟩, HB.out⟩
                              · go_wp2
                                go_roundg (gk - 1)
                                case measure => omega
                                case rel => exact ⟨j3 + 1, _, by omega, by omega, by go_num, rfl, by omega, by omega, (show _ = _ from rfl)⟩
                          · have hlti : ¬ (j3 : Int) < (l3 : Int) := by omega
                            clear hlt hk3 hj3
                            by_cases hlp1 : (1048576 : Int) < p1.size
                            · go_wp2
                              go_ret
                              exact ⟨⟨_, rfl⟩, HB.out⟩
                            · by_cases hsp1 : (1048576 : Int) < z3 + p1.size
                              · go_wp2
                                go_ret
                                exact ⟨⟨_, rfl⟩, HB.out⟩
                              · by_cases hl4 : (1048576 : Int) < l4
                                · go_wp2
                                  go_ret
                                  exact ⟨⟨_, rfl⟩, HB.out⟩
                                · by_cases hs4 : (1048576 : Int) < (z3 + p1.size) + l4
                                  · go_wp2
                                    go_ret
                                    exact ⟨⟨_, rfl⟩, HB.out⟩
                                  · go_wp2
                                    go_loopg [7, 11] l4 (fun k n i wr => ∃ (j : Nat) (z : Int), j ≤ l4 ∧ k + j = l4 ∧ i = .int .i64 j ∧ n = .int .i64 z ∧ 0 ≤ z ∧ z ≤ 1048576 ∧ Aside (wr = W))
                                    case atStart => exact ⟨0, _, Nat.zero_le _, by omega, rfl, rfl, by omega, by omega, (show _ = _ from rfl)⟩
                                    case round =>
                                      obtain ⟨j4, z4, hj4, hk4, rfl, rfl, hz4, hy4, hw⟩ := hrel
                                      obtain rfl := hw.out.symm
                                      clear hw
                                      by_cases hlt : j4 < l4
                                      · have hlti : (j4 : Int) < (l4 : Int) := by omega
                                        obtain ⟨b, off, ha, hb, hc⟩ := HE4.out.2.2.2.2 (by omega)
                                        subst ha
                                        obtain ⟨s, hs⟩ : ∃ s, s = (es4.getD j4 noE).1 := ⟨_, rfl⟩
                                        have hcv := (hc j4 hlt).1
                                        rw [← hs] at hcv
                                        clear hs hc
                                        by_cases hk1 : (1048576 : Int) < s.size
                                        · go_wp2
                                          go_ret
                                          exact ⟨⟨_, rfl⟩, HB.out⟩
                                        · by_cases hk2 : (1048576 : Int) < z4 + s.size
                                          · go_wp2
                                            go_ret
                                            exact ⟨⟨_, rfl⟩, HB.out⟩
                                          · go_wp2
                                            go_roundg (gk - 1)
                                            case measure => omega
                                            case rel => exact ⟨j4 + 1, _, by omega, by omega, by go_num, rfl, by omega, by omega, (show _ = _ from rfl)⟩
                                      · have hlti : ¬ (j4 : Int) < (l4 : Int) := by omega
                                        clear hlt hk4 hj4
                                        by_cases hlu2 : (1048576 : Int) < u2.size
                                        · go_wp2
                                          go_ret
                                          exact ⟨⟨_, rfl⟩, HB.out⟩
                                        · by_cases hsu2 : (1048576 : Int) < z4 + u2.size
                                          · go_wp2
                                            go_ret
                                            exact ⟨⟨_, rfl⟩, HB.out⟩
                                          · by_cases hl5 : (1048576 : Int) < l5
                                            · go_wp2
                                              go_ret
                                              exact ⟨⟨_, rfl⟩, HB.out⟩
                                            · by_cases hs5 : (1048576 : Int) < (z4 + u2.size) + l5
                                              · go_wp2
                                                go_ret
                                                exact ⟨⟨_, rfl⟩, HB.out⟩
                                              · go_wp2
                                                go_loopg [7, 12] l5 (fun k n i wr => ∃ (j : Nat) (z : Int), j ≤ l5 ∧ k + j = l5 ∧ i = .int .i64 j ∧ n = .int .i64 z ∧ 0 ≤ z ∧ z ≤ 1048576 ∧ Aside (wr = W))
                                                case atStart => exact ⟨0, _, Nat.zero_le _, by omega, rfl, rfl, by omega, by omega, (show _ = _ from rfl)⟩
                                                case round =>
                                                  obtain ⟨j5, z5, hj5, hk5, rfl, rfl, hz5, hy5, hw⟩ := hrel
                                                  obtain rfl := hw.out.symm
                                                  clear hw
                                                  by_cases hlt : j5 < l5
                                                  · have hlti : (j5 : Int) < (l5 : Int) := by omega
                                                    obtain ⟨b, off, ha, hb, hc⟩ := HE5.out.2.2.2.2 (by omega)
                                                    subst ha
                                                    obtain ⟨s, hs⟩ : ∃ s, s = (es5.getD j5 noE).1 := ⟨_, rfl⟩
                                                    have hcv := (hc j5 hlt).1
                                                    rw [← hs] at hcv
                                                    clear hs hc
                                                    by_cases hk1 : (1048576 : Int) < s.size
                                                    · go_wp2
                                                      go_ret
                                                      exact ⟨⟨_, rfl⟩, HB.out⟩
                                                    · by_cases hk2 : (1048576 : Int) < z5 + s.size
                                                      · go_wp2
                                                        go_ret
                                                        exact ⟨⟨_, rfl⟩, HB.out⟩
                                                      · go_wp2
                                                        go_roundg (gk - 1)
                                                        case measure => omega
                                                        case rel => exact ⟨j5 + 1, _, by omega, by omega, by go_num, rfl, by omega, by omega, (show _ = _ from rfl)⟩
                                                  · have hlti : ¬ (j5 : Int) < (l5 : Int) := by omega
                                                    clear hlt hk5 hj5
                                                    by_cases hl6 : (1048576 : Int) < l6
                                                    · go_wp2
                                                      go_ret
                                                      exact ⟨⟨_, rfl⟩, HB.out⟩
                                                    · by_cases hs6 : (1048576 : Int) < z5 + l6
                                                      · go_wp2
                                                        go_ret
                                                        exact ⟨⟨_, rfl⟩, HB.out⟩
                                                      · go_wp2
                                                        go_loopg [7, 13] l6 (fun k n i wr => ∃ (j : Nat) (z : Int), j ≤ l6 ∧ k + j = l6 ∧ i = .int .i64 j ∧ n = .int .i64 z ∧ 0 ≤ z ∧ z ≤ 1048576 ∧ Aside (wr = W))
                                                        case atStart => exact ⟨0, _, Nat.zero_le _, by omega, rfl, rfl, by omega, by omega, (show _ = _ from rfl)⟩
                                                        case round =>
                                                          obtain ⟨j6, z6, hj6, hk6, rfl, rfl, hz6, hy6, hw⟩ := hrel
                                                          obtain rfl := hw.out.symm
                                                          clear hw
                                                          by_cases hlt : j6 < l6
                                                          · have hlti : (j6 : Int) < (l6 : Int) := by omega
                                                            obtain ⟨b, off, ha, hb, hc⟩ := HE6.out.2.2.2.2 (by omega)
                                                            subst ha
                                                            obtain ⟨s, hs⟩ : ∃ s, s = (es6.getD j6 noE).1 := ⟨_, rfl⟩
                                                            have hcv := (hc j6 hlt).1
                                                            rw [← hs] at hcv
                                                            clear hs hc
                                                            by_cases hk1 : (1048576 : Int) < s.size
                                                            · go_wp2
                                                              go_ret
                                                              exact ⟨⟨_, rfl⟩, HB.out⟩
                                                            · by_cases hk2 : (1048576 : Int) < z6 + s.size
                                                              · go_wp2
                                                                go_ret
                                                                exact ⟨⟨_, rfl⟩, HB.out⟩
                                                              · go_wp2
                                                                go_roundg (gk - 1)
                                                                case measure => omega
                                                                case rel => exact ⟨j6 + 1, _, by omega, by omega, by go_num, rfl, by omega, by omega, (show _ = _ from rfl)⟩
                                                          · have hlti : ¬ (j6 : Int) < (l6 : Int) := by omega
                                                            clear hlt hk6 hj6
                                                            by_cases hlp2 : (1048576 : Int) < p2.size
                                                            · go_wp2
                                                              go_ret
                                                              exact ⟨⟨_, rfl⟩, HB.out⟩
                                                            · by_cases hsp2 : (1048576 : Int) < z6 + p2.size
                                                              · go_wp2
                                                                go_ret
                                                                exact ⟨⟨_, rfl⟩, HB.out⟩
                                                              · by_cases hlk : (1048576 : Int) < k.size
                                                                · go_wp2
                                                                  go_ret
                                                                  exact ⟨⟨_, rfl⟩, HB.out⟩
                                                                · by_cases hsk : (1048576 : Int) < (z6 + p2.size) + k.size
                                                                  · go_wp2
                                                                    go_ret
                                                                    exact ⟨⟨_, rfl⟩, HB.out⟩
                                                                  · go_wp2
                                                                    go_ret
                                                                    exact ⟨⟨_, rfl⟩, HB.out⟩

end Go.Proofs.Qxb6602338a
