/-
  FnWithinEmptyAndSize (function 10), walked.
-/
import Derived.Test.Qxb6602338aBytes
import Derived.Test.Qxb6602338aKeys
namespace Go.Proofs.Qxb6602338a
open Go.RowKit

set_option maxHeartbeats 1000000 in
theorem law10 (a1 : Option Addr) (l1 c1 : Nat) (es1 : List (ByteArray × Bool)) (a2 : Option Addr) (l2 c2 : Nat) (es2 : List (ByteArray × Bool)) (w : World) (h1 : Ents w a1 l1 es1) (h2 : Ents w a2 l2 es2) :
    Calls Try.prog 10 #[.slice a1 l1 c1, .slice a2 l2 c2] w fun e w' => e = .returned (.bool true) ∧ Below w.heap.size w w' := by
  have HE1 : Aside (Ents w a1 l1 es1) := h1
  have HE2 : Aside (Ents w a2 l2 es2) := h2
  clear h1 h2
  go_enter Try.func10, Try.ntmps10
  go_wp2_with fail
  refine (bytes31 a1 l1 c1 es1 a2 l2 c2 es2 _ HE1.out HE2.out).mono ?_
  rintro e w1 ⟨⟨r, rfl⟩, hw⟩
  obtain rfl := hw.symm
  clear hw
  cases r
  · go_wp2_with fail
    go_ret
    exact ⟨rfl, Below.refl _ _⟩
  go_wp2_with fail
  refine (ebytes_any a1 l1 c1 es1 _ HE1.out).mono ?_
  rintro e w1 ⟨r1, rfl, hr1, hw⟩
  obtain rfl := hw.symm
  clear hw
  go_wp2_with fail
  refine (ebytes_any a2 l2 c2 es2 _ HE2.out).mono ?_
  rintro e w1 ⟨r2, rfl, hr2, hw⟩
  obtain rfl := hw.symm
  clear hw
  go_wp2_with fail
  refine (add_any r1 r2 _ hr1.1 hr2.1).mono ?_
  rintro e w1 ⟨t1, rfl, ht1, hw⟩
  obtain rfl := hw.symm
  clear hw
  by_cases hbig : (1048576 : Int) < t1
  · go_wp2_with fail
    go_ret
    exact ⟨rfl, Below.refl _ _⟩
  have hs := ht1.2.2 (by omega)
  have hL1 := hr1.2.2 hs.1
  have hL2 := hr2.2.2 hs.2
  clear hs hr1 hr2 ht1
  go_wp2_with fail
  refine (map_any a1 l1 c1 es1 _ HE1.out (by omega)).mono ?_
  rintro e w1 ⟨m1, rfl, hm1, hb1⟩
  have HB1 : Aside (Below w.heap.size w w1) := hb1
  have HM1 : Aside (IsM w1 m1 l1 (mapD es1)) := hm1
  clear hm1 hb1
  go_wp2_with fail
  refine (map_any a2 l2 c2 es2 _ (HE2.out.below HB1.out) (by omega)).mono ?_
  rintro e w2 ⟨m2, rfl, hm2, hb2⟩
  have HB2 : Aside (Below w.heap.size w w2) := HB1.out.trans (hb2.mono HB1.out.size)
  replace HM1 : Aside (IsM w2 m1 l1 (mapD es1)) := HM1.out.belowAll hb2
  have HM2 : Aside (IsM w2 m2 l2 (mapD es2)) := hm2
  clear hm2 hb2
  obtain ⟨D1, hD1⟩ : ∃ D, D = mapD es1 := ⟨_, rfl⟩
  rw [← hD1] at HM1
  obtain ⟨D2, hD2⟩ : ∃ D, D = mapD es2 := ⟨_, rfl⟩
  rw [← hD2] at HM2
  clear hD1 hD2 HB1
  go_wp2_with fail
  refine (zzWithin_any m1 none l1 0 D1 (.map []) _ HM1.out (IsM.nil _ _)).mono ?_
  rintro e w3 ⟨q1, rfl, hq1, hb3⟩
  have HS : (((Maps.size D1 : Nat) : Int) == 0) = q1 := by
    have h0 := within_nil_iff HM1.out.good
    cases q1
    · have : ¬ Within D1 (.map []) := fun h => by have := hq1.2 h; cases this
      rw [h0] at this
      simp [this]
    · have := h0.1 (hq1.1 rfl)
      simp [this]
  have hlen := (HM1.out.belowAll hb3).len
  replace HM1 : Aside (IsM w3 m1 l1 D1) := HM1.out.belowAll hb3
  replace HM2 : Aside (IsM w3 m2 l2 D2) := HM2.out.belowAll hb3
  have HB3 : Aside (Below w.heap.size w w3) := HB2.out.trans (hb3.mono HB2.out.size)
  clear hq1 hb3 HB2
  go_wp2_with fail
  refine (zzWithin_any none m2 0 l2 (.map []) D2 _ (IsM.nil _ _) HM2.out).mono ?_
  rintro e w4 ⟨q2, rfl, hq2, hb4⟩
  obtain rfl : q2 = true := hq2.2 (nil_within D2)
  replace HM1 : Aside (IsM w4 m1 l1 D1) := HM1.out.belowAll hb4
  replace HM2 : Aside (IsM w4 m2 l2 D2) := HM2.out.belowAll hb4
  have HB4 : Aside (Below w.heap.size w w4) := HB3.out.trans (hb4.mono HB3.out.size)
  clear hq2 hb4 HB3 hlen HS
  go_wp2_with fail
  refine (zzWithin_any m1 m2 l1 l2 D1 D2 _ HM1.out HM2.out).mono ?_
  rintro e w5 ⟨q3, rfl, hq3, hb5⟩
  have HB5 : Aside (Below w.heap.size w w5) := HB4.out.trans (hb5.mono HB4.out.size)
  have hlen1 := (HM1.out.belowAll hb5).len
  have hlen2 := (HM2.out.belowAll hb5).len
  have HW : Aside (q3 = true → Maps.size D1 ≤ Maps.size D2) := fun h => within_size HM1.out.good HM2.out.good (hq3.1 h)
  clear hq3 hb5 HB4
  cases q3
  · go_wp2_with fail
    go_ret
    exact ⟨rfl, HB5.out⟩
  · have hle : ((Maps.size D1 : Nat) : Int) ≤ ((Maps.size D2 : Nat) : Int) := by have := HW.out rfl; omega
    go_wp2_with fail
    go_ret
    exact ⟨rfl, HB5.out⟩
end Go.Proofs.Qxb6602338a
