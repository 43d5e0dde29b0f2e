/-
  FnUnionLeastUpperBound (function 7), walked.
-/
import Derived.Test.Qxb6602338aBytes
import Derived.Test.Qxb6602338aKeys
namespace Go.Proofs.Qxb6602338a
open Go.RowKit

set_option maxHeartbeats 1000000 in
theorem law7 (a1 : Option Addr) (l1 c1 : Nat) (es1 : List (ByteArray × Bool)) (a2 : Option Addr) (l2 c2 : Nat) (es2 : List (ByteArray × Bool)) (a3 : Option Addr) (l3 c3 : Nat) (es3 : List (ByteArray × Bool)) (w : World) (h1 : Ents w a1 l1 es1) (h2 : Ents w a2 l2 es2) (h3 : Ents w a3 l3 es3) :
    Calls Try.prog 7 #[.slice a1 l1 c1, .slice a2 l2 c2, .slice a3 l3 c3] w fun e w' => e = .returned (.bool true) ∧ Below w.heap.size w w' := by
  have HE1 : Aside (Ents w a1 l1 es1) := h1
  have HE2 : Aside (Ents w a2 l2 es2) := h2
  have HE3 : Aside (Ents w a3 l3 es3) := h3
  clear h1 h2 h3
  go_enter Try.func7, Try.ntmps7
  go_wp2_with fail
  refine (bytes27 a1 l1 c1 es1 a2 l2 c2 es2 a3 l3 c3 es3 _ HE1.out HE2.out HE3.out).mono ?_
  rintro e w1 ⟨⟨r, rfl⟩, hw⟩
  obtain rfl := hw.symm
  clear hw
  cases r
  · go_wp2_with fail
    go_ret
    exact ⟨rfl, Below.refl _ _⟩
  go_wp2_with fail
  refine (ebytes_any a1 l1 c1 es1 _ HE1.out).mono ?_
  rintro e w1 ⟨r1, rfl, hr1, hw⟩
  obtain rfl := hw.symm
  clear hw
  go_wp2_with fail
  refine (ebytes_any a2 l2 c2 es2 _ HE2.out).mono ?_
  rintro e w1 ⟨r2, rfl, hr2, hw⟩
  obtain rfl := hw.symm
  clear hw
  go_wp2_with fail
  refine (add_any r1 r2 _ hr1.1 hr2.1).mono ?_
  rintro e w1 ⟨t1, rfl, ht1, hw⟩
  obtain rfl := hw.symm
  clear hw
  go_wp2_with fail
  refine (ebytes_any a3 l3 c3 es3 _ HE3.out).mono ?_
  rintro e w1 ⟨r3, rfl, hr3, hw⟩
  obtain rfl := hw.symm
  clear hw
  go_wp2_with fail
  refine (add_any t1 r3 _ ht1.1 hr3.1).mono ?_
  rintro e w1 ⟨t2, rfl, ht2, hw⟩
  obtain rfl := hw.symm
  clear hw
  by_cases hbig : (1048576 : Int) < t2
  · go_wp2_with fail
    go_ret
    exact ⟨rfl, Below.refl _ _⟩
  have hs2 := ht2.2.2 (by omega)
  have hs := ht1.2.2 hs2.1
  have hL1 := hr1.2.2 hs.1
  have hL2 := hr2.2.2 hs.2
  have hL3 := hr3.2.2 hs2.2
  clear hs hr1 hr2 ht1 ht2 hs2 hr3
  go_wp2_with fail
  refine (map_any a1 l1 c1 es1 _ HE1.out (by omega)).mono ?_
  rintro e w1 ⟨m1, rfl, hm1, hb1⟩
  have HB1 : Aside (Below w.heap.size w w1) := hb1
  have HM1 : Aside (IsM w1 m1 l1 (mapD es1)) := hm1
  clear hm1 hb1
  go_wp2_with fail
  refine (map_any a2 l2 c2 es2 _ (HE2.out.below HB1.out) (by omega)).mono ?_
  rintro e w2 ⟨m2, rfl, hm2, hb2⟩
  have HB2 : Aside (Below w.heap.size w w2) := HB1.out.trans (hb2.mono HB1.out.size)
  replace HM1 : Aside (IsM w2 m1 l1 (mapD es1)) := HM1.out.belowAll hb2
  have HM2 : Aside (IsM w2 m2 l2 (mapD es2)) := hm2
  clear hm2 hb2
  go_wp2_with fail
  refine (map_any a3 l3 c3 es3 _ (HE3.out.below HB2.out) (by omega)).mono ?_
  rintro e w3 ⟨m3, rfl, hm3, hb3⟩
  have HB3 : Aside (Below w.heap.size w w3) := HB2.out.trans (hb3.mono HB2.out.size)
  replace HM1 : Aside (IsM w3 m1 l1 (mapD es1)) := HM1.out.belowAll hb3
  replace HM2 : Aside (IsM w3 m2 l2 (mapD es2)) := HM2.out.belowAll hb3
  have HM3 : Aside (IsM w3 m3 l3 (mapD es3)) := hm3
  clear hm3 hb3
  obtain ⟨D1, hD1⟩ : ∃ D, D = mapD es1 := ⟨_, rfl⟩
  rw [← hD1] at HM1
  obtain ⟨D2, hD2⟩ : ∃ D, D = mapD es2 := ⟨_, rfl⟩
  rw [← hD2] at HM2
  obtain ⟨D3, hD3⟩ : ∃ D, D = mapD es3 := ⟨_, rfl⟩
  rw [← hD3] at HM3
  clear hD1 hD2 hD3 HB1 HB2
  go_wp2_with fail
  refine (zzUnion_any m1 m2 l1 l2 D1 D2 _ HM1.out HM2.out (by unfold maxLen; omega)).mono ?_
  rintro e w4 ⟨Du, rfl, hO, hH, hT, hb⟩
  obtain ⟨mu, hmu⟩ : ∃ b, b = w3.heap.size := ⟨_, rfl⟩
  rw [← hmu] at hO ⊢
  have HMu : Aside (IsM w4 (some mu) (l1 + l2) Du) := IsM.own hO
  replace HM1 : Aside (IsM w4 m1 l1 D1) := HM1.out.belowAll hb
  replace HM2 : Aside (IsM w4 m2 l2 D2) := HM2.out.belowAll hb
  replace HM3 : Aside (IsM w4 m3 l3 D3) := HM3.out.belowAll hb
  have HB4 : Aside (Below w.heap.size w w4) := HB3.out.trans (hb.mono HB3.out.size)
  have HH : Aside ((∀ x, Maps.has Du x = (Maps.has D1 x || Maps.has D2 x)) ∧ AllTrue Du) := ⟨hH, hT⟩
  clear hO hH hT hb hmu HB3
  go_wp2_with fail
  refine (zzWithin_any m1 (some mu) l1 (l1 + l2) D1 Du _ HM1.out HMu.out).mono ?_
  rintro e w5 ⟨q1, rfl, hq1, hb⟩
  obtain rfl : q1 = true := hq1.2 (within_union_left HH.out.1 HH.out.2)
  replace HM1 : Aside (IsM w5 m1 l1 D1) := HM1.out.belowAll hb
  replace HM2 : Aside (IsM w5 m2 l2 D2) := HM2.out.belowAll hb
  replace HM3 : Aside (IsM w5 m3 l3 D3) := HM3.out.belowAll hb
  replace HMu : Aside (IsM w5 (some mu) (l1 + l2) Du) := HMu.out.belowAll hb
  have HB5 : Aside (Below w.heap.size w w5) := HB4.out.trans (hb.mono HB4.out.size)
  clear hq1 hb HB4
  go_wp2_with fail
  refine (zzWithin_any m2 (some mu) l2 (l1 + l2) D2 Du _ HM2.out HMu.out).mono ?_
  rintro e w6 ⟨q2, rfl, hq2, hb⟩
  obtain rfl : q2 = true := hq2.2 (within_union_right HH.out.1 HH.out.2)
  replace HM1 : Aside (IsM w6 m1 l1 D1) := HM1.out.belowAll hb
  replace HM2 : Aside (IsM w6 m2 l2 D2) := HM2.out.belowAll hb
  replace HM3 : Aside (IsM w6 m3 l3 D3) := HM3.out.belowAll hb
  replace HMu : Aside (IsM w6 (some mu) (l1 + l2) Du) := HMu.out.belowAll hb
  have HB6 : Aside (Below w.heap.size w w6) := HB5.out.trans (hb.mono HB5.out.size)
  clear hq2 hb HB5
  go_wp2_with fail
  refine (zzWithin_any (some mu) m3 (l1 + l2) l3 Du D3 _ HMu.out HM3.out).mono ?_
  rintro e w7 ⟨q3, rfl, hq3, hb⟩
  have HQ3 : Aside (q3 = true ↔ Within D1 D3 ∧ Within D2 D3) := hq3.trans (union_within_iff HH.out.1)
  replace HM1 : Aside (IsM w7 m1 l1 D1) := HM1.out.belowAll hb
  replace HM2 : Aside (IsM w7 m2 l2 D2) := HM2.out.belowAll hb
  replace HM3 : Aside (IsM w7 m3 l3 D3) := HM3.out.belowAll hb
  have HB7 : Aside (Below w.heap.size w w7) := HB6.out.trans (hb.mono HB6.out.size)
  clear hq3 hb HB6
  go_wp2_with fail
  refine (zzWithin_any m1 m3 l1 l3 D1 D3 _ HM1.out HM3.out).mono ?_
  rintro e w8 ⟨q4, rfl, hq4, hb⟩
  have HQ4 : Aside (q4 = true ↔ Within D1 D3) := hq4
  replace HM2 : Aside (IsM w8 m2 l2 D2) := HM2.out.belowAll hb
  replace HM3 : Aside (IsM w8 m3 l3 D3) := HM3.out.belowAll hb
  have HB8 : Aside (Below w.heap.size w w8) := HB7.out.trans (hb.mono HB7.out.size)
  clear hq4 hb HB7
  cases q4
  · obtain rfl : q3 = false := by
      cases q3
      · rfl
      · have := HQ4.out.2 (HQ3.out.1 rfl).1
        cases this
    go_wp2_with fail
    go_ret
    exact ⟨rfl, HB8.out⟩
  go_wp2_with fail
  refine (zzWithin_any m2 m3 l2 l3 D2 D3 _ HM2.out HM3.out).mono ?_
  rintro e w9 ⟨q5, rfl, hq5, hb⟩
  have HB9 : Aside (Below w.heap.size w w9) := HB8.out.trans (hb.mono HB8.out.size)
  obtain rfl : q3 = q5 := by
    have h1 : Within D1 D3 := by have := HQ4.out; simpa using this
    have h3 := HQ3.out
    cases q3 <;> cases q5
    · rfl
    · have := h3.2 ⟨h1, hq5.1 rfl⟩; cases this
    · have := hq5.2 (h3.1 rfl).2; cases this
    · rfl
  clear hq5 hb HB8 HQ3 HQ4
  cases q3
  · go_wp2_with fail
    go_ret
    exact ⟨rfl, HB9.out⟩
  · go_wp2_with fail
    go_ret
    exact ⟨rfl, HB9.out⟩
end Go.Proofs.Qxb6602338a
