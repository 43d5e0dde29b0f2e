/-
  FnUnionSizeBounds (function 8), walked.
-/
import Derived.Test.Qxb6602338aBytes
import Derived.Test.Qxb6602338aKeys
namespace Go.Proofs.Qxb6602338a
open Go.RowKit

set_option maxHeartbeats 1000000 in
theorem law8 (a1 : Option Addr) (l1 c1 : Nat) (es1 : List (ByteArray × Bool)) (a2 : Option Addr) (l2 c2 : Nat) (es2 : List (ByteArray × Bool)) (w : World) (h1 : Ents w a1 l1 es1) (h2 : Ents w a2 l2 es2) :
    Calls Try.prog 8 #[.slice a1 l1 c1, .slice a2 l2 c2] w fun e w' => e = .returned (.bool true) ∧ Below w.heap.size w w' := by
  have HE1 : Aside (Ents w a1 l1 es1) := h1
  have HE2 : Aside (Ents w a2 l2 es2) := h2
  clear h1 h2
  go_enter Try.func8, Try.ntmps8
  go_wp2_with fail
  refine (bytes29 a1 l1 c1 es1 a2 l2 c2 es2 _ HE1.out HE2.out).mono ?_
  rintro e w1 ⟨⟨r, rfl⟩, hw⟩
  obtain rfl := hw.symm
  clear hw
  cases r
  · go_wp2_with fail
    go_ret
    exact ⟨rfl, Below.refl _ _⟩
  go_wp2_with fail
  refine (ebytes_any a1 l1 c1 es1 _ HE1.out).mono ?_
  rintro e w1 ⟨r1, rfl, hr1, hw⟩
  obtain rfl := hw.symm
  clear hw
  go_wp2_with fail
  refine (ebytes_any a2 l2 c2 es2 _ HE2.out).mono ?_
  rintro e w1 ⟨r2, rfl, hr2, hw⟩
  obtain rfl := hw.symm
  clear hw
  go_wp2_with fail
  refine (add_any r1 r2 _ hr1.1 hr2.1).mono ?_
  rintro e w1 ⟨t1, rfl, ht1, hw⟩
  obtain rfl := hw.symm
  clear hw
  by_cases hbig : (1048576 : Int) < t1
  · go_wp2_with fail
    go_ret
    exact ⟨rfl, Below.refl _ _⟩
  have hs := ht1.2.2 (by omega)
  have hL1 := hr1.2.2 hs.1
  have hL2 := hr2.2.2 hs.2
  clear hs hr1 hr2 ht1
  go_wp2_with fail
  refine (map_any a1 l1 c1 es1 _ HE1.out (by omega)).mono ?_
  rintro e w1 ⟨m1, rfl, hm1, hb1⟩
  have HB1 : Aside (Below w.heap.size w w1) := hb1
  have HM1 : Aside (IsM w1 m1 l1 (mapD es1)) := hm1
  clear hm1 hb1
  go_wp2_with fail
  refine (map_any a2 l2 c2 es2 _ (HE2.out.below HB1.out) (by omega)).mono ?_
  rintro e w2 ⟨m2, rfl, hm2, hb2⟩
  have HB2 : Aside (Below w.heap.size w w2) := HB1.out.trans (hb2.mono HB1.out.size)
  replace HM1 : Aside (IsM w2 m1 l1 (mapD es1)) := HM1.out.belowAll hb2
  have HM2 : Aside (IsM w2 m2 l2 (mapD es2)) := hm2
  clear hm2 hb2
  obtain ⟨D1, hD1⟩ : ∃ D, D = mapD es1 := ⟨_, rfl⟩
  rw [← hD1] at HM1
  obtain ⟨D2, hD2⟩ : ∃ D, D = mapD es2 := ⟨_, rfl⟩
  rw [← hD2] at HM2
  clear hD1 hD2 HB1
  go_wp2_with fail
  refine (zzUnion_any m1 m2 l1 l2 D1 D2 _ HM1.out HM2.out (by unfold maxLen; omega)).mono ?_
  rintro e w3 ⟨Du, rfl, hODu, hHDu, hTDu, hBDu⟩
  obtain ⟨mu, hmu⟩ : ∃ b, b = w2.heap.size := ⟨_, rfl⟩
  rw [← hmu] at hODu ⊢
  have HMu : Aside (IsM w3 (some mu) (l1 + l2) Du) := IsM.own hODu
  replace HM1 : Aside (IsM w3 m1 l1 D1) := HM1.out.belowAll hBDu
  replace HM2 : Aside (IsM w3 m2 l2 D2) := HM2.out.belowAll hBDu
  have HB3 : Aside (Below w.heap.size w w3) := HB2.out.trans (hBDu.mono HB2.out.size)
  have HH : Aside (∀ x, Maps.has Du x = (Maps.has D1 x || Maps.has D2 x)) := hHDu
  have hlenu := HMu.out.len
  have hlen1 := HM1.out.len
  have hlen2 := HM2.out.len
  have hz1 : ¬ ((Maps.size Du : Nat) : Int) < ((Maps.size D1 : Nat) : Int) := by have := size_le_of_has HM1.out.good HMu.out.good (fun k hk => by rw [HH.out k, hk]; rfl); omega
  have hz2 : ¬ ((Maps.size Du : Nat) : Int) < ((Maps.size D2 : Nat) : Int) := by have := size_le_of_has HM2.out.good HMu.out.good (fun k hk => by rw [HH.out k, hk]; simp); omega
  have hz3 : ¬ ((Maps.size D1 : Nat) : Int) + ((Maps.size D2 : Nat) : Int) < ((Maps.size Du : Nat) : Int) := by have := size_union_le HMu.out.good HM1.out.good HM2.out.good HH.out; omega
  have hs1 := HM1.out.size_le
  have hs2 := HM2.out.size_le
  clear hODu hHDu hTDu hBDu hmu HB2
  go_wp2_with fail
  refine (zzUnion_any m2 m1 l2 l1 D2 D1 _ HM2.out HM1.out (by unfold maxLen; omega)).mono ?_
  rintro e w4 ⟨D4, rfl, hO4, hH4, hT4, hB4⟩
  have hsz4 : (((Maps.size D4 : Nat) : Int) == ((Maps.size Du : Nat) : Int)) = true := by
    have := size_eq_of_has (IsM.own hO4).good HMu.out.good (fun k => by rw [hH4 k, HH.out k, Bool.or_comm])
    simp [this]
  have hlen4 := (IsM.own hO4).len
  replace HM1 : Aside (IsM w4 m1 l1 D1) := HM1.out.belowAll hB4
  replace HM2 : Aside (IsM w4 m2 l2 D2) := HM2.out.belowAll hB4
  replace HMu : Aside (IsM w4 (some mu) (l1 + l2) Du) := HMu.out.belowAll hB4
  have HB4 : Aside (Below w.heap.size w w4) := HB3.out.trans (hB4.mono HB3.out.size)
  clear hO4 hH4 hT4 hB4 HB3 hlenu hlen1 hlen2 hz1 hz2 hz3
  go_wp2_with fail
  refine (zzUnion_any (some mu) m1 (l1 + l2) l1 Du D1 _ HMu.out HM1.out (by unfold maxLen; omega)).mono ?_
  rintro e w5 ⟨D5, rfl, hO5, hH5, hT5, hB5⟩
  have hsz5 : (((Maps.size D5 : Nat) : Int) == ((Maps.size Du : Nat) : Int)) = true := by
    have := size_eq_of_has (IsM.own hO5).good HMu.out.good (fun k => by rw [hH5 k, HH.out k]; cases Maps.has D1 k <;> cases Maps.has D2 k <;> rfl)
    simp [this]
  have hlen5 := (IsM.own hO5).len
  replace HM2 : Aside (IsM w5 m2 l2 D2) := HM2.out.belowAll hB5
  replace HMu : Aside (IsM w5 (some mu) (l1 + l2) Du) := HMu.out.belowAll hB5
  have HB5 : Aside (Below w.heap.size w w5) := HB4.out.trans (hB5.mono HB4.out.size)
  clear hO5 hH5 hT5 hB5 HB4 hlen4 hsz4
  go_wp2_with fail
  refine (zzUnion_any m2 (some mu) l2 (l1 + l2) D2 Du _ HM2.out HMu.out (by unfold maxLen; omega)).mono ?_
  rintro e w6 ⟨D6, rfl, hO6, hH6, hT6, hB6⟩
  have hsz6 : (((Maps.size D6 : Nat) : Int) == ((Maps.size Du : Nat) : Int)) = true := by
    have := size_eq_of_has (IsM.own hO6).good HMu.out.good (fun k => by rw [hH6 k, HH.out k]; cases Maps.has D1 k <;> cases Maps.has D2 k <;> rfl)
    simp [this]
  have hlen6 := (IsM.own hO6).len
  have HB6 : Aside (Below w.heap.size w w6) := HB5.out.trans (hB6.mono HB5.out.size)
  clear hO6 hH6 hT6 hB6 HB5 hlen5 hsz5
  go_wp2_with fail
  go_ret
  exact ⟨rfl, HB6.out⟩
end Go.Proofs.Qxb6602338a
