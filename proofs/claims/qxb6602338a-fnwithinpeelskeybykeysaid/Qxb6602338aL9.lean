/-
  FnWithinPeelsKeyByKey (function 9), walked.
-/
import Derived.Test.Qxb6602338aBytes
import Derived.Test.Qxb6602338aKeys
namespace Go.Proofs.Qxb6602338a
open Go.RowKit

set_option maxHeartbeats 1000000 in
theorem law9 (a1 : Option Addr) (l1 c1 : Nat) (es1 : List (ByteArray × Bool)) (a2 : Option Addr) (l2 c2 : Nat) (es2 : List (ByteArray × Bool)) (k : ByteArray) (w : World) (h1 : Ents w a1 l1 es1) (h2 : Ents w a2 l2 es2) (hk : k.size ≤ maxLen) :
    Calls Try.prog 9 #[.slice a1 l1 c1, .slice a2 l2 c2, .string k] w fun e w' => e = .returned (.bool true) ∧ Below w.heap.size w w' := by
  have HE1 : Aside (Ents w a1 l1 es1) := h1
  have HE2 : Aside (Ents w a2 l2 es2) := h2
  clear h1 h2
  go_enter Try.func9, Try.ntmps9
  go_wp2_with fail
  refine (bytes30 a1 l1 c1 es1 a2 l2 c2 es2 k _ HE1.out HE2.out).mono ?_
  rintro e w1 ⟨⟨r, rfl⟩, hw⟩
  obtain rfl := hw.symm
  clear hw
  cases r
  · go_wp2_with fail
    go_ret
    exact ⟨rfl, Below.refl _ _⟩
  go_wp2_with fail
  refine (ebytes_any a1 l1 c1 es1 _ HE1.out).mono ?_
  rintro e w1 ⟨r1, rfl, hr1, hw⟩
  obtain rfl := hw.symm
  clear hw
  go_wp2_with fail
  refine (ebytes_any a2 l2 c2 es2 _ HE2.out).mono ?_
  rintro e w1 ⟨r2, rfl, hr2, hw⟩
  obtain rfl := hw.symm
  clear hw
  go_wp2_with fail
  refine (add_any r1 r2 _ hr1.1 hr2.1).mono ?_
  rintro e w1 ⟨t1, rfl, ht1, hw⟩
  obtain rfl := hw.symm
  clear hw
  go_wp2_with fail
  refine (add_any t1 k.size _ ht1.1 (by omega)).mono ?_
  rintro e w1 ⟨t2, rfl, ht2, hw⟩
  obtain rfl := hw.symm
  clear hw
  by_cases hbig : (1048576 : Int) < t2
  · go_wp2_with fail
    go_ret
    exact ⟨rfl, Below.refl _ _⟩
  have hs2 := ht2.2.2 (by omega)
  have hs := ht1.2.2 hs2.1
  have hL1 := hr1.2.2 hs.1
  have hL2 := hr2.2.2 hs.2
  clear hs hr1 hr2 ht1 ht2 hs2
  go_wp2_with fail
  refine (map_any a1 l1 c1 es1 _ HE1.out (by omega)).mono ?_
  rintro e w1 ⟨m1, rfl, hm1, hb1⟩
  have HB1 : Aside (Below w.heap.size w w1) := hb1
  have HM1 : Aside (IsM w1 m1 l1 (mapD es1)) := hm1
  clear hm1 hb1
  go_wp2_with fail
  refine (map_any a2 l2 c2 es2 _ (HE2.out.below HB1.out) (by omega)).mono ?_
  rintro e w2 ⟨m2, rfl, hm2, hb2⟩
  have HB2 : Aside (Below w.heap.size w w2) := HB1.out.trans (hb2.mono HB1.out.size)
  replace HM1 : Aside (IsM w2 m1 l1 (mapD es1)) := HM1.out.belowAll hb2
  have HM2 : Aside (IsM w2 m2 l2 (mapD es2)) := hm2
  clear hm2 hb2
  have HEb : Aside (Ents w2 a1 l1 es1) := HE1.out.below HB2.out
  go_wp2_with fail
  refine (zzWithin_any m1 m2 l1 l2 (mapD es1) (mapD es2) _ HM1.out HM2.out).mono ?_
  rintro e w3 ⟨q1, rfl, hq1, hb⟩
  have HQ1 : Aside (q1 = true ↔ Within (mapD es1) (mapD es2)) := hq1
  replace HM1 : Aside (IsM w3 m1 l1 (mapD es1)) := HM1.out.belowAll hb
  replace HM2 : Aside (IsM w3 m2 l2 (mapD es2)) := HM2.out.belowAll hb
  replace HEb : Aside (Ents w3 a1 l1 es1) := HEb.out.below hb
  have HB3 : Aside (Below w.heap.size w w3) := HB2.out.trans (hb.mono HB2.out.size)
  clear hq1 hb HB2 HB1
  obtain ⟨D1, hD1⟩ : ∃ D, D = mapD es1 := ⟨_, rfl⟩
  have HD1 : Aside (D1 = mapD es1) := hD1
  rw [← hD1] at HM1
  clear hD1
  obtain ⟨D2, hD2⟩ : ∃ D, D = mapD es2 := ⟨_, rfl⟩
  have HD2 : Aside (D2 = mapD es2) := hD2
  rw [← hD2] at HM2
  clear hD2
  have hlen := HM1.out.len
  by_cases h0 : Maps.size D1 = 0
  · have t0 : (((Maps.size D1 : Nat) : Int) == 0) = true := by simp [h0]
    obtain rfl : q1 = true := HQ1.out.2 (by rw [← HD1.out]; exact within_empty HM1.out.good h0)
    clear h0
    go_wp2_with fail
    go_ret
    exact ⟨rfl, HB3.out⟩
  have t0 : (((Maps.size D1 : Nat) : Int) == 0) = false := by simp; omega
  clear h0
  have hlook := HM1.out.lookOk hk
  by_cases hin : Maps.has D1 (kl k) = false
  · rw [hin] at hlook
    clear hin
    go_wp2_with fail
    go_ret
    exact ⟨rfl, HB3.out⟩
  have HIN : Aside (Maps.has D1 (kl k) = true) := by show _ = _; simpa using hin
  rw [HIN.out] at hlook
  clear hin
  go_wp2_with fail
  refine (wo_any a1 l1 c1 es1 k _ HEb.out (by omega)).mono ?_
  rintro e w4 ⟨m4, rfl, hm4, hb⟩
  have HM4 : Aside (IsM w4 m4 l1 (mapD (wo es1 k))) := hm4
  replace HM2 : Aside (IsM w4 m2 l2 D2) := HM2.out.belowAll hb
  have HB4 : Aside (Below w.heap.size w w4) := HB3.out.trans (hb.mono HB3.out.size)
  clear hm4 hb HB3 hlook hlen t0
  go_wp2_with fail
  refine (zzWithin_any m4 m2 l1 l2 (mapD (wo es1 k)) D2 _ HM4.out HM2.out).mono ?_
  rintro e w5 ⟨q2, rfl, hq2, hb⟩
  have hlook2 := (HM2.out.belowAll hb).look hk
  have HB5 : Aside (Below w.heap.size w w5) := HB4.out.trans (hb.mono HB4.out.size)
  have HP : Aside (q1 = (q2 && atB D2 (kl k))) := by
    show _ = _
    have h1 := HQ1.out
    have h2 := within_peel es1 k (mapD es2) (by rw [← HD1.out]; exact HIN.out)
    rw [h2, ← HD2.out, ← hq2] at h1
    cases q1
    · cases e : (q2 && atB D2 (kl k))
      · rfl
      · rw [Bool.and_eq_true] at e
        have := h1.2 e
        cases this
    · obtain ⟨e1, e2⟩ := h1.1 rfl
      rw [e1, e2]
      rfl
  obtain ⟨v, hv⟩ : ∃ v, v = atB D2 (kl k) := ⟨_, rfl⟩
  rw [← hv] at HP hlook2
  clear hq2 hb HB4 hv
  cases q2
  · obtain rfl : q1 = false := HP.out
    go_wp2_with fail
    go_ret
    exact ⟨rfl, HB5.out⟩
  · obtain rfl : q1 = v := by have := HP.out; simpa using this
    cases q1
    · go_wp2_with fail
      go_ret
      exact ⟨rfl, HB5.out⟩
    · go_wp2_with fail
      go_ret
      exact ⟨rfl, HB5.out⟩
end Go.Proofs.Qxb6602338a
