/-
  FnUnionPointwise (function 6), walked.
-/
import Derived.Test.Qxb6602338aBytes
import Derived.Test.Qxb6602338aKeys
namespace Go.Proofs.Qxb6602338a
open Go.RowKit

set_option maxHeartbeats 1000000 in
theorem law6 (a1 : Option Addr) (l1 c1 : Nat) (es1 : List (ByteArray × Bool)) (a2 : Option Addr) (l2 c2 : Nat) (es2 : List (ByteArray × Bool)) (k : ByteArray) (w : World) (h1 : Ents w a1 l1 es1) (h2 : Ents w a2 l2 es2) (hk : k.size ≤ maxLen) :
    Calls Try.prog 6 #[.slice a1 l1 c1, .slice a2 l2 c2, .string k] w fun e w' => e = .returned (.bool true) ∧ Below w.heap.size w w' := by
  have HE1 : Aside (Ents w a1 l1 es1) := h1
  have HE2 : Aside (Ents w a2 l2 es2) := h2
  clear h1 h2
  go_enter Try.func6, Try.ntmps6
  go_wp2_with fail
  refine (bytes25 a1 l1 c1 es1 a2 l2 c2 es2 k _ HE1.out HE2.out).mono ?_
  rintro e w1 ⟨⟨r, rfl⟩, hw⟩
  obtain rfl := hw.symm
  clear hw
  cases r
  · go_wp2_with fail
    go_ret
    exact ⟨rfl, Below.refl _ _⟩
  go_wp2_with fail
  refine (ebytes_any a1 l1 c1 es1 _ HE1.out).mono ?_
  rintro e w1 ⟨r1, rfl, hr1, hw⟩
  obtain rfl := hw.symm
  clear hw
  go_wp2_with fail
  refine (ebytes_any a2 l2 c2 es2 _ HE2.out).mono ?_
  rintro e w1 ⟨r2, rfl, hr2, hw⟩
  obtain rfl := hw.symm
  clear hw
  go_wp2_with fail
  refine (add_any r1 r2 _ hr1.1 hr2.1).mono ?_
  rintro e w1 ⟨t1, rfl, ht1, hw⟩
  obtain rfl := hw.symm
  clear hw
  go_wp2_with fail
  refine (add_any t1 k.size _ ht1.1 (by omega)).mono ?_
  rintro e w1 ⟨t2, rfl, ht2, hw⟩
  obtain rfl := hw.symm
  clear hw
  by_cases hbig : (1048576 : Int) < t2
  · go_wp2_with fail
    go_ret
    exact ⟨rfl, Below.refl _ _⟩
  have hs2 := ht2.2.2 (by omega)
  have hs := ht1.2.2 hs2.1
  have hL1 := hr1.2.2 hs.1
  have hL2 := hr2.2.2 hs.2
  clear hs hr1 hr2 ht1 ht2 hs2
  go_wp2_with fail
  refine (map_any a1 l1 c1 es1 _ HE1.out (by omega)).mono ?_
  rintro e w1 ⟨m1, rfl, hm1, hb1⟩
  have HB1 : Aside (Below w.heap.size w w1) := hb1
  have HM1 : Aside (IsM w1 m1 l1 (mapD es1)) := hm1
  clear hm1 hb1
  go_wp2_with fail
  refine (map_any a2 l2 c2 es2 _ (HE2.out.below HB1.out) (by omega)).mono ?_
  rintro e w2 ⟨m2, rfl, hm2, hb2⟩
  have HB2 : Aside (Below w.heap.size w w2) := HB1.out.trans (hb2.mono HB1.out.size)
  replace HM1 : Aside (IsM w2 m1 l1 (mapD es1)) := HM1.out.belowAll hb2
  have HM2 : Aside (IsM w2 m2 l2 (mapD es2)) := hm2
  clear hm2 hb2
  obtain ⟨D1, hD1⟩ : ∃ D, D = mapD es1 := ⟨_, rfl⟩
  rw [← hD1] at HM1
  obtain ⟨D2, hD2⟩ : ∃ D, D = mapD es2 := ⟨_, rfl⟩
  rw [← hD2] at HM2
  clear hD1 hD2 HB1
  have hq28 : ∀ (w : World) (r : Option Nat), (binOp .eql 28 (.map r) (.map none)).run Try.prog w = .ok (.bool r.isNone) w := fun w r => run_eql_map_nil w _ _ _ r Try.underlying28
  obtain ⟨v1, hv1⟩ : ∃ v, v = atB D1 (kl k) := ⟨_, rfl⟩
  obtain ⟨v2, hv2⟩ : ∃ v, v = atB D2 (kl k) := ⟨_, rfl⟩
  obtain ⟨p1, hp1⟩ : ∃ v, v = Maps.has D1 (kl k) := ⟨_, rfl⟩
  obtain ⟨p2, hp2⟩ : ∃ v, v = Maps.has D2 (kl k) := ⟨_, rfl⟩
  have HV : Aside (v1 = atB D1 (kl k) ∧ v2 = atB D2 (kl k) ∧ p1 = Maps.has D1 (kl k) ∧ p2 = Maps.has D2 (kl k)) := ⟨hv1, hv2, hp1, hp2⟩
  clear hv1 hv2 hp1 hp2
  have hlook1 := HM1.out.lookOk hk
  have hlook2 := HM2.out.lookOk hk
  rw [← HV.out.1, ← HV.out.2.2.1] at hlook1
  rw [← HV.out.2.1, ← HV.out.2.2.2] at hlook2
  have hlen1 := HM1.out.len
  have hlen2 := HM2.out.len
  go_wp2_with fail
  refine (zzUnion_any m1 m2 l1 l2 D1 D2 _ HM1.out HM2.out (by unfold maxLen; omega)).mono ?_
  rintro e w3 ⟨Du, rfl, hO, hH, hT, hb⟩
  obtain ⟨mu, hmu⟩ : ∃ b, b = w2.heap.size := ⟨_, rfl⟩
  have HN : Aside ((∀ b, m1 = some b → b ≠ mu) ∧ (∀ b, m2 = some b → b ≠ mu)) := ⟨fun b e h => by have := HM1.out.lt e; omega, fun b e h => by have := HM2.out.lt e; omega⟩
  rw [← hmu] at hO ⊢
  have HO : Aside (w3.ownsMap Try.prog 9 (plainElem Try.prog 4) mu (l1 + l2) Du) := hO
  replace HM1 : Aside (IsM w3 m1 l1 D1) := HM1.out.belowAll hb
  replace HM2 : Aside (IsM w3 m2 l2 D2) := HM2.out.belowAll hb
  have HB3 : Aside (Below w.heap.size w w3) := HB2.out.trans (hb.mono HB2.out.size)
  have HBmu : Aside (w.heap.size ≤ mu) := by show _ ≤ _; rw [hmu]; exact HB2.out.size
  have hlooku := (IsM.own hO).lookOk hk
  rw [hT.at_eq, hH (kl k), ← HV.out.2.2.1, ← HV.out.2.2.2] at hlooku
  clear hO hH hT hb hmu HB2 hlook1 hlook2 hlen1 hlen2
  have HDEL : Aside (∃ w4, (∀ ty, (Builtin.delete_ #[28, 9] ty #[.map (some mu), .string k]).run Try.prog w3 = .ok (.tuple #[]) w4) ∧ w3.mapTurned w4 mu) := by
    obtain ⟨w4, hrun, _, ht⟩ := HO.out.drop law Try.underlying28 (keyOf_kl hk) 0
    exact ⟨w4, fun ty => hrun, ht⟩
  obtain ⟨w4, hdel, ht⟩ := HDEL.out
  replace HM1 : Aside (IsM w4 m1 l1 D1) := HM1.out.grown ht.grown (fun b e h => by cases h; exact HN.out.1 _ e rfl)
  replace HM2 : Aside (IsM w4 m2 l2 D2) := HM2.out.grown ht.grown (fun b e h => by cases h; exact HN.out.2 _ e rfl)
  have HB4 : Aside (Below w.heap.size w w4) := HB3.out.grown ht.grown HB3.out.size (fun b e => by cases e; exact HBmu.out)
  have hlook1 := HM1.out.lookOk hk
  have hlook2 := HM2.out.lookOk hk
  rw [← HV.out.1, ← HV.out.2.2.1] at hlook1
  rw [← HV.out.2.1, ← HV.out.2.2.2] at hlook2
  have hlen1 := HM1.out.len
  have hlen2 := HM2.out.len
  clear ht HDEL HB3
  cases p1 <;> cases p2 <;> cases v1 <;> cases v2
  all_goals
    go_wp2_with fail
    go_ret
    exact ⟨rfl, HB4.out⟩
end Go.Proofs.Qxb6602338a
