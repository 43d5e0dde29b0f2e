/-
  ZZReaches (17), zzBuildWith (16), zzScopeBytes (14), walked.
-/
import Derived.Test.Qxb6602338aReach
import Derived.Test.Qxb6602338aEnts
import Derived.Deep.RegionHeld3
namespace Go.Proofs.Qxb6602338a
open Go.RowKit

/-! ### a region that holds calls: what is held of the world -/
theorem heldS0 (W : World) : (∀ b o, b < W.heap.size → W.drew.cell? ⟨b, o, none⟩ = W.cell? ⟨b, o, none⟩) ∧ Below W.heap.size W W.drew := ⟨fun _ _ _ => rfl, (Below.refl _ _).drew⟩
theorem heldB {W w1 : World} {A : Prop} (h : A ∧ Below W.heap.size W w1) : Below W.heap.size W w1 := h.2
theorem keepS {W w1 w2 : World} (hb : Below w1.heap.size w1 w2) (h : (∀ b o, b < W.heap.size → w1.cell? ⟨b, o, none⟩ = W.cell? ⟨b, o, none⟩) ∧ Below W.heap.size W w1) :
    (∀ b o, b < W.heap.size → w2.cell? ⟨b, o, none⟩ = W.cell? ⟨b, o, none⟩) ∧ Below W.heap.size W w2 :=
  have t := h.2.trans (hb.mono h.2.size)
  ⟨fun b o hb' => t.cell (p := ⟨b, o, none⟩) hb', t⟩

set_option maxHeartbeats 1000000 in
theorem zzReach_any (m1 m2 m3 : Option Nat) (rs ev ru ac : Bool) (u p : ByteArray) (ch co : Int) (m1' m2' m3' : Option Nat) (rs' ev' ru' ac' : Bool) (u' p' : ByteArray) (ch' co' : Int) (n1 n2 n1' n2' n3' : Nat) (D1 D2 E1 E2 E3 : DataW Unit) (c : Bool) (w : World)
    (h1 : IsM w m1 n1 D1) (h2 : IsM w m2 n2 D2) (g1 : IsM w m1' n1' E1) (g2 : IsM w m2' n2' E2) (g3 : IsM w m3' n3' E3) (hc : (bits BinOp.and IntKind.u8 ch (bits BinOp.or IntKind.u8 ch' co') != 0) = c) :
    Calls Try.prog 17 #[.agg #[.map m1, .bool rs, .string u, .bool ev, .map m2, .bool ru, .map m3, .string p, .int .u8 ch, .int .u8 co, .bool ac], .agg #[.map m1', .bool rs', .string u', .bool ev', .map m2', .bool ru', .map m3', .string p', .int .u8 ch', .int .u8 co', .bool ac']] w fun e w' => ∃ r : Bool, e = .returned (.bool r) ∧ (r = true ↔ ReachP c D1 D2 (fRole rs E1 E2 E3) (atB E2) (sameU u u') (flag ev ev' ru' ac)) ∧ Below w.heap.size w w' := by
  have HB1 : Aside (Below w.heap.size w ((w.alloc (.cells #[.map m1, .bool rs, .string u, .bool ev, .map m2, .bool ru, .map m3, .string p, .int .u8 ch, .int .u8 co, .bool ac] 32)).alloc (.cells #[.map m1', .bool rs', .string u', .bool ev', .map m2', .bool ru', .map m3', .string p', .int .u8 ch', .int .u8 co', .bool ac'] 32))) := ((Below.refl _ _).alloc (Nat.le_refl _) _).alloc (by simp) _
  have H1 : Aside (IsM w m1 n1 D1) := h1
  have H2 : Aside (IsM w m2 n2 D2) := h2
  have G1 : Aside (IsM w m1' n1' E1) := g1
  have G2 : Aside (IsM w m2' n2' E2) := g2
  have G3 : Aside (IsM w m3' n3' E3) := g3
  have HC : Aside ((bits BinOp.and IntKind.u8 ch (bits BinOp.or IntKind.u8 ch' co') != 0) = c) := hc
  clear h1 h2 g1 g2 g3 hc
  go_enter Try.func17, Try.ntmps17
  go_wp2_with fail
  refine (reach_any m1 m2 m3 rs ev ru ac u p ch co m1' m2' m3' rs' ev' ru' ac' u' p' ch' co' n1 n2 n1' n2' n3' D1 D2 E1 E2 E3 c _ (by exact H1.out.belowAll HB1.out) (by exact H2.out.belowAll HB1.out) (by exact G1.out.belowAll HB1.out) (by exact G2.out.belowAll HB1.out) (by exact G3.out.belowAll HB1.out) HC.out).mono ?_
  rintro e w1 ⟨r, rfl, hr, hb⟩
  have HR : Aside _ := hr
  have HB2 : Aside (Below w.heap.size w w1) := HB1.out.trans (hb.mono HB1.out.size)
  clear hr hb
  go_wp2_with fail
  go_ret
  exact ⟨r, rfl, HR.out, HB2.out⟩

set_option maxHeartbeats 1000000 in
theorem build_any (a1 a2 a3 : Option Addr) (l1 c1 l2 c2 l3 c3 : Nat) (rs ev ru ac : Bool) (u p : ByteArray) (ch co : Int) (m1 m2 m3 : Option Nat) (w : World) :
    Calls Try.prog 16 #[.agg #[.slice a1 l1 c1, .bool rs, .string u, .bool ev, .slice a2 l2 c2, .bool ru, .slice a3 l3 c3, .string p, .int .u8 ch, .int .u8 co, .bool ac], .map m1, .map m2, .map m3] w fun e w' => e = .returned (.agg #[.map m1, .bool rs, .string u, .bool ev, .map m2, .bool ru, .map m3, .string p, .int .u8 ch, .int .u8 co, .bool ac]) ∧ Below w.heap.size w w' := by
  go_enter Try.func16, Try.ntmps16
  go_wp2_with fail
  refine (new_any m1 m2 m3 rs ev ru ac u p ch co _).mono ?_
  rintro e w1 ⟨rfl, rfl⟩
  go_wp2_with fail
  exact bodyPost_ret (v := .agg #[.map m1, .bool rs, .string u, .bool ev, .map m2, .bool ru, .map m3, .string p, .int .u8 ch, .int .u8 co, .bool ac]) (by simp [results, Try.results16, go_sem]) rfl ⟨rfl, (((Below.refl _ _).alloc (Nat.le_refl _) _).alloc (by simp) _).alloc (by simp; omega) _⟩

/-- what zzScopeBytes' answer r is good for -/
def ScOk (l1 l2 l3 : Nat) (r : Int) : Prop := 0 ≤ r ∧ r ≤ 2097152 ∧ (r ≤ 1048576 → (l1 : Int) ≤ 1048576 ∧ (l2 : Int) ≤ 1048576 ∧ (l3 : Int) ≤ 1048576)

set_option maxHeartbeats 1000000 in
theorem scbytes_any (a1 a2 a3 : Option Addr) (l1 c1 l2 c2 l3 c3 : Nat) (e1 e2 e3 : List (ByteArray × Bool)) (rs ev ru ac : Bool) (u p : ByteArray) (ch co : Int) (w : World) (h1 : Ents w a1 l1 e1) (h2 : Ents w a2 l2 e2) (h3 : Ents w a3 l3 e3) :
    Calls Try.prog 14 #[.agg #[.slice a1 l1 c1, .bool rs, .string u, .bool ev, .slice a2 l2 c2, .bool ru, .slice a3 l3 c3, .string p, .int .u8 ch, .int .u8 co, .bool ac]] w fun e w' => ∃ r : Int, e = .returned (.int .i64 r) ∧ ScOk l1 l2 l3 r ∧ Below w.heap.size w w' := by
  have HB : Aside (Below w.heap.size w (w.alloc (.cells #[.slice a1 l1 c1, .bool rs, .string u, .bool ev, .slice a2 l2 c2, .bool ru, .slice a3 l3 c3, .string p, .int .u8 ch, .int .u8 co, .bool ac] 24))) := (Below.refl _ _).alloc (Nat.le_refl _) _
  have K0 : (w.alloc (.cells #[.slice a1 l1 c1, .bool rs, .string u, .bool ev, .slice a2 l2 c2, .bool ru, .slice a3 l3 c3, .string p, .int .u8 ch, .int .u8 co, .bool ac] 24)).cell? ⟨w.heap.size, 0, none⟩ = some (.slice a1 l1 c1) := by go_simp
  have K2 : (w.alloc (.cells #[.slice a1 l1 c1, .bool rs, .string u, .bool ev, .slice a2 l2 c2, .bool ru, .slice a3 l3 c3, .string p, .int .u8 ch, .int .u8 co, .bool ac] 24)).cell? ⟨w.heap.size, 2, none⟩ = some (.string u) := by go_simp
  have K4 : (w.alloc (.cells #[.slice a1 l1 c1, .bool rs, .string u, .bool ev, .slice a2 l2 c2, .bool ru, .slice a3 l3 c3, .string p, .int .u8 ch, .int .u8 co, .bool ac] 24)).cell? ⟨w.heap.size, 4, none⟩ = some (.slice a2 l2 c2) := by go_simp
  have K6 : (w.alloc (.cells #[.slice a1 l1 c1, .bool rs, .string u, .bool ev, .slice a2 l2 c2, .bool ru, .slice a3 l3 c3, .string p, .int .u8 ch, .int .u8 co, .bool ac] 24)).cell? ⟨w.heap.size, 6, none⟩ = some (.slice a3 l3 c3) := by go_simp
  have K7 : (w.alloc (.cells #[.slice a1 l1 c1, .bool rs, .string u, .bool ev, .slice a2 l2 c2, .bool ru, .slice a3 l3 c3, .string p, .int .u8 ch, .int .u8 co, .bool ac] 24)).cell? ⟨w.heap.size, 7, none⟩ = some (.string p) := by go_simp
  have hlt : w.heap.size < (w.alloc (.cells #[.slice a1 l1 c1, .bool rs, .string u, .bool ev, .slice a2 l2 c2, .bool ru, .slice a3 l3 c3, .string p, .int .u8 ch, .int .u8 co, .bool ac] 24)).heap.size := by simp
  have HE1 : Aside (Ents w a1 l1 e1) := h1
  have HE2 : Aside (Ents w a2 l2 e2) := h2
  have HE3 : Aside (Ents w a3 l3 e3) := h3
  clear h1 h2 h3
  go_enter Try.func14, Try.ntmps14
  go_wp2_with fail
  obtain ⟨W, hW⟩ : ∃ W, W = w.alloc (.cells #[.slice a1 l1 c1, .bool rs, .string u, .bool ev, .slice a2 l2 c2, .bool ru, .slice a3 l3 c3, .string p, .int .u8 ch, .int .u8 co, .bool ac] 24) := ⟨_, rfl⟩
  rw [← hW] at HB K0 K2 K4 K6 K7 hlt ⊢
  clear hW
  go_region_held3 (fun w' => (∀ b o, b < W.heap.size → w'.cell? ⟨b, o, none⟩ = W.cell? ⟨b, o, none⟩) ∧ Below W.heap.size W w') (first | assumption | exact heldS0 _ | exact keepS (by assumption) (by assumption))
    (first
      | (go_at_call_of 23 (Value.slice a1 l1 c1); refine (ebytes_any a1 l1 c1 e1 _ (by exact (HE1.out.below HB.out).below (heldB (by assumption)))).mono ?_; rintro e w' ⟨r1, rfl, hr1, hw⟩; obtain rfl := hw.symm)
      | (go_at_call_of 23 (Value.slice a2 l2 c2); refine (ebytes_any a2 l2 c2 e2 _ (by exact (HE2.out.below HB.out).below (heldB (by assumption)))).mono ?_; rintro e w' ⟨r2, rfl, hr2, hw⟩; obtain rfl := hw.symm)
      | (go_at_call 13; refine (add_any _ _ _ hr1.1 hr2.1).mono ?_; rintro e w' ⟨t1, rfl, ht1, hw⟩; obtain rfl := hw.symm))
  have HBd : Aside (Below w.heap.size w W.drew) := HB.out.drew
  go_wp2_with fail
  refine (ebytes_any a3 l3 c3 e3 _ (by exact HE3.out.below HBd.out)).mono ?_
  rintro e w' ⟨r3, rfl, hr3, hw⟩
  obtain rfl := hw.symm
  go_wp2_with fail
  refine (add_any t1 r3 _ ht1.1 hr3.1).mono ?_
  rintro e w' ⟨t2, rfl, ht2, hw⟩
  obtain rfl := hw.symm
  go_wp2_with fail
  refine (add_any t2 u.size _ ht2.1 (by omega)).mono ?_
  rintro e w' ⟨t3, rfl, ht3, hw⟩
  obtain rfl := hw.symm
  go_wp2_with fail
  refine (add_any t3 p.size _ ht3.1 (by omega)).mono ?_
  rintro e w' ⟨t4, rfl, ht4, hw⟩
  obtain rfl := hw.symm
  have HT : Aside (ScOk l1 l2 l3 t4) := ⟨ht4.1, ht4.2.1, fun h => by
    have g3 := ht3.2.2 (ht4.2.2 h).1
    have g2 := ht2.2.2 g3.1
    have g1 := ht1.2.2 g2.1
    exact ⟨hr1.2.2 g1.1, hr2.2.2 g1.2, hr3.2.2 g2.2⟩⟩
  clear hr1 hr2 hr3 ht1 ht2 ht3 ht4
  go_wp2_with fail
  go_ret
  exact ⟨t4, rfl, HT.out, HBd.out⟩

end Go.Proofs.Qxb6602338a
