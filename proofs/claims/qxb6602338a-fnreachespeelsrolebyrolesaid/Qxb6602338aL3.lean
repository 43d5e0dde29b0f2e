/-
  FnReachesPeelsRoleByRole (function 3), walked.
-/
import Derived.Test.Qxb6602338aBytes12
import Derived.Test.Qxb6602338aScope
import Derived.Test.Qxb6602338aKeys
import Derived.Deep.CutRange
namespace Go.Proofs.Qxb6602338a
open Go.RowKit

/-! ### the plain law -/
theorem hit_none {D : DataW Unit} {f : Lit → Bool} (h : ∀ k, Maps.has D k = false) : ¬ Hit D f := by
  rintro ⟨k, hk, _⟩
  rw [h k] at hk
  cases hk
theorem hit_peel (es : List (ByteArray × Bool)) (k : ByteArray) (f : Lit → Bool) (hk : Maps.has (mapD es) (kl k) = true) : Hit (mapD es) f ↔ Hit (mapD (wo es k)) f ∨ f (kl k) = true := by
  constructor
  · rintro ⟨x, hx, hf⟩
    by_cases e : x = kl k
    · rw [e] at hf; exact .inr hf
    · exact .inl ⟨x, (has_wo es k x).2 ⟨hx, e⟩, hf⟩
  · rintro (⟨x, hx, hf⟩ | hf)
    · exact ⟨x, ((has_wo es k x).1 hx).1, hf⟩
    · exact ⟨kl k, hk, hf⟩
theorem bool_of_iff {q r : Bool} (h : q = true ↔ r = true) : q = r := by
  cases q <;> cases r
  · rfl
  · have := h.2 rfl; cases this
  · have := h.1 rfl; cases this
  · rfl
/-- no key named: the closed form -/
theorem reach_closed {q c sm fl : Bool} {D1 D2 : DataW Unit} {f g : Lit → Bool} (h : q = true ↔ ReachP c D1 D2 f g sm fl) (h1 : ∀ k, Maps.has D1 k = false) (h2 : ∀ k, Maps.has D2 k = false) : q = (c || (sm && fl)) := by
  refine bool_of_iff (h.trans ?_)
  unfold ReachP
  have n1 := hit_none (f := f) h1
  have n2 := hit_none (f := g) h2
  simp [n1, n2]
/-- a role peeled -/
theorem reach_peel1 {q r c sm fl : Bool} {D2 : DataW Unit} {f g : Lit → Bool} (es : List (ByteArray × Bool)) (k : ByteArray) (h : q = true ↔ ReachP c (mapD es) D2 f g sm fl) (h' : r = true ↔ ReachP c (mapD (wo es k)) D2 f g sm fl) (hk : Maps.has (mapD es) (kl k) = true) : q = (r || f (kl k)) := by
  refine bool_of_iff (h.trans ?_)
  rw [Bool.or_eq_true, h']
  unfold ReachP
  rw [hit_peel es k f hk]
  constructor
  · rintro (h | (h | h) | h)
    · exact .inl (.inl h)
    · exact .inl (.inr (.inl h))
    · exact .inr h
    · exact .inl (.inr (.inr h))
  · rintro ((h | h | h) | h)
    · exact .inl h
    · exact .inr (.inl (.inl h))
    · exact .inr (.inr h)
    · exact .inr (.inl (.inr h))
/-- a user role peeled -/
theorem reach_peel2 {q r c sm fl : Bool} {D1 : DataW Unit} {f g : Lit → Bool} (es : List (ByteArray × Bool)) (k : ByteArray) (h : q = true ↔ ReachP c D1 (mapD es) f g sm fl) (h' : r = true ↔ ReachP c D1 (mapD (wo es k)) f g sm fl) (hk : Maps.has (mapD es) (kl k) = true) : q = (r || (sm && g (kl k))) := by
  refine bool_of_iff (h.trans ?_)
  rw [Bool.or_eq_true, Bool.and_eq_true, h']
  unfold ReachP
  rw [hit_peel es k g hk]
  constructor
  · rintro (h | h | ⟨hs, h | h | h⟩)
    · exact .inl (.inl h)
    · exact .inl (.inr (.inl h))
    · exact .inl (.inr (.inr ⟨hs, .inl h⟩))
    · exact .inl (.inr (.inr ⟨hs, .inr h⟩))
    · exact .inr ⟨hs, h⟩
  · rintro ((h | h | ⟨hs, h | h⟩) | ⟨hs, h⟩)
    · exact .inl h
    · exact .inr (.inl h)
    · exact .inr (.inr ⟨hs, .inl h⟩)
    · exact .inr (.inr ⟨hs, .inr (.inl h)⟩)
    · exact .inr (.inr ⟨hs, .inr (.inr h)⟩)

/-! ### a variable's block, held over calls -/
/-- block b holds the values C -/
def Box (w : World) (b : Nat) (C : Array Value) : Prop := b < w.heap.size ∧ ∀ i v, C[i]? = some v → w.cell? ⟨b, i, none⟩ = some v
theorem Box.at {w : World} {b : Nat} {C : Array Value} (h : Box w b C) {i : Nat} {v : Value} (hi : C[i]? = some v) : w.cell? ⟨b, i, none⟩ = some v := h.2 i v hi
theorem Box.below {w w' : World} {b : Nat} {C : Array Value} (h : Box w b C) {B : Nat} (hb : Below B w w') (hlt : b < B) : Box w' b C :=
  ⟨Nat.lt_of_lt_of_le h.1 hb.size, fun i v hi => (hb.cell (p := ⟨b, i, none⟩) hlt).trans (h.2 i v hi)⟩
theorem Box.belowAll {w w' : World} {b : Nat} {C : Array Value} (h : Box w b C) (hb : Below w.heap.size w w') : Box w' b C := h.below hb h.1
theorem Box.new (w : World) (C : Array Value) (t : TypeId) : Box (w.alloc (.cells C t)) w.heap.size C :=
  ⟨by simp, fun i v hi => by rw [World.cell?_alloc_at (hn := rfl)]; exact hi⟩
theorem Box.alloc {w : World} {b : Nat} {C : Array Value} (h : Box w b C) (o : Obj) : Box (w.alloc o) b C := h.belowAll ((Below.refl _ _).alloc (Nat.le_refl _) _)

set_option maxHeartbeats 8000000 in
set_option maxRecDepth 100000 in
theorem law3 (a1 : Option Addr) (l1 c1 : Nat) (es1 : List (ByteArray × Bool)) (a2 : Option Addr) (l2 c2 : Nat) (es2 : List (ByteArray × Bool)) (a3 : Option Addr) (l3 c3 : Nat) (es3 : List (ByteArray × Bool)) (a4 : Option Addr) (l4 c4 : Nat) (es4 : List (ByteArray × Bool)) (a5 : Option Addr) (l5 c5 : Nat) (es5 : List (ByteArray × Bool)) (a6 : Option Addr) (l6 c6 : Nat) (es6 : List (ByteArray × Bool)) (rs1 ev1 ru1 ac1 : Bool) (u1 p1 : ByteArray) (ch1 co1 : Int) (rs2 ev2 ru2 ac2 : Bool) (u2 p2 : ByteArray) (ch2 co2 : Int) (k : ByteArray) (w : World) (h1 : Ents w a1 l1 es1) (h2 : Ents w a2 l2 es2) (h3 : Ents w a3 l3 es3) (h4 : Ents w a4 l4 es4) (h5 : Ents w a5 l5 es5) (h6 : Ents w a6 l6 es6) (hk : k.size ≤ maxLen) :
    Calls Try.prog 3 #[.agg #[.slice a1 l1 c1, .bool rs1, .string u1, .bool ev1, .slice a2 l2 c2, .bool ru1, .slice a3 l3 c3, .string p1, .int .u8 ch1, .int .u8 co1, .bool ac1], .agg #[.slice a4 l4 c4, .bool rs2, .string u2, .bool ev2, .slice a5 l5 c5, .bool ru2, .slice a6 l6 c6, .string p2, .int .u8 ch2, .int .u8 co2, .bool ac2], .string k] w fun e w' => e = .returned (.bool true) ∧ Below w.heap.size w w' := by
  have HB0 : Aside (Below w.heap.size w ((w.alloc (.cells #[.slice a1 l1 c1, .bool rs1, .string u1, .bool ev1, .slice a2 l2 c2, .bool ru1, .slice a3 l3 c3, .string p1, .int .u8 ch1, .int .u8 co1, .bool ac1] 24)).alloc (.cells #[.slice a4 l4 c4, .bool rs2, .string u2, .bool ev2, .slice a5 l5 c5, .bool ru2, .slice a6 l6 c6, .string p2, .int .u8 ch2, .int .u8 co2, .bool ac2] 24))) := ((Below.refl _ _).alloc (Nat.le_refl _) _).alloc (by simp) _
  have KAX : Aside (Box ((w.alloc (.cells #[.slice a1 l1 c1, .bool rs1, .string u1, .bool ev1, .slice a2 l2 c2, .bool ru1, .slice a3 l3 c3, .string p1, .int .u8 ch1, .int .u8 co1, .bool ac1] 24)).alloc (.cells #[.slice a4 l4 c4, .bool rs2, .string u2, .bool ev2, .slice a5 l5 c5, .bool ru2, .slice a6 l6 c6, .string p2, .int .u8 ch2, .int .u8 co2, .bool ac2] 24)) (w.heap.size) #[.slice a1 l1 c1, .bool rs1, .string u1, .bool ev1, .slice a2 l2 c2, .bool ru1, .slice a3 l3 c3, .string p1, .int .u8 ch1, .int .u8 co1, .bool ac1]) := (Box.new w _ 24).alloc _
  have KBX : Aside (Box ((w.alloc (.cells #[.slice a1 l1 c1, .bool rs1, .string u1, .bool ev1, .slice a2 l2 c2, .bool ru1, .slice a3 l3 c3, .string p1, .int .u8 ch1, .int .u8 co1, .bool ac1] 24)).alloc (.cells #[.slice a4 l4 c4, .bool rs2, .string u2, .bool ev2, .slice a5 l5 c5, .bool ru2, .slice a6 l6 c6, .string p2, .int .u8 ch2, .int .u8 co2, .bool ac2] 24)) (w.heap.size + 1) #[.slice a4 l4 c4, .bool rs2, .string u2, .bool ev2, .slice a5 l5 c5, .bool ru2, .slice a6 l6 c6, .string p2, .int .u8 ch2, .int .u8 co2, .bool ac2]) := by have := Box.new (w.alloc (.cells #[.slice a1 l1 c1, .bool rs1, .string u1, .bool ev1, .slice a2 l2 c2, .bool ru1, .slice a3 l3 c3, .string p1, .int .u8 ch1, .int .u8 co1, .bool ac1] 24)) #[.slice a4 l4 c4, .bool rs2, .string u2, .bool ev2, .slice a5 l5 c5, .bool ru2, .slice a6 l6 c6, .string p2, .int .u8 ch2, .int .u8 co2, .bool ac2] 24; rwa [show (w.alloc (.cells #[.slice a1 l1 c1, .bool rs1, .string u1, .bool ev1, .slice a2 l2 c2, .bool ru1, .slice a3 l3 c3, .string p1, .int .u8 ch1, .int .u8 co1, .bool ac1] 24)).heap.size = w.heap.size + 1 from by simp] at this
  have HE1 : Aside (Ents ((w.alloc (.cells #[.slice a1 l1 c1, .bool rs1, .string u1, .bool ev1, .slice a2 l2 c2, .bool ru1, .slice a3 l3 c3, .string p1, .int .u8 ch1, .int .u8 co1, .bool ac1] 24)).alloc (.cells #[.slice a4 l4 c4, .bool rs2, .string u2, .bool ev2, .slice a5 l5 c5, .bool ru2, .slice a6 l6 c6, .string p2, .int .u8 ch2, .int .u8 co2, .bool ac2] 24)) a1 l1 es1) := h1.below HB0.out
  have HE2 : Aside (Ents ((w.alloc (.cells #[.slice a1 l1 c1, .bool rs1, .string u1, .bool ev1, .slice a2 l2 c2, .bool ru1, .slice a3 l3 c3, .string p1, .int .u8 ch1, .int .u8 co1, .bool ac1] 24)).alloc (.cells #[.slice a4 l4 c4, .bool rs2, .string u2, .bool ev2, .slice a5 l5 c5, .bool ru2, .slice a6 l6 c6, .string p2, .int .u8 ch2, .int .u8 co2, .bool ac2] 24)) a2 l2 es2) := h2.below HB0.out
  have HE3 : Aside (Ents ((w.alloc (.cells #[.slice a1 l1 c1, .bool rs1, .string u1, .bool ev1, .slice a2 l2 c2, .bool ru1, .slice a3 l3 c3, .string p1, .int .u8 ch1, .int .u8 co1, .bool ac1] 24)).alloc (.cells #[.slice a4 l4 c4, .bool rs2, .string u2, .bool ev2, .slice a5 l5 c5, .bool ru2, .slice a6 l6 c6, .string p2, .int .u8 ch2, .int .u8 co2, .bool ac2] 24)) a3 l3 es3) := h3.below HB0.out
  have HE4 : Aside (Ents ((w.alloc (.cells #[.slice a1 l1 c1, .bool rs1, .string u1, .bool ev1, .slice a2 l2 c2, .bool ru1, .slice a3 l3 c3, .string p1, .int .u8 ch1, .int .u8 co1, .bool ac1] 24)).alloc (.cells #[.slice a4 l4 c4, .bool rs2, .string u2, .bool ev2, .slice a5 l5 c5, .bool ru2, .slice a6 l6 c6, .string p2, .int .u8 ch2, .int .u8 co2, .bool ac2] 24)) a4 l4 es4) := h4.below HB0.out
  have HE5 : Aside (Ents ((w.alloc (.cells #[.slice a1 l1 c1, .bool rs1, .string u1, .bool ev1, .slice a2 l2 c2, .bool ru1, .slice a3 l3 c3, .string p1, .int .u8 ch1, .int .u8 co1, .bool ac1] 24)).alloc (.cells #[.slice a4 l4 c4, .bool rs2, .string u2, .bool ev2, .slice a5 l5 c5, .bool ru2, .slice a6 l6 c6, .string p2, .int .u8 ch2, .int .u8 co2, .bool ac2] 24)) a5 l5 es5) := h5.below HB0.out
  have HE6 : Aside (Ents ((w.alloc (.cells #[.slice a1 l1 c1, .bool rs1, .string u1, .bool ev1, .slice a2 l2 c2, .bool ru1, .slice a3 l3 c3, .string p1, .int .u8 ch1, .int .u8 co1, .bool ac1] 24)).alloc (.cells #[.slice a4 l4 c4, .bool rs2, .string u2, .bool ev2, .slice a5 l5 c5, .bool ru2, .slice a6 l6 c6, .string p2, .int .u8 ch2, .int .u8 co2, .bool ac2] 24)) a6 l6 es6) := h6.below HB0.out
  clear h1 h2 h3 h4 h5 h6
  go_enter Try.func3, Try.ntmps3
  go_wp2_with fail
  refine (bytes12 a1 l1 c1 es1 a2 l2 c2 es2 a3 l3 c3 es3 a4 l4 c4 es4 a5 l5 c5 es5 a6 l6 c6 es6 rs1 ev1 ru1 ac1 u1 p1 ch1 co1 rs2 ev2 ru2 ac2 u2 p2 ch2 co2 k _ (by exact HE1.out) (by exact HE2.out) (by exact HE3.out) (by exact HE4.out) (by exact HE5.out) (by exact HE6.out)).mono ?_
  rintro e W1 ⟨⟨r, rfl⟩, hb⟩
  have HB1 : Aside (Below w.heap.size w W1) := HB0.out.trans (hb.mono HB0.out.size)
  replace KAX := show Aside (Box W1 (w.heap.size) #[.slice a1 l1 c1, .bool rs1, .string u1, .bool ev1, .slice a2 l2 c2, .bool ru1, .slice a3 l3 c3, .string p1, .int .u8 ch1, .int .u8 co1, .bool ac1]) from KAX.out.belowAll hb
  replace KBX := show Aside (Box W1 (w.heap.size + 1) #[.slice a4 l4 c4, .bool rs2, .string u2, .bool ev2, .slice a5 l5 c5, .bool ru2, .slice a6 l6 c6, .string p2, .int .u8 ch2, .int .u8 co2, .bool ac2]) from KBX.out.belowAll hb
  replace HE1 := show Aside (Ents W1 a1 l1 es1) from HE1.out.below hb
  replace HE2 := show Aside (Ents W1 a2 l2 es2) from HE2.out.below hb
  replace HE3 := show Aside (Ents W1 a3 l3 es3) from HE3.out.below hb
  replace HE4 := show Aside (Ents W1 a4 l4 es4) from HE4.out.below hb
  replace HE5 := show Aside (Ents W1 a5 l5 es5) from HE5.out.below hb
  replace HE6 := show Aside (Ents W1 a6 l6 es6) from HE6.out.below hb
  clear hb HB0
  cases r
  · go_wp2_with fail
    go_ret
    exact ⟨rfl, HB1.out⟩
  have KA0 := KAX.out.at (i := 0) (v := .slice a1 l1 c1) rfl
  have KA1 := KAX.out.at (i := 1) (v := .bool rs1) rfl
  have KA2 := KAX.out.at (i := 2) (v := .string u1) rfl
  have KA3 := KAX.out.at (i := 3) (v := .bool ev1) rfl
  have KA4 := KAX.out.at (i := 4) (v := .slice a2 l2 c2) rfl
  have KA5 := KAX.out.at (i := 5) (v := .bool ru1) rfl
  have KA6 := KAX.out.at (i := 6) (v := .slice a3 l3 c3) rfl
  have KA7 := KAX.out.at (i := 7) (v := .string p1) rfl
  have KA8 := KAX.out.at (i := 8) (v := .int .u8 ch1) rfl
  have KA9 := KAX.out.at (i := 9) (v := .int .u8 co1) rfl
  have KA10 := KAX.out.at (i := 10) (v := .bool ac1) rfl
  have KB0 := KBX.out.at (i := 0) (v := .slice a4 l4 c4) rfl
  have KB1 := KBX.out.at (i := 1) (v := .bool rs2) rfl
  have KB2 := KBX.out.at (i := 2) (v := .string u2) rfl
  have KB3 := KBX.out.at (i := 3) (v := .bool ev2) rfl
  have KB4 := KBX.out.at (i := 4) (v := .slice a5 l5 c5) rfl
  have KB5 := KBX.out.at (i := 5) (v := .bool ru2) rfl
  have KB6 := KBX.out.at (i := 6) (v := .slice a6 l6 c6) rfl
  have KB7 := KBX.out.at (i := 7) (v := .string p2) rfl
  have KB8 := KBX.out.at (i := 8) (v := .int .u8 ch2) rfl
  have KB9 := KBX.out.at (i := 9) (v := .int .u8 co2) rfl
  have KB10 := KBX.out.at (i := 10) (v := .bool ac2) rfl
  have hA := KAX.out.1
  have hB := KBX.out.1
  go_wp2_with fail
  go_region_held3 (fun w' => (∀ b o, b < W1.heap.size → w'.cell? ⟨b, o, none⟩ = W1.cell? ⟨b, o, none⟩) ∧ Below W1.heap.size W1 w') (first | assumption | exact heldS0 _ | exact keepS (by assumption) (by assumption))
    (first
      | (go_at_call_of 14 (Value.slice a1 l1 c1); refine (scbytes_any a1 a2 a3 l1 c1 l2 c2 l3 c3 es1 es2 es3 rs1 ev1 ru1 ac1 u1 p1 ch1 co1 _ (by exact HE1.out.below (heldB (by assumption))) (by exact HE2.out.below (heldB (by assumption))) (by exact HE3.out.below (heldB (by assumption)))).mono ?_; rintro e w2 ⟨r1, rfl, hr1, hb2⟩)
      | (go_at_call_of 14 (Value.slice a4 l4 c4); refine (scbytes_any a4 a5 a6 l4 c4 l5 c5 l6 c6 es4 es5 es6 rs2 ev2 ru2 ac2 u2 p2 ch2 co2 _ (by exact HE4.out.below (heldB (by assumption))) (by exact HE5.out.below (heldB (by assumption))) (by exact HE6.out.below (heldB (by assumption)))).mono ?_; rintro e w3 ⟨r2, rfl, hr2, hb3⟩)
      | (go_at_call_of 13 (Value.int IntKind.i64 r2); refine (add_any r1 r2 _ hr1.1 hr2.1).mono ?_; rintro e w4 ⟨t1, rfl, ht1, hw⟩; obtain rfl := hw.symm)
      | (go_at_call 13; refine (add_any t1 k.size _ ht1.1 (by omega)).mono ?_; rintro e w5 ⟨t2, rfl, ht2, hw⟩; obtain rfl := hw.symm))
  have HBh : Aside (Below W1.heap.size W1 w3) := heldB (by assumption)
  rename (∀ _ _, _ < _ → _) ∧ _ => hHeldX
  clear hHeldX
  clear KA0 KA1 KA2 KA3 KA4 KA5 KA6 KA7 KA8 KA9 KA10
  clear KB0 KB1 KB2 KB3 KB4 KB5 KB6 KB7 KB8 KB9 KB10
  clear hA hB
  replace KAX := show Aside (Box w3 (w.heap.size) #[.slice a1 l1 c1, .bool rs1, .string u1, .bool ev1, .slice a2 l2 c2, .bool ru1, .slice a3 l3 c3, .string p1, .int .u8 ch1, .int .u8 co1, .bool ac1]) from KAX.out.belowAll HBh.out
  replace KBX := show Aside (Box w3 (w.heap.size + 1) #[.slice a4 l4 c4, .bool rs2, .string u2, .bool ev2, .slice a5 l5 c5, .bool ru2, .slice a6 l6 c6, .string p2, .int .u8 ch2, .int .u8 co2, .bool ac2]) from KBX.out.belowAll HBh.out
  replace HE1 := show Aside (Ents w3 a1 l1 es1) from HE1.out.below HBh.out
  replace HE2 := show Aside (Ents w3 a2 l2 es2) from HE2.out.below HBh.out
  replace HE3 := show Aside (Ents w3 a3 l3 es3) from HE3.out.below HBh.out
  replace HE4 := show Aside (Ents w3 a4 l4 es4) from HE4.out.below HBh.out
  replace HE5 := show Aside (Ents w3 a5 l5 es5) from HE5.out.below HBh.out
  replace HE6 := show Aside (Ents w3 a6 l6 es6) from HE6.out.below HBh.out
  replace HB1 := show Aside (Below w.heap.size w w3) from HB1.out.trans (HBh.out.mono HB1.out.size)
  clear HBh hb2 hb3
  by_cases hbig : (1048576 : Int) < t2
  · go_wp2_with fail
    go_ret
    exact ⟨rfl, HB1.out⟩
  have hg := ht1.2.2 (ht2.2.2 (by omega)).1
  have hga := hr1.2.2 hg.1
  have hgb := hr2.2.2 hg.2
  obtain ⟨hL1, hL2, hL3⟩ := hga
  obtain ⟨hL4, hL5, hL6⟩ := hgb
  clear hg hr1 hr2 ht1 ht2
  have KA0 := KAX.out.at (i := 0) (v := .slice a1 l1 c1) rfl
  go_wp2_with fail
  refine (map_any a1 l1 c1 es1 _ (by exact HE1.out) (by omega)).mono ?_
  rintro e v1 ⟨m1, rfl, hm, hb⟩
  clear KA0
  replace KAX := show Aside (Box v1 (w.heap.size) #[.slice a1 l1 c1, .bool rs1, .string u1, .bool ev1, .slice a2 l2 c2, .bool ru1, .slice a3 l3 c3, .string p1, .int .u8 ch1, .int .u8 co1, .bool ac1]) from KAX.out.belowAll hb
  replace KBX := show Aside (Box v1 (w.heap.size + 1) #[.slice a4 l4 c4, .bool rs2, .string u2, .bool ev2, .slice a5 l5 c5, .bool ru2, .slice a6 l6 c6, .string p2, .int .u8 ch2, .int .u8 co2, .bool ac2]) from KBX.out.belowAll hb
  replace HE1 := show Aside (Ents v1 a1 l1 es1) from HE1.out.below hb
  replace HE2 := show Aside (Ents v1 a2 l2 es2) from HE2.out.below hb
  replace HE3 := show Aside (Ents v1 a3 l3 es3) from HE3.out.below hb
  replace HE4 := show Aside (Ents v1 a4 l4 es4) from HE4.out.below hb
  replace HE5 := show Aside (Ents v1 a5 l5 es5) from HE5.out.below hb
  replace HE6 := show Aside (Ents v1 a6 l6 es6) from HE6.out.below hb
  replace HB1 := show Aside (Below w.heap.size w v1) from HB1.out.trans (hb.mono HB1.out.size)
  have HM1 : Aside (IsM v1 m1 l1 (mapD es1)) := hm
  clear hm hb
  have KA4 := KAX.out.at (i := 4) (v := .slice a2 l2 c2) rfl
  go_wp2_with fail
  refine (map_any a2 l2 c2 es2 _ (by exact HE2.out) (by omega)).mono ?_
  rintro e v2 ⟨m2, rfl, hm, hb⟩
  clear KA4
  replace KAX := show Aside (Box v2 (w.heap.size) #[.slice a1 l1 c1, .bool rs1, .string u1, .bool ev1, .slice a2 l2 c2, .bool ru1, .slice a3 l3 c3, .string p1, .int .u8 ch1, .int .u8 co1, .bool ac1]) from KAX.out.belowAll hb
  replace KBX := show Aside (Box v2 (w.heap.size + 1) #[.slice a4 l4 c4, .bool rs2, .string u2, .bool ev2, .slice a5 l5 c5, .bool ru2, .slice a6 l6 c6, .string p2, .int .u8 ch2, .int .u8 co2, .bool ac2]) from KBX.out.belowAll hb
  replace HE1 := show Aside (Ents v2 a1 l1 es1) from HE1.out.below hb
  replace HE2 := show Aside (Ents v2 a2 l2 es2) from HE2.out.below hb
  replace HE3 := show Aside (Ents v2 a3 l3 es3) from HE3.out.below hb
  replace HE4 := show Aside (Ents v2 a4 l4 es4) from HE4.out.below hb
  replace HE5 := show Aside (Ents v2 a5 l5 es5) from HE5.out.below hb
  replace HE6 := show Aside (Ents v2 a6 l6 es6) from HE6.out.below hb
  replace HM1 := show Aside (IsM v2 m1 l1 (mapD es1)) from HM1.out.belowAll hb
  replace HB1 := show Aside (Below w.heap.size w v2) from HB1.out.trans (hb.mono HB1.out.size)
  have HM2 : Aside (IsM v2 m2 l2 (mapD es2)) := hm
  clear hm hb
  have KA6 := KAX.out.at (i := 6) (v := .slice a3 l3 c3) rfl
  go_wp2_with fail
  refine (map_any a3 l3 c3 es3 _ (by exact HE3.out) (by omega)).mono ?_
  rintro e v3 ⟨m3, rfl, hm, hb⟩
  clear KA6
  replace KAX := show Aside (Box v3 (w.heap.size) #[.slice a1 l1 c1, .bool rs1, .string u1, .bool ev1, .slice a2 l2 c2, .bool ru1, .slice a3 l3 c3, .string p1, .int .u8 ch1, .int .u8 co1, .bool ac1]) from KAX.out.belowAll hb
  replace KBX := show Aside (Box v3 (w.heap.size + 1) #[.slice a4 l4 c4, .bool rs2, .string u2, .bool ev2, .slice a5 l5 c5, .bool ru2, .slice a6 l6 c6, .string p2, .int .u8 ch2, .int .u8 co2, .bool ac2]) from KBX.out.belowAll hb
  replace HE1 := show Aside (Ents v3 a1 l1 es1) from HE1.out.below hb
  replace HE2 := show Aside (Ents v3 a2 l2 es2) from HE2.out.below hb
  replace HE4 := show Aside (Ents v3 a4 l4 es4) from HE4.out.below hb
  replace HE5 := show Aside (Ents v3 a5 l5 es5) from HE5.out.below hb
  replace HE6 := show Aside (Ents v3 a6 l6 es6) from HE6.out.below hb
  replace HM1 := show Aside (IsM v3 m1 l1 (mapD es1)) from HM1.out.belowAll hb
  replace HM2 := show Aside (IsM v3 m2 l2 (mapD es2)) from HM2.out.belowAll hb
  replace HB1 := show Aside (Below w.heap.size w v3) from HB1.out.trans (hb.mono HB1.out.size)
  have HM3 : Aside (IsM v3 m3 l3 (mapD es3)) := hm
  clear hm hb
  have KB0 := KBX.out.at (i := 0) (v := .slice a4 l4 c4) rfl
  go_wp2_with fail
  refine (map_any a4 l4 c4 es4 _ (by exact HE4.out) (by omega)).mono ?_
  rintro e v4 ⟨m4, rfl, hm, hb⟩
  clear KB0
  replace KAX := show Aside (Box v4 (w.heap.size) #[.slice a1 l1 c1, .bool rs1, .string u1, .bool ev1, .slice a2 l2 c2, .bool ru1, .slice a3 l3 c3, .string p1, .int .u8 ch1, .int .u8 co1, .bool ac1]) from KAX.out.belowAll hb
  replace KBX := show Aside (Box v4 (w.heap.size + 1) #[.slice a4 l4 c4, .bool rs2, .string u2, .bool ev2, .slice a5 l5 c5, .bool ru2, .slice a6 l6 c6, .string p2, .int .u8 ch2, .int .u8 co2, .bool ac2]) from KBX.out.belowAll hb
  replace HE1 := show Aside (Ents v4 a1 l1 es1) from HE1.out.below hb
  replace HE2 := show Aside (Ents v4 a2 l2 es2) from HE2.out.below hb
  replace HE5 := show Aside (Ents v4 a5 l5 es5) from HE5.out.below hb
  replace HE6 := show Aside (Ents v4 a6 l6 es6) from HE6.out.below hb
  replace HM1 := show Aside (IsM v4 m1 l1 (mapD es1)) from HM1.out.belowAll hb
  replace HM2 := show Aside (IsM v4 m2 l2 (mapD es2)) from HM2.out.belowAll hb
  replace HM3 := show Aside (IsM v4 m3 l3 (mapD es3)) from HM3.out.belowAll hb
  replace HB1 := show Aside (Below w.heap.size w v4) from HB1.out.trans (hb.mono HB1.out.size)
  have HM4 : Aside (IsM v4 m4 l4 (mapD es4)) := hm
  clear hm hb
  have KB4 := KBX.out.at (i := 4) (v := .slice a5 l5 c5) rfl
  go_wp2_with fail
  refine (map_any a5 l5 c5 es5 _ (by exact HE5.out) (by omega)).mono ?_
  rintro e v5 ⟨m5, rfl, hm, hb⟩
  clear KB4
  replace KAX := show Aside (Box v5 (w.heap.size) #[.slice a1 l1 c1, .bool rs1, .string u1, .bool ev1, .slice a2 l2 c2, .bool ru1, .slice a3 l3 c3, .string p1, .int .u8 ch1, .int .u8 co1, .bool ac1]) from KAX.out.belowAll hb
  replace KBX := show Aside (Box v5 (w.heap.size + 1) #[.slice a4 l4 c4, .bool rs2, .string u2, .bool ev2, .slice a5 l5 c5, .bool ru2, .slice a6 l6 c6, .string p2, .int .u8 ch2, .int .u8 co2, .bool ac2]) from KBX.out.belowAll hb
  replace HE1 := show Aside (Ents v5 a1 l1 es1) from HE1.out.below hb
  replace HE2 := show Aside (Ents v5 a2 l2 es2) from HE2.out.below hb
  replace HE6 := show Aside (Ents v5 a6 l6 es6) from HE6.out.below hb
  replace HM1 := show Aside (IsM v5 m1 l1 (mapD es1)) from HM1.out.belowAll hb
  replace HM2 := show Aside (IsM v5 m2 l2 (mapD es2)) from HM2.out.belowAll hb
  replace HM3 := show Aside (IsM v5 m3 l3 (mapD es3)) from HM3.out.belowAll hb
  replace HM4 := show Aside (IsM v5 m4 l4 (mapD es4)) from HM4.out.belowAll hb
  replace HB1 := show Aside (Below w.heap.size w v5) from HB1.out.trans (hb.mono HB1.out.size)
  have HM5 : Aside (IsM v5 m5 l5 (mapD es5)) := hm
  clear hm hb
  have KB6 := KBX.out.at (i := 6) (v := .slice a6 l6 c6) rfl
  go_wp2_with fail
  refine (map_any a6 l6 c6 es6 _ (by exact HE6.out) (by omega)).mono ?_
  rintro e v6 ⟨m6, rfl, hm, hb⟩
  clear KB6
  replace KAX := show Aside (Box v6 (w.heap.size) #[.slice a1 l1 c1, .bool rs1, .string u1, .bool ev1, .slice a2 l2 c2, .bool ru1, .slice a3 l3 c3, .string p1, .int .u8 ch1, .int .u8 co1, .bool ac1]) from KAX.out.belowAll hb
  replace KBX := show Aside (Box v6 (w.heap.size + 1) #[.slice a4 l4 c4, .bool rs2, .string u2, .bool ev2, .slice a5 l5 c5, .bool ru2, .slice a6 l6 c6, .string p2, .int .u8 ch2, .int .u8 co2, .bool ac2]) from KBX.out.belowAll hb
  replace HE1 := show Aside (Ents v6 a1 l1 es1) from HE1.out.below hb
  replace HE2 := show Aside (Ents v6 a2 l2 es2) from HE2.out.below hb
  replace HM1 := show Aside (IsM v6 m1 l1 (mapD es1)) from HM1.out.belowAll hb
  replace HM2 := show Aside (IsM v6 m2 l2 (mapD es2)) from HM2.out.belowAll hb
  replace HM3 := show Aside (IsM v6 m3 l3 (mapD es3)) from HM3.out.belowAll hb
  replace HM4 := show Aside (IsM v6 m4 l4 (mapD es4)) from HM4.out.belowAll hb
  replace HM5 := show Aside (IsM v6 m5 l5 (mapD es5)) from HM5.out.belowAll hb
  replace HB1 := show Aside (Below w.heap.size w v6) from HB1.out.trans (hb.mono HB1.out.size)
  have HM6 : Aside (IsM v6 m6 l6 (mapD es6)) := hm
  clear hm hb
  have KB0 := KBX.out.at (i := 0) (v := .slice a4 l4 c4) rfl
  have KB1 := KBX.out.at (i := 1) (v := .bool rs2) rfl
  have KB2 := KBX.out.at (i := 2) (v := .string u2) rfl
  have KB3 := KBX.out.at (i := 3) (v := .bool ev2) rfl
  have KB4 := KBX.out.at (i := 4) (v := .slice a5 l5 c5) rfl
  have KB5 := KBX.out.at (i := 5) (v := .bool ru2) rfl
  have KB6 := KBX.out.at (i := 6) (v := .slice a6 l6 c6) rfl
  have KB7 := KBX.out.at (i := 7) (v := .string p2) rfl
  have KB8 := KBX.out.at (i := 8) (v := .int .u8 ch2) rfl
  have KB9 := KBX.out.at (i := 9) (v := .int .u8 co2) rfl
  have KB10 := KBX.out.at (i := 10) (v := .bool ac2) rfl
  go_wp2_with fail
  refine (build_any a4 a5 a6 l4 c4 l5 c5 l6 c6 rs2 ev2 ru2 ac2 u2 p2 ch2 co2 m4 m5 m6 _).mono ?_
  rintro e v7 ⟨rfl, hb⟩
  clear KB0 KB1 KB2 KB3 KB4 KB5 KB6 KB7 KB8 KB9 KB10
  replace KAX := show Aside (Box v7 (w.heap.size) #[.slice a1 l1 c1, .bool rs1, .string u1, .bool ev1, .slice a2 l2 c2, .bool ru1, .slice a3 l3 c3, .string p1, .int .u8 ch1, .int .u8 co1, .bool ac1]) from KAX.out.belowAll hb
  replace KBX := show Aside (Box v7 (w.heap.size + 1) #[.slice a4 l4 c4, .bool rs2, .string u2, .bool ev2, .slice a5 l5 c5, .bool ru2, .slice a6 l6 c6, .string p2, .int .u8 ch2, .int .u8 co2, .bool ac2]) from KBX.out.belowAll hb
  replace HE1 := show Aside (Ents v7 a1 l1 es1) from HE1.out.below hb
  replace HE2 := show Aside (Ents v7 a2 l2 es2) from HE2.out.below hb
  replace HM1 := show Aside (IsM v7 m1 l1 (mapD es1)) from HM1.out.belowAll hb
  replace HM2 := show Aside (IsM v7 m2 l2 (mapD es2)) from HM2.out.belowAll hb
  replace HM3 := show Aside (IsM v7 m3 l3 (mapD es3)) from HM3.out.belowAll hb
  replace HM4 := show Aside (IsM v7 m4 l4 (mapD es4)) from HM4.out.belowAll hb
  replace HM5 := show Aside (IsM v7 m5 l5 (mapD es5)) from HM5.out.belowAll hb
  replace HM6 := show Aside (IsM v7 m6 l6 (mapD es6)) from HM6.out.belowAll hb
  replace HB1 := show Aside (Below w.heap.size w v7) from HB1.out.trans (hb.mono HB1.out.size)
  clear hb
  go_wp2_with fail
  have hbV : Below v7.heap.size v7 (v7.alloc (.cells #[.map m4, .bool rs2, .string u2, .bool ev2, .map m5, .bool ru2, .map m6, .string p2, .int .u8 ch2, .int .u8 co2, .bool ac2] 32)) := (Below.refl _ _).alloc (Nat.le_refl _) _
  obtain ⟨V, hV⟩ : ∃ V, V = (v7.alloc (.cells #[.map m4, .bool rs2, .string u2, .bool ev2, .map m5, .bool ru2, .map m6, .string p2, .int .u8 ch2, .int .u8 co2, .bool ac2] 32)) := ⟨_, rfl⟩
  have KSX : Aside (Box (v7.alloc (.cells #[.map m4, .bool rs2, .string u2, .bool ev2, .map m5, .bool ru2, .map m6, .string p2, .int .u8 ch2, .int .u8 co2, .bool ac2] 32)) v7.heap.size #[.map m4, .bool rs2, .string u2, .bool ev2, .map m5, .bool ru2, .map m6, .string p2, .int .u8 ch2, .int .u8 co2, .bool ac2]) := Box.new v7 _ 32
  obtain ⟨sb, hsb⟩ : ∃ b, b = v7.heap.size := ⟨_, rfl⟩
  rw [← hV] at hbV KSX ⊢
  rw [← hsb] at KSX ⊢
  replace KAX := show Aside (Box V (w.heap.size) #[.slice a1 l1 c1, .bool rs1, .string u1, .bool ev1, .slice a2 l2 c2, .bool ru1, .slice a3 l3 c3, .string p1, .int .u8 ch1, .int .u8 co1, .bool ac1]) from KAX.out.belowAll hbV
  replace KBX := show Aside (Box V (w.heap.size + 1) #[.slice a4 l4 c4, .bool rs2, .string u2, .bool ev2, .slice a5 l5 c5, .bool ru2, .slice a6 l6 c6, .string p2, .int .u8 ch2, .int .u8 co2, .bool ac2]) from KBX.out.belowAll hbV
  replace HE1 := show Aside (Ents V a1 l1 es1) from HE1.out.below hbV
  replace HE2 := show Aside (Ents V a2 l2 es2) from HE2.out.below hbV
  replace HM1 := show Aside (IsM V m1 l1 (mapD es1)) from HM1.out.belowAll hbV
  replace HM2 := show Aside (IsM V m2 l2 (mapD es2)) from HM2.out.belowAll hbV
  replace HM3 := show Aside (IsM V m3 l3 (mapD es3)) from HM3.out.belowAll hbV
  replace HM4 := show Aside (IsM V m4 l4 (mapD es4)) from HM4.out.belowAll hbV
  replace HM5 := show Aside (IsM V m5 l5 (mapD es5)) from HM5.out.belowAll hbV
  replace HM6 := show Aside (IsM V m6 l6 (mapD es6)) from HM6.out.belowAll hbV
  replace HB1 := show Aside (Below w.heap.size w V) from HB1.out.trans (hbV.mono HB1.out.size)
  clear hbV hV hsb
  have KA0 := KAX.out.at (i := 0) (v := .slice a1 l1 c1) rfl
  have KA1 := KAX.out.at (i := 1) (v := .bool rs1) rfl
  have KA2 := KAX.out.at (i := 2) (v := .string u1) rfl
  have KA3 := KAX.out.at (i := 3) (v := .bool ev1) rfl
  have KA4 := KAX.out.at (i := 4) (v := .slice a2 l2 c2) rfl
  have KA5 := KAX.out.at (i := 5) (v := .bool ru1) rfl
  have KA6 := KAX.out.at (i := 6) (v := .slice a3 l3 c3) rfl
  have KA7 := KAX.out.at (i := 7) (v := .string p1) rfl
  have KA8 := KAX.out.at (i := 8) (v := .int .u8 ch1) rfl
  have KA9 := KAX.out.at (i := 9) (v := .int .u8 co1) rfl
  have KA10 := KAX.out.at (i := 10) (v := .bool ac1) rfl
  have KS0 := KSX.out.at (i := 0) (v := .map m4) rfl
  have KS1 := KSX.out.at (i := 1) (v := .bool rs2) rfl
  have KS2 := KSX.out.at (i := 2) (v := .string u2) rfl
  have KS3 := KSX.out.at (i := 3) (v := .bool ev2) rfl
  have KS4 := KSX.out.at (i := 4) (v := .map m5) rfl
  have KS5 := KSX.out.at (i := 5) (v := .bool ru2) rfl
  have KS6 := KSX.out.at (i := 6) (v := .map m6) rfl
  have KS7 := KSX.out.at (i := 7) (v := .string p2) rfl
  have KS8 := KSX.out.at (i := 8) (v := .int .u8 ch2) rfl
  have KS9 := KSX.out.at (i := 9) (v := .int .u8 co2) rfl
  have KS10 := KSX.out.at (i := 10) (v := .bool ac2) rfl
  have hA := KAX.out.1
  have hS := KSX.out.1
  go_region_held3 (fun w' => (∀ b o, b < V.heap.size → w'.cell? ⟨b, o, none⟩ = V.cell? ⟨b, o, none⟩) ∧ Below V.heap.size V w') (first | assumption | exact heldS0 _ | exact keepS (by assumption) (by assumption))
    (first
      | (go_at_call 16; refine (build_any a1 a2 a3 l1 c1 l2 c2 l3 c3 rs1 ev1 ru1 ac1 u1 p1 ch1 co1 m1 m2 m3 _).mono ?_; rintro e x16 ⟨rfl, hb16⟩)
      | (go_at_call 17; refine (zzReach_any m1 m2 m3 rs1 ev1 ru1 ac1 u1 p1 ch1 co1 m4 m5 m6 rs2 ev2 ru2 ac2 u2 p2 ch2 co2 l1 l2 l4 l5 l6 (mapD es1) (mapD es2) (mapD es4) (mapD es5) (mapD es6) _ _ (by exact HM1.out.belowAll (heldB (by assumption))) (by exact HM2.out.belowAll (heldB (by assumption))) (by exact HM4.out.belowAll (heldB (by assumption))) (by exact HM5.out.belowAll (heldB (by assumption))) (by exact HM6.out.belowAll (heldB (by assumption))) rfl).mono ?_; rintro e x17 ⟨q0, rfl, hq0, hb17⟩))
  have HBh : Aside (Below V.heap.size V x17) := heldB (by assumption)
  have HQ0 : Aside (q0 = true ↔ ReachP (bits BinOp.and IntKind.u8 ch1 (bits BinOp.or IntKind.u8 ch2 co2) != 0) (mapD es1) (mapD es2) (fRole rs1 (mapD es4) (mapD es5) (mapD es6)) (atB (mapD es5)) (sameU u1 u2) (flag ev1 ev2 ru2 ac1)) := hq0
  rename (∀ _ _, _ < _ → _) ∧ _ => hHeldX
  clear hHeldX
  clear KA0 KA1 KA2 KA3 KA4 KA5 KA6 KA7 KA8 KA9 KA10
  clear KS0 KS1 KS2 KS3 KS4 KS5 KS6 KS7 KS8 KS9 KS10
  clear hA hS hq0 hb16 hb17
  replace KAX := show Aside (Box x17 (w.heap.size) #[.slice a1 l1 c1, .bool rs1, .string u1, .bool ev1, .slice a2 l2 c2, .bool ru1, .slice a3 l3 c3, .string p1, .int .u8 ch1, .int .u8 co1, .bool ac1]) from KAX.out.belowAll HBh.out
  replace KBX := show Aside (Box x17 (w.heap.size + 1) #[.slice a4 l4 c4, .bool rs2, .string u2, .bool ev2, .slice a5 l5 c5, .bool ru2, .slice a6 l6 c6, .string p2, .int .u8 ch2, .int .u8 co2, .bool ac2]) from KBX.out.belowAll HBh.out
  replace HE1 := show Aside (Ents x17 a1 l1 es1) from HE1.out.below HBh.out
  replace HE2 := show Aside (Ents x17 a2 l2 es2) from HE2.out.below HBh.out
  replace HM1 := show Aside (IsM x17 m1 l1 (mapD es1)) from HM1.out.belowAll HBh.out
  replace HM2 := show Aside (IsM x17 m2 l2 (mapD es2)) from HM2.out.belowAll HBh.out
  replace HM3 := show Aside (IsM x17 m3 l3 (mapD es3)) from HM3.out.belowAll HBh.out
  replace HM4 := show Aside (IsM x17 m4 l4 (mapD es4)) from HM4.out.belowAll HBh.out
  replace HM5 := show Aside (IsM x17 m5 l5 (mapD es5)) from HM5.out.belowAll HBh.out
  replace HM6 := show Aside (IsM x17 m6 l6 (mapD es6)) from HM6.out.belowAll HBh.out
  replace HB1 := show Aside (Below w.heap.size w x17) from HB1.out.trans (HBh.out.mono HB1.out.size)
  replace KSX := show Aside (Box x17 sb #[.map m4, .bool rs2, .string u2, .bool ev2, .map m5, .bool ru2, .map m6, .string p2, .int .u8 ch2, .int .u8 co2, .bool ac2]) from KSX.out.belowAll HBh.out
  clear HBh
  have KA2 := KAX.out.at (i := 2) (v := .string u1) rfl
  have KB2 := KBX.out.at (i := 2) (v := .string u2) rfl
  go_upto_region 13 with fail
  go_cut [15] from 24 (fun s15 wx => s15 = .bool (sameU u1 u2) ∧ Aside (wx = x17))
  case first =>
    by_cases hem : u1.toList.isEmpty = true
    · have HSAME : Aside (sameU u1 u2 = false) := by show _ = _; unfold sameU; rw [hem]; rfl
      have hem2 : u1.toList = [] := by simpa using hem
      go_wp2_with fail
      go_meet
      case rel => exact ⟨by rw [HSAME.out], (show _ = _ from rfl)⟩
    have hem1 : u1.toList.isEmpty = false := by simpa using hem
    have hem2 : ¬ u1.toList = [] := by simpa using hem
    clear hem
    by_cases heq : (u1.toList == u2.toList) = false
    · have HSAME : Aside (sameU u1 u2 = false) := by show _ = _; unfold sameU; rw [heq]; simp
      go_wp2_with fail
      go_meet
      case rel => exact ⟨by rw [HSAME.out], (show _ = _ from rfl)⟩
    have heq1 : (u1.toList == u2.toList) = true := by simpa using heq
    have HSAME : Aside (sameU u1 u2 = true) := by show _ = _; unfold sameU; rw [heq1, hem1]; rfl
    clear heq
    go_wp2_with fail
    go_meet
    case rel => exact ⟨by rw [HSAME.out], (show _ = _ from rfl)⟩
  case rest =>
    obtain ⟨rfl, hwc⟩ := hcut
    obtain rfl := hwc.out.symm
    clear hwc
    obtain ⟨sm, hsm⟩ : ∃ s, s = sameU u1 u2 := ⟨_, rfl⟩
    rw [← hsm] at HQ0 ⊢
    obtain ⟨c, hC⟩ : ∃ c, (bits BinOp.and IntKind.u8 ch1 (bits BinOp.or IntKind.u8 ch2 co2) != 0) = c := ⟨_, rfl⟩
    rw [hC] at HQ0
    have HSM : Aside (sm = sameU u1 u2) := hsm
    clear hsm KA2 KB2
    have hlen1 := HM1.out.len
    have hlen2 := HM2.out.len
    obtain ⟨zz, hzz⟩ : ∃ z, z = ((((Maps.size (mapD es1) : Nat) : Int) == 0) && (((Maps.size (mapD es2) : Nat) : Int) == 0)) := ⟨_, rfl⟩
    have HZZ : Aside (zz = ((((Maps.size (mapD es1) : Nat) : Int) == 0) && (((Maps.size (mapD es2) : Nat) : Int) == 0))) := hzz
    clear hzz
    go_upto_region 14 with fail
    go_cut [85] from 24 (fun s85 wx => s85 = .bool zz ∧ Aside (wx = x17))
    case first =>
      by_cases z1 : (((Maps.size (mapD es1) : Nat) : Int) == 0) = true
      · by_cases z2 : (((Maps.size (mapD es2) : Nat) : Int) == 0) = true
        · have hz : Aside (zz = true) := by show _ = _; rw [HZZ.out, z1, z2]; rfl
          go_wp2_with fail
          go_meet
          case rel => exact ⟨by rw [hz.out], (show _ = _ from rfl)⟩
        · have z2' : (((Maps.size (mapD es2) : Nat) : Int) == 0) = false := by simpa using z2
          have hz : Aside (zz = false) := by show _ = _; rw [HZZ.out, z1, z2']; rfl
          clear z2
          go_wp2_with fail
          go_meet
          case rel => exact ⟨by rw [hz.out], (show _ = _ from rfl)⟩
      · have z1' : (((Maps.size (mapD es1) : Nat) : Int) == 0) = false := by simpa using z1
        have hz : Aside (zz = false) := by show _ = _; rw [HZZ.out, z1']; rfl
        clear z1
        go_wp2_with fail
        go_meet
        case rel => exact ⟨by rw [hz.out], (show _ = _ from rfl)⟩
    case rest =>
      obtain ⟨rfl, hwc⟩ := hcut
      obtain rfl := hwc.out.symm
      clear hwc hlen1 hlen2
      cases zz
      rotate_left
      · as_aux_lemma =>
          have HCL : Aside (q0 = (c || (sm && flag ev1 ev2 ru2 ac1))) := by
            have h0 := HZZ.out.symm
            rw [Bool.and_eq_true] at h0
            have g1 : Maps.size (mapD es1) = 0 := by have := h0.1; simp at this; omega
            have g2 : Maps.size (mapD es2) = 0 := by have := h0.2; simp at this; omega
            exact reach_closed HQ0.out ((size_zero_iff HM1.out.good).1 g1) ((size_zero_iff HM2.out.good).1 g2)
          clear HQ0 HZZ
          have KA3 := KAX.out.at (i := 3) (v := .bool ev1) rfl
          have KA8 := KAX.out.at (i := 8) (v := .int .u8 ch1) rfl
          have KA10 := KAX.out.at (i := 10) (v := .bool ac1) rfl
          have KB3 := KBX.out.at (i := 3) (v := .bool ev2) rfl
          have KB5 := KBX.out.at (i := 5) (v := .bool ru2) rfl
          have KB8 := KBX.out.at (i := 8) (v := .int .u8 ch2) rfl
          have KB9 := KBX.out.at (i := 9) (v := .int .u8 co2) rfl
          cases c
          rotate_left
          · as_aux_lemma =>
              obtain rfl : q0 = true := HCL.out
              go_wp2_with fail
              go_ret
              exact ⟨rfl, HB1.out⟩
          cases sm
          · as_aux_lemma =>
              obtain rfl : q0 = false := HCL.out
              go_wp2_with fail
              go_ret
              exact ⟨rfl, HB1.out⟩
          cases ev1
          rotate_left
          · as_aux_lemma =>
              obtain rfl : q0 = true := HCL.out
              go_wp2_with fail
              go_ret
              exact ⟨rfl, HB1.out⟩
          cases ev2
          rotate_left
          · as_aux_lemma =>
              obtain rfl : q0 = true := HCL.out
              go_wp2_with fail
              go_ret
              exact ⟨rfl, HB1.out⟩
          cases ru2
          · as_aux_lemma =>
              obtain rfl : q0 = false := HCL.out
              go_wp2_with fail
              go_ret
              exact ⟨rfl, HB1.out⟩
          cases ac1
          · as_aux_lemma =>
              obtain rfl : q0 = true := HCL.out
              go_wp2_with fail
              go_ret
              exact ⟨rfl, HB1.out⟩
          · as_aux_lemma =>
              obtain rfl : q0 = false := HCL.out
              go_wp2_with fail
              go_ret
              exact ⟨rfl, HB1.out⟩
      have HC : Aside ((bits BinOp.and IntKind.u8 ch1 (bits BinOp.or IntKind.u8 ch2 co2) != 0) = c) := hC
      clear HZZ hC
      obtain ⟨i1, hi1⟩ : ∃ p, p = Maps.has (mapD es1) (kl k) := ⟨_, rfl⟩
      have HI1 : Aside (i1 = Maps.has (mapD es1) (kl k)) := hi1
      have hlook := HM1.out.lookOk hk
      rw [← hi1] at hlook
      clear hi1
      go_upto_if 124 with fail
      go_cut [17] from 24 (fun s17 wx => s17 = .bool true ∧ Aside (Below x17.heap.size x17 wx))
      case first =>
        cases i1
        · go_wp2_with fail
          go_meet
          case rel => exact ⟨rfl, (show Below _ _ _ from Below.refl _ _)⟩
        as_aux_lemma =>
          have KA0 := KAX.out.at (i := 0) (v := .slice a1 l1 c1) rfl
          have KA1 := KAX.out.at (i := 1) (v := .bool rs1) rfl
          have KA2 := KAX.out.at (i := 2) (v := .string u1) rfl
          have KA3 := KAX.out.at (i := 3) (v := .bool ev1) rfl
          have KA4 := KAX.out.at (i := 4) (v := .slice a2 l2 c2) rfl
          have KA5 := KAX.out.at (i := 5) (v := .bool ru1) rfl
          have KA6 := KAX.out.at (i := 6) (v := .slice a3 l3 c3) rfl
          have KA7 := KAX.out.at (i := 7) (v := .string p1) rfl
          have KA8 := KAX.out.at (i := 8) (v := .int .u8 ch1) rfl
          have KA9 := KAX.out.at (i := 9) (v := .int .u8 co1) rfl
          have KA10 := KAX.out.at (i := 10) (v := .bool ac1) rfl
          have KS0 := KSX.out.at (i := 0) (v := .map m4) rfl
          have KS1 := KSX.out.at (i := 1) (v := .bool rs2) rfl
          have KS2 := KSX.out.at (i := 2) (v := .string u2) rfl
          have KS3 := KSX.out.at (i := 3) (v := .bool ev2) rfl
          have KS4 := KSX.out.at (i := 4) (v := .map m5) rfl
          have KS5 := KSX.out.at (i := 5) (v := .bool ru2) rfl
          have KS6 := KSX.out.at (i := 6) (v := .map m6) rfl
          have KS7 := KSX.out.at (i := 7) (v := .string p2) rfl
          have KS8 := KSX.out.at (i := 8) (v := .int .u8 ch2) rfl
          have KS9 := KSX.out.at (i := 9) (v := .int .u8 co2) rfl
          have KS10 := KSX.out.at (i := 10) (v := .bool ac2) rfl
          have hA := KAX.out.1
          have hS := KSX.out.1
          go_wp2_with fail
          go_region_held3 (fun w' => (∀ b o, b < x17.heap.size → w'.cell? ⟨b, o, none⟩ = x17.cell? ⟨b, o, none⟩) ∧ Below x17.heap.size x17 w') (first | assumption | exact heldS0 _ | exact keepS (by assumption) (by assumption))
            (first
              | (go_at_call 18; refine (wo_any a1 l1 c1 es1 k _ (by exact HE1.out.below (heldB (by assumption))) (by omega)).mono ?_; rintro e y18 ⟨m7, rfl, hm7, hb18⟩)
              | (go_at_call 16; refine (build_any a1 a2 a3 l1 c1 l2 c2 l3 c3 rs1 ev1 ru1 ac1 u1 p1 ch1 co1 m7 m2 m3 _).mono ?_; rintro e y16 ⟨rfl, hb16⟩)
              | (go_at_call 17; refine (zzReach_any m7 m2 m3 rs1 ev1 ru1 ac1 u1 p1 ch1 co1 m4 m5 m6 rs2 ev2 ru2 ac2 u2 p2 ch2 co2 l1 l2 l4 l5 l6 (mapD (wo es1 k)) (mapD es2) (mapD es4) (mapD es5) (mapD es6) c _ (by exact hm7.belowAll hb16) (by exact HM2.out.belowAll (heldB (by assumption))) (by exact HM4.out.belowAll (heldB (by assumption))) (by exact HM5.out.belowAll (heldB (by assumption))) (by exact HM6.out.belowAll (heldB (by assumption))) HC.out).mono ?_; rintro e y17 ⟨q1, rfl, hq1, hb17⟩))
          have HBq : Aside (Below x17.heap.size x17 y17) := heldB (by assumption)
          have HPEEL : Aside (q0 = (q1 || fRole rs1 (mapD es4) (mapD es5) (mapD es6) (kl k))) := reach_peel1 es1 k HQ0.out (by rw [HSM.out]; exact hq1) HI1.out.symm
          rename (∀ _ _, _ < _ → _) ∧ _ => hHeldX
          clear hHeldX
          clear KA0 KA1 KA2 KA3 KA4 KA5 KA6 KA7 KA8 KA9 KA10
          clear KS0 KS1 KS2 KS3 KS4 KS5 KS6 KS7 KS8 KS9 KS10
          clear hA hS hq1 hb16 hb17 hb18 hm7 HQ0
          replace KAX := show Aside (Box y17 (w.heap.size) #[.slice a1 l1 c1, .bool rs1, .string u1, .bool ev1, .slice a2 l2 c2, .bool ru1, .slice a3 l3 c3, .string p1, .int .u8 ch1, .int .u8 co1, .bool ac1]) from KAX.out.belowAll HBq.out
          have KA1 := KAX.out.at (i := 1) (v := .bool rs1) rfl
          have hlookA := (HM4.out.belowAll HBq.out).look hk
          have hlookB := (HM5.out.belowAll HBq.out).look hk
          have hlookC := (HM6.out.belowAll HBq.out).look hk
          obtain ⟨x1, hx1⟩ : ∃ x, x = atB (mapD es4) (kl k) := ⟨_, rfl⟩
          obtain ⟨x2, hx2⟩ : ∃ x, x = atB (mapD es5) (kl k) := ⟨_, rfl⟩
          obtain ⟨x3, hx3⟩ : ∃ x, x = atB (mapD es6) (kl k) := ⟨_, rfl⟩
          replace HPEEL := show Aside (q0 = (q1 || (x1 || x2 || (rs1 && x3)))) from by have := HPEEL.out; unfold fRole at this; rw [← hx1, ← hx2, ← hx3] at this; exact this
          rw [← hx1] at hlookA
          rw [← hx2] at hlookB
          rw [← hx3] at hlookC
          clear hx1 hx2 hx3
          cases q1
          rotate_left
          · as_aux_lemma =>
              obtain rfl : q0 = true := HPEEL.out
              go_wp2_with fail
              go_meet
              case rel => exact ⟨rfl, HBq.out⟩
          cases x1
          rotate_left
          · as_aux_lemma =>
              obtain rfl : q0 = true := HPEEL.out
              go_wp2_with fail
              go_meet
              case rel => exact ⟨rfl, HBq.out⟩
          cases x2
          rotate_left
          · as_aux_lemma =>
              obtain rfl : q0 = true := HPEEL.out
              go_wp2_with fail
              go_meet
              case rel => exact ⟨rfl, HBq.out⟩
          cases rs1
          · as_aux_lemma =>
              obtain rfl : q0 = false := HPEEL.out
              go_wp2_with fail
              go_meet
              case rel => exact ⟨rfl, HBq.out⟩
          cases x3
          · as_aux_lemma =>
              obtain rfl : q0 = false := HPEEL.out
              go_wp2_with fail
              go_meet
              case rel => exact ⟨rfl, HBq.out⟩
          · as_aux_lemma =>
              obtain rfl : q0 = true := HPEEL.out
              go_wp2_with fail
              go_meet
              case rel => exact ⟨rfl, HBq.out⟩
      case rest =>
        as_aux_lemma =>
          obtain ⟨rfl, hwc⟩ := hcut
          clear HI1 hlook
          replace KAX := show Aside (Box wc (w.heap.size) #[.slice a1 l1 c1, .bool rs1, .string u1, .bool ev1, .slice a2 l2 c2, .bool ru1, .slice a3 l3 c3, .string p1, .int .u8 ch1, .int .u8 co1, .bool ac1]) from KAX.out.belowAll hwc.out
          replace KBX := show Aside (Box wc (w.heap.size + 1) #[.slice a4 l4 c4, .bool rs2, .string u2, .bool ev2, .slice a5 l5 c5, .bool ru2, .slice a6 l6 c6, .string p2, .int .u8 ch2, .int .u8 co2, .bool ac2]) from KBX.out.belowAll hwc.out
          replace HE2 := show Aside (Ents wc a2 l2 es2) from HE2.out.below hwc.out
          replace HM1 := show Aside (IsM wc m1 l1 (mapD es1)) from HM1.out.belowAll hwc.out
          replace HM2 := show Aside (IsM wc m2 l2 (mapD es2)) from HM2.out.belowAll hwc.out
          replace HM3 := show Aside (IsM wc m3 l3 (mapD es3)) from HM3.out.belowAll hwc.out
          replace HM4 := show Aside (IsM wc m4 l4 (mapD es4)) from HM4.out.belowAll hwc.out
          replace HM5 := show Aside (IsM wc m5 l5 (mapD es5)) from HM5.out.belowAll hwc.out
          replace HM6 := show Aside (IsM wc m6 l6 (mapD es6)) from HM6.out.belowAll hwc.out
          replace HB1 := show Aside (Below w.heap.size w wc) from HB1.out.trans (hwc.out.mono HB1.out.size)
          replace KSX := show Aside (Box wc sb #[.map m4, .bool rs2, .string u2, .bool ev2, .map m5, .bool ru2, .map m6, .string p2, .int .u8 ch2, .int .u8 co2, .bool ac2]) from KSX.out.belowAll hwc.out
          clear hwc
          obtain ⟨i2, hi2⟩ : ∃ p, p = Maps.has (mapD es2) (kl k) := ⟨_, rfl⟩
          have HI2 : Aside (i2 = Maps.has (mapD es2) (kl k)) := hi2
          have hlook := HM2.out.lookOk hk
          rw [← hi2] at hlook
          clear hi2
          cases i2
          · go_wp2_with fail
            go_ret
            exact ⟨rfl, HB1.out⟩
          have KA0 := KAX.out.at (i := 0) (v := .slice a1 l1 c1) rfl
          have KA1 := KAX.out.at (i := 1) (v := .bool rs1) rfl
          have KA2 := KAX.out.at (i := 2) (v := .string u1) rfl
          have KA3 := KAX.out.at (i := 3) (v := .bool ev1) rfl
          have KA4 := KAX.out.at (i := 4) (v := .slice a2 l2 c2) rfl
          have KA5 := KAX.out.at (i := 5) (v := .bool ru1) rfl
          have KA6 := KAX.out.at (i := 6) (v := .slice a3 l3 c3) rfl
          have KA7 := KAX.out.at (i := 7) (v := .string p1) rfl
          have KA8 := KAX.out.at (i := 8) (v := .int .u8 ch1) rfl
          have KA9 := KAX.out.at (i := 9) (v := .int .u8 co1) rfl
          have KA10 := KAX.out.at (i := 10) (v := .bool ac1) rfl
          have KS0 := KSX.out.at (i := 0) (v := .map m4) rfl
          have KS1 := KSX.out.at (i := 1) (v := .bool rs2) rfl
          have KS2 := KSX.out.at (i := 2) (v := .string u2) rfl
          have KS3 := KSX.out.at (i := 3) (v := .bool ev2) rfl
          have KS4 := KSX.out.at (i := 4) (v := .map m5) rfl
          have KS5 := KSX.out.at (i := 5) (v := .bool ru2) rfl
          have KS6 := KSX.out.at (i := 6) (v := .map m6) rfl
          have KS7 := KSX.out.at (i := 7) (v := .string p2) rfl
          have KS8 := KSX.out.at (i := 8) (v := .int .u8 ch2) rfl
          have KS9 := KSX.out.at (i := 9) (v := .int .u8 co2) rfl
          have KS10 := KSX.out.at (i := 10) (v := .bool ac2) rfl
          have hA := KAX.out.1
          have hS := KSX.out.1
          go_wp2_with fail
          go_region_held3 (fun w' => (∀ b o, b < wc.heap.size → w'.cell? ⟨b, o, none⟩ = wc.cell? ⟨b, o, none⟩) ∧ Below wc.heap.size wc w') (first | assumption | exact heldS0 _ | exact keepS (by assumption) (by assumption))
            (first
              | (go_at_call 18; refine (wo_any a2 l2 c2 es2 k _ (by exact HE2.out.below (heldB (by assumption))) (by omega)).mono ?_; rintro e y18 ⟨m7, rfl, hm7, hb18⟩)
              | (go_at_call 16; refine (build_any a1 a2 a3 l1 c1 l2 c2 l3 c3 rs1 ev1 ru1 ac1 u1 p1 ch1 co1 m1 m7 m3 _).mono ?_; rintro e y16 ⟨rfl, hb16⟩)
              | (go_at_call 17; refine (zzReach_any m1 m7 m3 rs1 ev1 ru1 ac1 u1 p1 ch1 co1 m4 m5 m6 rs2 ev2 ru2 ac2 u2 p2 ch2 co2 l1 l2 l4 l5 l6 (mapD es1) (mapD (wo es2 k)) (mapD es4) (mapD es5) (mapD es6) c _ (by exact HM1.out.belowAll (heldB (by assumption))) (by exact hm7.belowAll hb16) (by exact HM4.out.belowAll (heldB (by assumption))) (by exact HM5.out.belowAll (heldB (by assumption))) (by exact HM6.out.belowAll (heldB (by assumption))) HC.out).mono ?_; rintro e y17 ⟨q2, rfl, hq2, hb17⟩))
          have HBq : Aside (Below wc.heap.size wc y17) := heldB (by assumption)
          have HPEEL : Aside (q0 = (q2 || (sm && atB (mapD es5) (kl k)))) := reach_peel2 es2 k HQ0.out (by rw [HSM.out]; exact hq2) HI2.out.symm
          rename (∀ _ _, _ < _ → _) ∧ _ => hHeldX
          clear hHeldX
          clear KA0 KA1 KA2 KA3 KA4 KA5 KA6 KA7 KA8 KA9 KA10
          clear KS0 KS1 KS2 KS3 KS4 KS5 KS6 KS7 KS8 KS9 KS10
          clear hA hS hq2 hb16 hb17 hb18 hm7 HQ0 hlook
          have hlookB := (HM5.out.belowAll HBq.out).look hk
          replace HB1 := show Aside (Below w.heap.size w y17) from HB1.out.trans (HBq.out.mono HB1.out.size)
          obtain ⟨x2, hx2⟩ : ∃ x, x = atB (mapD es5) (kl k) := ⟨_, rfl⟩
          rw [← hx2] at hlookB HPEEL
          clear hx2
          cases q2
          rotate_left
          · as_aux_lemma =>
              obtain rfl : q0 = true := HPEEL.out
              go_wp2_with fail
              go_ret
              exact ⟨rfl, HB1.out⟩
          cases sm
          · as_aux_lemma =>
              obtain rfl : q0 = false := HPEEL.out
              go_wp2_with fail
              go_ret
              exact ⟨rfl, HB1.out⟩
          cases x2
          · as_aux_lemma =>
              obtain rfl : q0 = false := HPEEL.out
              go_wp2_with fail
              go_ret
              exact ⟨rfl, HB1.out⟩
          · as_aux_lemma =>
              obtain rfl : q0 = true := HPEEL.out
              go_wp2_with fail
              go_ret
              exact ⟨rfl, HB1.out⟩

end Go.Proofs.Qxb6602338a
