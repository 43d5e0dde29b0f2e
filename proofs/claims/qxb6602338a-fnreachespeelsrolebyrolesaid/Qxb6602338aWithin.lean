/-
  within (function 36) and its wrapper (28), walked: whatever maps, nil too.
-/
import Derived.Test.Qxb6602338aBase
namespace Go.Proofs.Qxb6602338a
open Go.RowKit

/-- every key of D1 is held true by D2 -/
def Within (D1 D2 : DataW Unit) : Prop := ∀ k, Maps.has D1 k = true → atB D2 k = true

set_option maxHeartbeats 400000 in
theorem within_any (m1 m2 : Option Nat) (n1 n2 : Nat) (D1 D2 : DataW Unit) (w : World) (h1 : IsM w m1 n1 D1) (h2 : IsM w m2 n2 D2) :
    Calls Try.prog 36 #[.map m1, .map m2] w fun e w' => ∃ r : Bool, e = .returned (.bool r) ∧ (r = true ↔ Within D1 D2) ∧ Below w.heap.size w w' := by
  have H1 : Aside (IsM w m1 n1 D1) := h1
  have H2 : Aside (IsM w m2 n2 D2) := h2
  clear h1 h2
  go_enter Try.func36, Try.ntmps36
  go_wp2_with (first | (at_range; refine wpList_range_M _ rfl _ rfl m1 n1 D1 rfl H1.out ?_; intro w0 hrg0 hg0 hs0) | go_in)
  go_frame
  have HB0 : Aside (Below w.heap.size w w0) := (Below.refl _ _).grown hg0 (Nat.le_refl _) (by simp)
  have HR0 : Aside (IsR w0 w.heap.size m1 n1 D1 (Maps.has D1) (Maps.size D1)) := hrg0
  clear hrg0 hg0 hs0
  go_loopg [5] (Maps.size D1) (fun k _ wr => Aside (∃ left, IsR wr w.heap.size m1 n1 D1 left k ∧ Below w.heap.size w wr ∧ (∀ x, left x = true → Maps.has D1 x = true) ∧ (∀ x, Maps.has D1 x = true → left x = false → atB D2 x = true)))
  case atStart => exact ⟨Maps.has D1, HR0.out, HB0.out, fun _ h => h, fun x a b => by rw [a] at b; cases b⟩
  case round =>
    obtain ⟨left, hR, hB, hl1, hl2⟩ := hrel.out
    have HL : Aside ((∀ x, left x = true → Maps.has D1 x = true) ∧ (∀ x, Maps.has D1 x = true → left x = false → atB D2 x = true)) := ⟨hl1, hl2⟩
    have HB : Aside (Below w.heap.size w wr) := hB
    have HR : Aside (IsR wr w.heap.size m1 n1 D1 left gk) := hR
    clear hrel hl1 hl2 hR hB
    go_wp2_with (first | (at_next; refine wpList_next_M _ rfl _ rfl w.heap.size m1 n1 D1 left gk rfl HR.out ?_ ?_) | go_in)
    · intro hl
      have HE : Aside (∀ k, left k = false) := hl
      clear hl
      go_wp2
      go_ret
      exact ⟨true, rfl, ⟨fun _ k hk => HL.out.2 k hk (HE.out k), fun _ => rfl⟩, HB.out⟩
    · intro s c w1 cnt1 hs hls hR1 hlt hg1 hs1 hen
      have HB1 : Aside (Below w.heap.size w w1) := HB.out.grown hg1 HB.out.size (fun k e => by cases e; exact Nat.le_refl _)
      have HR1 : Aside (IsR w1 w.heap.size m1 n1 D1 (fun z => left z && !z.sameKey (kl s)) cnt1) := hR1
      have HS : Aside (left (kl s) = true) := hls
      have hlook := (H2.out.belowAll HB1.out).look hs
      clear hls hR1 hg1 hs1
      by_cases hat : atB D2 (kl s) = true
      · have HA : Aside (atB D2 (kl s) = true) := hat
        rw [hat] at hlook
        clear hat
        go_wp2
        go_roundg cnt1
        case measure => exact hlt
        case rel =>
          refine ⟨_, HR1.out, HB1.out, fun x hx => HL.out.1 x ?_, fun x hx hlx => ?_⟩
          · simp at hx; exact hx.1
          · by_cases hl : left x = false
            · exact HL.out.2 x hx hl
            · simp [hl] at hlx
              rw [WideAt.sameKey_eq hlx]
              exact HA.out
      · have HA : Aside (atB D2 (kl s) = false) := by show _ = _; simpa using hat
        rw [HA.out] at hlook
        clear hat
        go_wp2
        go_ret
        refine ⟨false, rfl, ⟨fun h => (by cases h), fun h => ?_⟩, HB1.out⟩
        have := h (kl s) (HL.out.1 _ HS.out)
        rw [HA.out] at this
        cases this

set_option maxHeartbeats 400000 in
theorem zzWithin_any (m1 m2 : Option Nat) (n1 n2 : Nat) (D1 D2 : DataW Unit) (w : World) (h1 : IsM w m1 n1 D1) (h2 : IsM w m2 n2 D2) :
    Calls Try.prog 28 #[.map m1, .map m2] w fun e w' => ∃ r : Bool, e = .returned (.bool r) ∧ (r = true ↔ Within D1 D2) ∧ Below w.heap.size w w' := by
  have H1 : Aside (IsM w m1 n1 D1) := h1
  have H2 : Aside (IsM w m2 n2 D2) := h2
  clear h1 h2
  go_enter Try.func28, Try.ntmps28
  go_wp2_with fail
  refine (within_any m1 m2 n1 n2 D1 D2 _ H1.out H2.out).mono ?_
  rintro e w1 ⟨r, rfl, hr, hb⟩
  have HR : Aside (r = true ↔ Within D1 D2) := hr
  clear hr
  go_wp2_with fail
  go_ret
  exact ⟨r, rfl, HR.out, hb⟩
end Go.Proofs.Qxb6602338a
