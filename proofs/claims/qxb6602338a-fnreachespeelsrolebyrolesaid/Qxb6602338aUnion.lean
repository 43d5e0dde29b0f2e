/-
  union (function 35) and its wrapper (26), walked: whatever maps, nil too.
-/
import Derived.Test.Qxb6602338aBase
namespace Go.Proofs.Qxb6602338a
open Go.RowKit

/-! ### plain: a store of 'true' -/
theorem has_putT {D : DataW Unit} (h : Maps.IsMap D) (s : ByteArray) (v : Bool) (x : Lit) : Maps.has (D.put (kl s) (.lit (.bool v))) x = (Maps.has D x || x.sameKey (kl s)) := by
  by_cases e : x = kl s
  · subst e
    rw [Maps.has_put_same h (kl_isKey s), WideAt.sameKey_self (kl_isKey s)]
    simp
  · rw [Maps.has_put_other e, Maps.sameKey_ne e]
    simp
theorem atB_put_same {D : DataW Unit} (h : Maps.IsMap D) (s : ByteArray) (v : Bool) : atB (D.put (kl s) (.lit (.bool v))) (kl s) = v :=
  atB_of (Maps.atKey_put_same h (kl_isKey s) _ _)
theorem atB_put_other {D : DataW Unit} (s : ByteArray) (v : Bool) {x : Lit} (e : x ≠ kl s) : atB (D.put (kl s) (.lit (.bool v))) x = atB D x := by
  unfold atB
  rw [Maps.atKey_put_other e]

/-- all its keys are held true -/
def AllTrue (D : DataW Unit) : Prop := ∀ x, Maps.has D x = true → atB D x = true
theorem AllTrue.put {D : DataW Unit} (h : AllTrue D) (hm : Maps.IsMap D) (s : ByteArray) : AllTrue (D.put (kl s) (.lit (.bool true))) := by
  intro x hx
  by_cases e : x = kl s
  · subst e
    exact atB_put_same hm s true
  · rw [atB_put_other s true e]
    rw [has_putT hm, Maps.sameKey_ne e] at hx
    exact h x (by simpa using hx)

/-- one step of the range, and its store -/
theorem step_keys (base left : Lit → Bool) (hasD hasU : Lit → Bool) (k : Lit) (hk : hasD k = true) (h : ∀ x, hasU x = (base x || hasD x && !left x)) (x : Lit) :
    (hasU x || x.sameKey k) = (base x || hasD x && !(left x && !x.sameKey k)) := by
  rw [h x]
  cases e : x.sameKey k
  · simp
  · rw [WideAt.sameKey_eq e, hk]
    simp

set_option maxHeartbeats 1000000 in
theorem union_any (m1 m2 : Option Nat) (n1 n2 : Nat) (D1 D2 : DataW Unit) (w : World) (h1 : IsM w m1 n1 D1) (h2 : IsM w m2 n2 D2) (hn : n1 + n2 < maxLen) :
    Calls Try.prog 35 #[.map m1, .map m2] w fun e w' => ∃ Du, e = .returned (.map (some w.heap.size)) ∧ w'.ownsMap Try.prog 9 (plainElem Try.prog 4) w.heap.size (n1 + n2) Du ∧ (∀ x, Maps.has Du x = (Maps.has D1 x || Maps.has D2 x)) ∧ AllTrue Du ∧ Below w.heap.size w w' := by
  have H1 : Aside (IsM w m1 n1 D1) := h1
  have H2 : Aside (IsM w m2 n2 D2) := h2
  have HN : Aside (n1 + n2 < maxLen ∧ Maps.size D1 ≤ n1 ∧ Maps.size D2 ≤ n2) := ⟨hn, h1.size_le, h2.size_le⟩
  have hl1 := h1.len
  have hl2 := h2.len
  have hmk := run_makeMap_hint
  have HB1 : Aside (Below w.heap.size w (w.alloc (.map #[] 0))) := (Below.refl _ _).alloc (Nat.le_refl _) _
  have H1' : Aside (IsM (w.alloc (.map #[] 0)) m1 n1 D1) := h1.belowAll HB1.out
  have HO : Aside ((w.alloc (.map #[] 0)).ownsMap Try.prog 9 (plainElem Try.prog 4) w.heap.size 0 (.map [] : DataW Unit)) := World.ownsMap_made _ _ _ _
  clear h1 h2 hn
  go_enter Try.func35, Try.ntmps35
  go_wp2_with (first | (at_range; refine wpList_range_M _ rfl _ rfl m1 n1 D1 rfl H1'.out ?_; intro w0 hrg0 hg0 hs0) | go_in)
  go_frame
  obtain ⟨r1, hr1e⟩ : ∃ r, r = (w.alloc (.map #[] 0)).heap.size := ⟨_, rfl⟩
  rw [← hr1e] at hrg0 ⊢
  have hr1 : w.heap.size < r1 := by rw [hr1e]; simp
  have HB0 : Aside (Below w.heap.size w w0) := HB1.out.grown hg0 (by simp) (by simp)
  have HR0 : Aside (IsR w0 r1 m1 n1 D1 (Maps.has D1) (Maps.size D1)) := hrg0
  have HO0 : Aside (w0.ownsMap Try.prog 9 (plainElem Try.prog 4) w.heap.size 0 (.map [] : DataW Unit)) := HO.out.kept hg0 (by simp)
  clear hrg0 hg0 hs0 hr1e
  go_loopg [6] (Maps.size D1) (fun k _ wr => Aside (∃ left j Du, IsR wr r1 m1 n1 D1 left k ∧ wr.ownsMap Try.prog 9 (plainElem Try.prog 4) w.heap.size j Du ∧ j + k ≤ Maps.size D1 ∧ Below w.heap.size w wr ∧ (∀ x, left x = true → Maps.has D1 x = true) ∧ (∀ x, Maps.has Du x = (false || Maps.has D1 x && !left x)) ∧ AllTrue Du))
  case atStart => exact ⟨Maps.has D1, 0, .map [], HR0.out, HO0.out, by omega, HB0.out, fun _ h => h, fun x => by cases h : Maps.has D1 x <;> rfl, fun x hx => by cases hx⟩
  case round =>
    obtain ⟨left, j, Du, hR, hO, hj, hB, hl1, hl2, hT⟩ := hrel.out
    have HL : Aside ((∀ x, left x = true → Maps.has D1 x = true) ∧ (∀ x, Maps.has Du x = (false || Maps.has D1 x && !left x)) ∧ AllTrue Du ∧ j + gk ≤ Maps.size D1) := ⟨hl1, hl2, hT, hj⟩
    have HB : Aside (Below w.heap.size w wr) := hB
    have HR : Aside (IsR wr r1 m1 n1 D1 left gk) := hR
    have HU : Aside (wr.ownsMap Try.prog 9 (plainElem Try.prog 4) w.heap.size j Du) := hO
    clear hrel hl1 hl2 hR hB hT hj hO
    go_wp2_with (first | (at_next; refine wpList_next_M _ rfl _ rfl r1 m1 n1 D1 left gk rfl HR.out ?_ ?_) | go_in)
    rotate_left
    · intro s c w1 cnt1 hs hls hR1 hlt hg1 hs1 hen
      have HB1 : Aside (Below w.heap.size w w1) := HB.out.grown hg1 HB.out.size (fun k e => by cases e; exact Nat.le_of_lt hr1)
      have HU1 : Aside (w1.ownsMap Try.prog 9 (plainElem Try.prog 4) w.heap.size j Du) := HU.out.kept hg1 (by intro e; cases e; exact absurd hr1 (Nat.lt_irrefl _))
      obtain ⟨w2, hrun, hO2, hg2⟩ := HU1.out.update law Try.underlying28 (by have := HL.out.2.2.2; have := HN.out; omega) (keyOf_kl hs) (plainElem_bool Try.underlying4 true)
      have HR2 : Aside (IsR w2 r1 m1 n1 D1 (fun z => left z && !z.sameKey (kl s)) cnt1) := hR1.grown hg2 (by intro e; cases e; exact absurd hr1 (Nat.lt_irrefl _)) (fun b hb e => by cases e; exact absurd (H1.out.lt hb) (Nat.lt_irrefl _))
      have HB2 : Aside (Below w.heap.size w w2) := HB1.out.grown hg2 HB1.out.size (fun k e => by cases e; exact Nat.le_refl _)
      have HO2 : Aside (w2.ownsMap Try.prog 9 (plainElem Try.prog 4) w.heap.size (j + 1) (Du.put (kl s) (.lit (.bool true)))) := hO2
      have HS : Aside (left (kl s) = true) := hls
      clear hls hR1 hg1 hs1 hO2 hg2
      go_wp2
      go_roundg cnt1
      case measure => exact hlt
      case rel =>
        refine ⟨_, j + 1, _, HR2.out, HO2.out, by have := HL.out.2.2.2; omega, HB2.out, fun x hx => HL.out.1 x ?_, fun x => ?_, HL.out.2.2.1.put HU1.out.isMap s⟩
        · simp at hx; exact hx.1
        · rw [has_putT HU1.out.isMap]
          exact step_keys _ left (Maps.has D1) (Maps.has Du) (kl s) (HL.out.1 _ HS.out) HL.out.2.1 x
    · intro hl
      have HE : Aside (∀ k, left k = false) := hl
      clear hl
      have H2r : Aside (IsM wr m2 n2 D2) := H2.out.belowAll HB.out
      go_wp2_with (first | (at_range; refine wpList_range_M _ rfl _ rfl m2 n2 D2 rfl H2r.out ?_; intro w3 hrg3 hg3 hs3) | go_in)
      go_frame
      obtain ⟨r2, hr2e⟩ : ∃ r, r = wr.heap.size := ⟨_, rfl⟩
      rw [← hr2e] at hrg3 ⊢
      have hr2 : w.heap.size < r2 := by rw [hr2e]; exact HU.out.lt
      have HB0b : Aside (Below w.heap.size w w3) := HB.out.grown hg3 HB.out.size (fun k e => by cases e)
      have HR0b : Aside (IsR w3 r2 m2 n2 D2 (Maps.has D2) (Maps.size D2)) := hrg3
      have HUb : Aside (w3.ownsMap Try.prog 9 (plainElem Try.prog 4) w.heap.size j Du) := HU.out.kept hg3 (by simp)
      clear hrg3 hg3 hs3 hr2e
      go_loopg [7] (Maps.size D2) (fun k _ wr => Aside (∃ left j Du, IsR wr r2 m2 n2 D2 left k ∧ wr.ownsMap Try.prog 9 (plainElem Try.prog 4) w.heap.size j Du ∧ j + k ≤ n1 + Maps.size D2 ∧ Below w.heap.size w wr ∧ (∀ x, left x = true → Maps.has D2 x = true) ∧ (∀ x, Maps.has Du x = (Maps.has D1 x || Maps.has D2 x && !left x)) ∧ AllTrue Du))
      case atStart => exact ⟨Maps.has D2, j, Du, HR0b.out, HUb.out, by have := HL.out.2.2.2; have := HN.out; omega, HB0b.out, fun _ h => h, fun x => by rw [HL.out.2.1 x, HE.out x]; cases Maps.has D1 x <;> cases Maps.has D2 x <;> rfl, HL.out.2.2.1⟩
      case round =>
        obtain ⟨left, j, Du, hR, hO, hj, hB, hl1, hl2, hT⟩ := hrel.out
        have HL : Aside ((∀ x, left x = true → Maps.has D2 x = true) ∧ (∀ x, Maps.has Du x = (Maps.has D1 x || Maps.has D2 x && !left x)) ∧ AllTrue Du ∧ j + gk ≤ n1 + Maps.size D2) := ⟨hl1, hl2, hT, hj⟩
        have HB : Aside (Below w.heap.size w wr) := hB
        have HR : Aside (IsR wr r2 m2 n2 D2 left gk) := hR
        have HU : Aside (wr.ownsMap Try.prog 9 (plainElem Try.prog 4) w.heap.size j Du) := hO
        clear hrel hl1 hl2 hR hB hT hj hO
        go_wp2_with (first | (at_next; refine wpList_next_M _ rfl _ rfl r2 m2 n2 D2 left gk rfl HR.out ?_ ?_) | go_in)
        rotate_left
        · intro s c w1 cnt1 hs hls hR1 hlt hg1 hs1 hen
          have HB1 : Aside (Below w.heap.size w w1) := HB.out.grown hg1 HB.out.size (fun k e => by cases e; exact Nat.le_of_lt hr2)
          have HU1 : Aside (w1.ownsMap Try.prog 9 (plainElem Try.prog 4) w.heap.size j Du) := HU.out.kept hg1 (by intro e; cases e; exact absurd hr2 (Nat.lt_irrefl _))
          obtain ⟨w2, hrun, hO2, hg2⟩ := HU1.out.update law Try.underlying28 (by have := HL.out.2.2.2; have := HN.out; omega) (keyOf_kl hs) (plainElem_bool Try.underlying4 true)
          have HR2 : Aside (IsR w2 r2 m2 n2 D2 (fun z => left z && !z.sameKey (kl s)) cnt1) := hR1.grown hg2 (by intro e; cases e; exact absurd hr2 (Nat.lt_irrefl _)) (fun b hb e => by cases e; exact absurd (H2.out.lt hb) (Nat.lt_irrefl _))
          have HB2 : Aside (Below w.heap.size w w2) := HB1.out.grown hg2 HB1.out.size (fun k e => by cases e; exact Nat.le_refl _)
          have HO2 : Aside (w2.ownsMap Try.prog 9 (plainElem Try.prog 4) w.heap.size (j + 1) (Du.put (kl s) (.lit (.bool true)))) := hO2
          have HS : Aside (left (kl s) = true) := hls
          clear hls hR1 hg1 hs1 hO2 hg2
          go_wp2
          go_roundg cnt1
          case measure => exact hlt
          case rel =>
            refine ⟨_, j + 1, _, HR2.out, HO2.out, by have := HL.out.2.2.2; omega, HB2.out, fun x hx => HL.out.1 x ?_, fun x => ?_, HL.out.2.2.1.put HU1.out.isMap s⟩
            · simp at hx; exact hx.1
            · rw [has_putT HU1.out.isMap]
              exact step_keys _ left (Maps.has D2) (Maps.has Du) (kl s) (HL.out.1 _ HS.out) HL.out.2.1 x
        · intro hl
          have HE : Aside (∀ k, left k = false) := hl
          clear hl
          go_wp2
          go_ret
          exact ⟨Du, rfl, HU.out.mono (by have := HL.out.2.2.2; have := HN.out; omega), fun x => by rw [HL.out.2.1 x, HE.out x]; simp, HL.out.2.2.1, HB.out⟩

set_option maxHeartbeats 400000 in
theorem zzUnion_any (m1 m2 : Option Nat) (n1 n2 : Nat) (D1 D2 : DataW Unit) (w : World) (h1 : IsM w m1 n1 D1) (h2 : IsM w m2 n2 D2) (hn : n1 + n2 < maxLen) :
    Calls Try.prog 26 #[.map m1, .map m2] w fun e w' => ∃ Du, e = .returned (.map (some w.heap.size)) ∧ w'.ownsMap Try.prog 9 (plainElem Try.prog 4) w.heap.size (n1 + n2) Du ∧ (∀ x, Maps.has Du x = (Maps.has D1 x || Maps.has D2 x)) ∧ AllTrue Du ∧ Below w.heap.size w w' := by
  have H1 : Aside (IsM w m1 n1 D1) := h1
  have H2 : Aside (IsM w m2 n2 D2) := h2
  have HN : Aside (n1 + n2 < maxLen) := hn
  clear h1 h2 hn
  go_enter Try.func26, Try.ntmps26
  go_wp2_with fail
  refine (union_any m1 m2 n1 n2 D1 D2 _ H1.out H2.out HN.out).mono ?_
  rintro e w1 ⟨Du, rfl, hr⟩
  have HR : Aside _ := hr
  clear hr
  go_wp2_with fail
  go_ret
  exact ⟨Du, rfl, HR.out⟩
end Go.Proofs.Qxb6602338a
