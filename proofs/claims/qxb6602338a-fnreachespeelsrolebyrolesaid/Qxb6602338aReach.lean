/-
  reaches (33) and its wrapper (17), ZZNewScope (24), zzBuildWith (16), walked.
-/
import Derived.Test.Qxb6602338aUnion
namespace Go.Proofs.Qxb6602338a
open Go.RowKit

set_option maxHeartbeats 1000000 in
theorem new_any (m1 m2 m3 : Option Nat) (rs ev ru ac : Bool) (u p : ByteArray) (ch co : Int) (w : World) :
    Calls Try.prog 24 #[.map m1, .bool rs, .string u, .bool ev, .map m2, .bool ru, .map m3, .string p, .int .u8 ch, .int .u8 co, .bool ac] w fun e w' => e = .returned (.agg #[.map m1, .bool rs, .string u, .bool ev, .map m2, .bool ru, .map m3, .string p, .int .u8 ch, .int .u8 co, .bool ac]) ∧ w' = w.alloc (.cells #[.map m1, .bool rs, .string u, .bool ev, .map m2, .bool ru, .map m3, .string p, .int .u8 ch, .int .u8 co, .bool ac] 32) := by
  go_enter Try.func24, Try.ntmps24
  go_wp2
  exact bodyPost_ret (v := .agg #[.map m1, .bool rs, .string u, .bool ev, .map m2, .bool ru, .map m3, .string p, .int .u8 ch, .int .u8 co, .bool ac]) (by simp [results, Try.results24, go_sem]) rfl ⟨rfl, rfl⟩

/-- SOME KEY OF D IS ONE OF WHICH f SAYS YES -/
def Hit (D : DataW Unit) (f : Lit → Bool) : Prop := ∃ k, Maps.has D k = true ∧ f k = true
/-- WHAT reaches ANSWERS -/
def ReachP (c : Bool) (D1 D2 : DataW Unit) (f g : Lit → Bool) (same fl : Bool) : Prop := c = true ∨ Hit D1 f ∨ (same = true ∧ (fl = true ∨ Hit D2 g))
def fRole (rs : Bool) (E1 E2 E3 : DataW Unit) (k : Lit) : Bool := atB E1 k || atB E2 k || (rs && atB E3 k)
def sameU (u u' : ByteArray) : Bool := !u.toList.isEmpty && (u.toList == u'.toList)
def flag (ev ev' ru' ac : Bool) : Bool := ev || ev' || (ru' && !ac)

theorem no_hit {D : DataW Unit} {f : Lit → Bool} {left : Lit → Bool} (h : ∀ x, Maps.has D x = true → left x = false → f x = false) (hl : ∀ x, left x = false) : ¬ Hit D f := by
  rintro ⟨k, h1, h2⟩
  rw [h k h1 (hl k)] at h2
  cases h2

set_option maxHeartbeats 4000000 in
theorem reach_any (m1 m2 m3 : Option Nat) (rs ev ru ac : Bool) (u p : ByteArray) (ch co : Int) (m1' m2' m3' : Option Nat) (rs' ev' ru' ac' : Bool) (u' p' : ByteArray) (ch' co' : Int) (n1 n2 n1' n2' n3' : Nat) (D1 D2 E1 E2 E3 : DataW Unit) (c : Bool) (w : World)
    (h1 : IsM w m1 n1 D1) (h2 : IsM w m2 n2 D2) (g1 : IsM w m1' n1' E1) (g2 : IsM w m2' n2' E2) (g3 : IsM w m3' n3' E3) (hc : (bits BinOp.and IntKind.u8 ch (bits BinOp.or IntKind.u8 ch' co') != 0) = c) :
    Calls Try.prog 33 #[.agg #[.map m1, .bool rs, .string u, .bool ev, .map m2, .bool ru, .map m3, .string p, .int .u8 ch, .int .u8 co, .bool ac], .agg #[.map m1', .bool rs', .string u', .bool ev', .map m2', .bool ru', .map m3', .string p', .int .u8 ch', .int .u8 co', .bool ac']] w fun e w' => ∃ r : Bool, e = .returned (.bool r) ∧ (r = true ↔ ReachP c D1 D2 (fRole rs E1 E2 E3) (atB E2) (sameU u u') (flag ev ev' ru' ac)) ∧ Below w.heap.size w w' := by
  have H1 : Aside (IsM w m1 n1 D1) := h1
  have H2 : Aside (IsM w m2 n2 D2) := h2
  have G1 : Aside (IsM w m1' n1' E1) := g1
  have G2 : Aside (IsM w m2' n2' E2) := g2
  have G3 : Aside (IsM w m3' n3' E3) := g3
  have HB1 : Aside (Below w.heap.size w ((w.alloc (.cells #[.map m1, .bool rs, .string u, .bool ev, .map m2, .bool ru, .map m3, .string p, .int .u8 ch, .int .u8 co, .bool ac] 32)).alloc (.cells #[.map m1', .bool rs', .string u', .bool ev', .map m2', .bool ru', .map m3', .string p', .int .u8 ch', .int .u8 co', .bool ac'] 32))) := ((Below.refl _ _).alloc (Nat.le_refl _) _).alloc (by simp) _
  clear h1 h2 g1 g2 g3
  cases c
  rotate_left
  · go_enter Try.func33, Try.ntmps33
    go_wp2
    go_ret
    exact ⟨true, rfl, ⟨fun _ => .inl rfl, fun _ => rfl⟩, HB1.out⟩
  have Kca1 : Aside (((w.alloc (.cells #[.map m1, .bool rs, .string u, .bool ev, .map m2, .bool ru, .map m3, .string p, .int .u8 ch, .int .u8 co, .bool ac] 32)).alloc (.cells #[.map m1', .bool rs', .string u', .bool ev', .map m2', .bool ru', .map m3', .string p', .int .u8 ch', .int .u8 co', .bool ac'] 32)).cell? ⟨w.heap.size, 1, none⟩ = some (.bool rs)) := by show _ = _; go_simp
  have Kca2 : Aside (((w.alloc (.cells #[.map m1, .bool rs, .string u, .bool ev, .map m2, .bool ru, .map m3, .string p, .int .u8 ch, .int .u8 co, .bool ac] 32)).alloc (.cells #[.map m1', .bool rs', .string u', .bool ev', .map m2', .bool ru', .map m3', .string p', .int .u8 ch', .int .u8 co', .bool ac'] 32)).cell? ⟨w.heap.size, 2, none⟩ = some (.string u)) := by show _ = _; go_simp
  have Kca3 : Aside (((w.alloc (.cells #[.map m1, .bool rs, .string u, .bool ev, .map m2, .bool ru, .map m3, .string p, .int .u8 ch, .int .u8 co, .bool ac] 32)).alloc (.cells #[.map m1', .bool rs', .string u', .bool ev', .map m2', .bool ru', .map m3', .string p', .int .u8 ch', .int .u8 co', .bool ac'] 32)).cell? ⟨w.heap.size, 3, none⟩ = some (.bool ev)) := by show _ = _; go_simp
  have Kca4 : Aside (((w.alloc (.cells #[.map m1, .bool rs, .string u, .bool ev, .map m2, .bool ru, .map m3, .string p, .int .u8 ch, .int .u8 co, .bool ac] 32)).alloc (.cells #[.map m1', .bool rs', .string u', .bool ev', .map m2', .bool ru', .map m3', .string p', .int .u8 ch', .int .u8 co', .bool ac'] 32)).cell? ⟨w.heap.size, 4, none⟩ = some (.map m2)) := by show _ = _; go_simp
  have Kca10 : Aside (((w.alloc (.cells #[.map m1, .bool rs, .string u, .bool ev, .map m2, .bool ru, .map m3, .string p, .int .u8 ch, .int .u8 co, .bool ac] 32)).alloc (.cells #[.map m1', .bool rs', .string u', .bool ev', .map m2', .bool ru', .map m3', .string p', .int .u8 ch', .int .u8 co', .bool ac'] 32)).cell? ⟨w.heap.size, 10, none⟩ = some (.bool ac)) := by show _ = _; go_simp
  have Kcb0 : Aside (((w.alloc (.cells #[.map m1, .bool rs, .string u, .bool ev, .map m2, .bool ru, .map m3, .string p, .int .u8 ch, .int .u8 co, .bool ac] 32)).alloc (.cells #[.map m1', .bool rs', .string u', .bool ev', .map m2', .bool ru', .map m3', .string p', .int .u8 ch', .int .u8 co', .bool ac'] 32)).cell? ⟨w.heap.size + 1, 0, none⟩ = some (.map m1')) := by show _ = _; go_simp
  have Kcb2 : Aside (((w.alloc (.cells #[.map m1, .bool rs, .string u, .bool ev, .map m2, .bool ru, .map m3, .string p, .int .u8 ch, .int .u8 co, .bool ac] 32)).alloc (.cells #[.map m1', .bool rs', .string u', .bool ev', .map m2', .bool ru', .map m3', .string p', .int .u8 ch', .int .u8 co', .bool ac'] 32)).cell? ⟨w.heap.size + 1, 2, none⟩ = some (.string u')) := by show _ = _; go_simp
  have Kcb3 : Aside (((w.alloc (.cells #[.map m1, .bool rs, .string u, .bool ev, .map m2, .bool ru, .map m3, .string p, .int .u8 ch, .int .u8 co, .bool ac] 32)).alloc (.cells #[.map m1', .bool rs', .string u', .bool ev', .map m2', .bool ru', .map m3', .string p', .int .u8 ch', .int .u8 co', .bool ac'] 32)).cell? ⟨w.heap.size + 1, 3, none⟩ = some (.bool ev')) := by show _ = _; go_simp
  have Kcb4 : Aside (((w.alloc (.cells #[.map m1, .bool rs, .string u, .bool ev, .map m2, .bool ru, .map m3, .string p, .int .u8 ch, .int .u8 co, .bool ac] 32)).alloc (.cells #[.map m1', .bool rs', .string u', .bool ev', .map m2', .bool ru', .map m3', .string p', .int .u8 ch', .int .u8 co', .bool ac'] 32)).cell? ⟨w.heap.size + 1, 4, none⟩ = some (.map m2')) := by show _ = _; go_simp
  have Kcb5 : Aside (((w.alloc (.cells #[.map m1, .bool rs, .string u, .bool ev, .map m2, .bool ru, .map m3, .string p, .int .u8 ch, .int .u8 co, .bool ac] 32)).alloc (.cells #[.map m1', .bool rs', .string u', .bool ev', .map m2', .bool ru', .map m3', .string p', .int .u8 ch', .int .u8 co', .bool ac'] 32)).cell? ⟨w.heap.size + 1, 5, none⟩ = some (.bool ru')) := by show _ = _; go_simp
  have Kcb6 : Aside (((w.alloc (.cells #[.map m1, .bool rs, .string u, .bool ev, .map m2, .bool ru, .map m3, .string p, .int .u8 ch, .int .u8 co, .bool ac] 32)).alloc (.cells #[.map m1', .bool rs', .string u', .bool ev', .map m2', .bool ru', .map m3', .string p', .int .u8 ch', .int .u8 co', .bool ac'] 32)).cell? ⟨w.heap.size + 1, 6, none⟩ = some (.map m3')) := by show _ = _; go_simp
  have H1' : Aside (IsM ((w.alloc (.cells #[.map m1, .bool rs, .string u, .bool ev, .map m2, .bool ru, .map m3, .string p, .int .u8 ch, .int .u8 co, .bool ac] 32)).alloc (.cells #[.map m1', .bool rs', .string u', .bool ev', .map m2', .bool ru', .map m3', .string p', .int .u8 ch', .int .u8 co', .bool ac'] 32)) m1 n1 D1) := H1.out.belowAll HB1.out
  have HZ : Aside (((w.alloc (.cells #[.map m1, .bool rs, .string u, .bool ev, .map m2, .bool ru, .map m3, .string p, .int .u8 ch, .int .u8 co, .bool ac] 32)).alloc (.cells #[.map m1', .bool rs', .string u', .bool ev', .map m2', .bool ru', .map m3', .string p', .int .u8 ch', .int .u8 co', .bool ac'] 32)).heap.size = w.heap.size + 2) := by show _ = _; simp
  go_enter Try.func33, Try.ntmps33
  go_wp2_with (first | (at_range; refine wpList_range_M _ rfl _ rfl m1 n1 D1 rfl H1'.out ?_; intro w0 hrg0 hg0 hs0) | go_in)
  go_frame
  obtain ⟨W1, hW1⟩ : ∃ W, W = ((w.alloc (.cells #[.map m1, .bool rs, .string u, .bool ev, .map m2, .bool ru, .map m3, .string p, .int .u8 ch, .int .u8 co, .bool ac] 32)).alloc (.cells #[.map m1', .bool rs', .string u', .bool ev', .map m2', .bool ru', .map m3', .string p', .int .u8 ch', .int .u8 co', .bool ac'] 32)) := ⟨_, rfl⟩
  rw [← hW1] at Kca1 Kca2 Kca3 Kca4 Kca10 Kcb0 Kcb2 Kcb3 Kcb4 Kcb5 Kcb6 HB1 H1' HZ hrg0 hg0 hs0 ⊢
  obtain ⟨r1, hr1e⟩ : ∃ r, r = W1.heap.size := ⟨_, rfl⟩
  rw [← hr1e] at hrg0 ⊢
  have Hr1 : Aside (r1 = w.heap.size + 2) := hr1e.trans HZ.out
  have HB0 : Aside (Below (w.heap.size + 2) W1 w0) := (Below.refl _ _).grown hg0 (by rw [HZ.out]; exact Nat.le_refl _) (by simp)
  have HR0 : Aside (IsR w0 r1 m1 n1 D1 (Maps.has D1) (Maps.size D1)) := hrg0
  clear hrg0 hg0 hs0 hr1e hW1
  go_loopg [5] (Maps.size D1) (fun k _ wr => Aside (∃ left, IsR wr r1 m1 n1 D1 left k ∧ Below (w.heap.size + 2) W1 wr ∧ (∀ x, left x = true → Maps.has D1 x = true) ∧ (∀ x, Maps.has D1 x = true → left x = false → fRole rs E1 E2 E3 x = false)))
  case atStart => exact ⟨Maps.has D1, HR0.out, HB0.out, fun _ h => h, fun x a b => by rw [a] at b; cases b⟩
  case round =>
    obtain ⟨left, hR, hB, hl1, hl2⟩ := hrel.out
    have HL : Aside ((∀ x, left x = true → Maps.has D1 x = true) ∧ (∀ x, Maps.has D1 x = true → left x = false → fRole rs E1 E2 E3 x = false)) := ⟨hl1, hl2⟩
    have HB : Aside (Below (w.heap.size + 2) W1 wr) := hB
    have HBw : Aside (Below w.heap.size w wr) := HB1.out.trans (hB.mono (by omega))
    have HR : Aside (IsR wr r1 m1 n1 D1 left gk) := hR
    clear hrel hl1 hl2 hR hB
    go_wp2_with (first | (at_next; refine wpList_next_M _ rfl _ rfl r1 m1 n1 D1 left gk rfl HR.out ?_ ?_) | go_in)
    rotate_left
    · intro s cv w1 cnt1 hs hls hR1 hlt hg1 hs1 hen
      have HB1' : Aside (Below (w.heap.size + 2) W1 w1) := HB.out.grown hg1 (Nat.le_trans (Nat.le_of_eq HZ.out.symm) HB.out.size) (fun k e => by cases e; have := Hr1.out; omega)
      have HB1w : Aside (Below w.heap.size w w1) := HB1.out.trans (HB1'.out.mono (by omega))
      have HR1 : Aside (IsR w1 r1 m1 n1 D1 (fun z => left z && !z.sameKey (kl s)) cnt1) := hR1
      have HS : Aside (left (kl s) = true) := hls
      clear hls hR1 hg1 hs1
      have FALSE : Aside (fRole rs E1 E2 E3 (kl s) = false → ∃ left', IsR w1 r1 m1 n1 D1 left' cnt1 ∧ Below (w.heap.size + 2) W1 w1 ∧ (∀ x, left' x = true → Maps.has D1 x = true) ∧ (∀ x, Maps.has D1 x = true → left' x = false → fRole rs E1 E2 E3 x = false)) := by
        intro hf
        refine ⟨_, HR1.out, HB1'.out, fun x hx => HL.out.1 x ?_, fun x hx hlx => ?_⟩
        · simp at hx; exact hx.1
        · by_cases hl : left x = false
          · exact HL.out.2 x hx hl
          · simp [hl] at hlx
            rw [WideAt.sameKey_eq hlx]
            exact hf
      have TRUE : Aside (fRole rs E1 E2 E3 (kl s) = true → Hit D1 (fRole rs E1 E2 E3)) := fun hf => ⟨kl s, HL.out.1 _ HS.out, hf⟩
      have ca1 : w1.cell? ⟨w.heap.size, 1, none⟩ = some (.bool rs) := (HB1'.out.cell (p := ⟨w.heap.size, 1, none⟩) (by simp)).trans Kca1.out
      have cb0 : w1.cell? ⟨w.heap.size + 1, 0, none⟩ = some (.map m1') := (HB1'.out.cell (p := ⟨w.heap.size + 1, 0, none⟩) (by simp)).trans Kcb0.out
      have cb4 : w1.cell? ⟨w.heap.size + 1, 4, none⟩ = some (.map m2') := (HB1'.out.cell (p := ⟨w.heap.size + 1, 4, none⟩) (by simp)).trans Kcb4.out
      have cb6 : w1.cell? ⟨w.heap.size + 1, 6, none⟩ = some (.map m3') := (HB1'.out.cell (p := ⟨w.heap.size + 1, 6, none⟩) (by simp)).trans Kcb6.out
      have hlook1 := (G1.out.belowAll HB1w.out).look hs
      have hlook2 := (G2.out.belowAll HB1w.out).look hs
      have hlook3 := (G3.out.belowAll HB1w.out).look hs
      obtain ⟨x1, hx1⟩ : ∃ x, x = atB E1 (kl s) := ⟨_, rfl⟩
      obtain ⟨x2, hx2⟩ : ∃ x, x = atB E2 (kl s) := ⟨_, rfl⟩
      obtain ⟨x3, hx3⟩ : ∃ x, x = atB E3 (kl s) := ⟨_, rfl⟩
      rw [← hx1] at hlook1
      rw [← hx2] at hlook2
      rw [← hx3] at hlook3
      have HX : Aside (fRole rs E1 E2 E3 (kl s) = (x1 || x2 || (rs && x3))) := by show _ = _; rw [hx1, hx2, hx3]; rfl
      clear hx1 hx2 hx3
      cases x1
      rotate_left
      · go_wp2
        go_ret
        exact ⟨true, rfl, ⟨fun _ => .inr (.inl (TRUE.out (by rw [HX.out]; rfl))), fun _ => rfl⟩, HB1w.out⟩
      cases x2
      rotate_left
      · go_wp2
        go_ret
        exact ⟨true, rfl, ⟨fun _ => .inr (.inl (TRUE.out (by rw [HX.out]; rfl))), fun _ => rfl⟩, HB1w.out⟩
      cases rs
      · go_wp2
        go_roundg cnt1
        case measure => exact hlt
        case rel => exact FALSE.out (by rw [HX.out]; rfl)
      cases x3
      · go_wp2
        go_roundg cnt1
        case measure => exact hlt
        case rel => exact FALSE.out (by rw [HX.out]; rfl)
      · go_wp2
        go_ret
        exact ⟨true, rfl, ⟨fun _ => .inr (.inl (TRUE.out (by rw [HX.out]; rfl))), fun _ => rfl⟩, HB1w.out⟩
    · intro hl
      have HE : Aside (∀ k, left k = false) := hl
      clear hl
      have NOHIT := no_hit HL.out.2 HE.out
      have HNO : Aside (¬ Hit D1 (fRole rs E1 E2 E3)) := NOHIT
      clear NOHIT
      have ca2 : wr.cell? ⟨w.heap.size, 2, none⟩ = some (.string u) := (HB.out.cell (p := ⟨w.heap.size, 2, none⟩) (by simp)).trans Kca2.out
      have ca3 : wr.cell? ⟨w.heap.size, 3, none⟩ = some (.bool ev) := (HB.out.cell (p := ⟨w.heap.size, 3, none⟩) (by simp)).trans Kca3.out
      have ca4 : wr.cell? ⟨w.heap.size, 4, none⟩ = some (.map m2) := (HB.out.cell (p := ⟨w.heap.size, 4, none⟩) (by simp)).trans Kca4.out
      have ca10 : wr.cell? ⟨w.heap.size, 10, none⟩ = some (.bool ac) := (HB.out.cell (p := ⟨w.heap.size, 10, none⟩) (by simp)).trans Kca10.out
      have cb2 : wr.cell? ⟨w.heap.size + 1, 2, none⟩ = some (.string u') := (HB.out.cell (p := ⟨w.heap.size + 1, 2, none⟩) (by simp)).trans Kcb2.out
      have cb3 : wr.cell? ⟨w.heap.size + 1, 3, none⟩ = some (.bool ev') := (HB.out.cell (p := ⟨w.heap.size + 1, 3, none⟩) (by simp)).trans Kcb3.out
      have cb5 : wr.cell? ⟨w.heap.size + 1, 5, none⟩ = some (.bool ru') := (HB.out.cell (p := ⟨w.heap.size + 1, 5, none⟩) (by simp)).trans Kcb5.out
      by_cases hem : u.toList.isEmpty = true
      · have HSAME : Aside (sameU u u' = false) := by show _ = _; unfold sameU; rw [hem]; rfl
        have hem2 : u.toList = [] := by simpa using hem
        go_wp2
        go_ret
        refine ⟨false, rfl, ⟨fun h => (by cases h), fun h => ?_⟩, HBw.out⟩
        rcases h with h | h | ⟨h, _⟩
        · cases h
        · exact absurd h HNO.out
        · rw [HSAME.out] at h; cases h
      have hem1 : u.toList.isEmpty = false := by simpa using hem
      have hem2 : ¬ u.toList = [] := by simpa using hem
      clear hem
      by_cases heq : (u.toList == u'.toList) = false
      · have HSAME : Aside (sameU u u' = false) := by show _ = _; unfold sameU; rw [heq]; simp
        go_wp2
        go_ret
        refine ⟨false, rfl, ⟨fun h => (by cases h), fun h => ?_⟩, HBw.out⟩
        rcases h with h | h | ⟨h, _⟩
        · cases h
        · exact absurd h HNO.out
        · rw [HSAME.out] at h; cases h
      have heq1 : (u.toList == u'.toList) = true := by simpa using heq
      have HSAME : Aside (sameU u u' = true) := by show _ = _; unfold sameU; rw [heq1, hem1]; rfl
      clear heq
      cases ev
      rotate_left
      · go_wp2
        go_ret
        exact ⟨true, rfl, ⟨fun _ => .inr (.inr ⟨HSAME.out, .inl rfl⟩), fun _ => rfl⟩, HBw.out⟩
      cases ev'
      rotate_left
      · go_wp2
        go_ret
        exact ⟨true, rfl, ⟨fun _ => .inr (.inr ⟨HSAME.out, .inl rfl⟩), fun _ => rfl⟩, HBw.out⟩
      cases ru'
      · have HFLAG : Aside (flag false false false ac = false) := by show _ = _; rfl
        have H2r : Aside (IsM wr m2 n2 D2) := H2.out.belowAll HBw.out
        go_wp2_with (first | (at_range; refine wpList_range_M _ rfl _ rfl m2 n2 D2 rfl H2r.out ?_; intro w3 hrg3 hg3 hs3) | go_in)
        go_frame
        obtain ⟨r2, hr2e⟩ : ∃ r, r = wr.heap.size := ⟨_, rfl⟩
        rw [← hr2e] at hrg3 ⊢
        have Hr2 : Aside (w.heap.size + 2 ≤ r2) := by show _ ≤ _; rw [hr2e, ← HZ.out]; exact HB.out.size
        have HB0 : Aside (Below (w.heap.size + 2) W1 w3) := HB.out.grown hg3 (Nat.le_trans (Nat.le_of_eq HZ.out.symm) HB.out.size) (by simp)
        have HR0 : Aside (IsR w3 r2 m2 n2 D2 (Maps.has D2) (Maps.size D2)) := hrg3
        have HNO1 : Aside (¬ Hit D1 (fRole rs E1 E2 E3)) := HNO.out
        clear hrg3 hg3 hs3 hr2e HNO
        go_loopg [6] (Maps.size D2) (fun k _ wr => Aside (∃ left, IsR wr r2 m2 n2 D2 left k ∧ Below (w.heap.size + 2) W1 wr ∧ (∀ x, left x = true → Maps.has D2 x = true) ∧ (∀ x, Maps.has D2 x = true → left x = false → atB E2 x = false)))
        case atStart => exact ⟨Maps.has D2, HR0.out, HB0.out, fun _ h => h, fun x a b => by rw [a] at b; cases b⟩
        case round =>
          obtain ⟨left, hR, hB, hl1, hl2⟩ := hrel.out
          have HL : Aside ((∀ x, left x = true → Maps.has D2 x = true) ∧ (∀ x, Maps.has D2 x = true → left x = false → atB E2 x = false)) := ⟨hl1, hl2⟩
          have HB : Aside (Below (w.heap.size + 2) W1 wr) := hB
          have HBw : Aside (Below w.heap.size w wr) := HB1.out.trans (hB.mono (by omega))
          have HR : Aside (IsR wr r2 m2 n2 D2 left gk) := hR
          clear hrel hl1 hl2 hR hB
          go_wp2_with (first | (at_next; refine wpList_next_M _ rfl _ rfl r2 m2 n2 D2 left gk rfl HR.out ?_ ?_) | go_in)
          rotate_left
          · intro s cv w1 cnt1 hs hls hR1 hlt hg1 hs1 hen
            have HB1' : Aside (Below (w.heap.size + 2) W1 w1) := HB.out.grown hg1 (Nat.le_trans (Nat.le_of_eq HZ.out.symm) HB.out.size) (fun k e => by cases e; have := Hr2.out; omega)
            have HB1w : Aside (Below w.heap.size w w1) := HB1.out.trans (HB1'.out.mono (by omega))
            have HR1 : Aside (IsR w1 r2 m2 n2 D2 (fun z => left z && !z.sameKey (kl s)) cnt1) := hR1
            have HS : Aside (left (kl s) = true) := hls
            clear hls hR1 hg1 hs1
            have FALSE : Aside (atB E2 (kl s) = false → ∃ left', IsR w1 r2 m2 n2 D2 left' cnt1 ∧ Below (w.heap.size + 2) W1 w1 ∧ (∀ x, left' x = true → Maps.has D2 x = true) ∧ (∀ x, Maps.has D2 x = true → left' x = false → atB E2 x = false)) := by
              intro hf
              refine ⟨_, HR1.out, HB1'.out, fun x hx => HL.out.1 x ?_, fun x hx hlx => ?_⟩
              · simp at hx; exact hx.1
              · by_cases hl : left x = false
                · exact HL.out.2 x hx hl
                · simp [hl] at hlx
                  rw [WideAt.sameKey_eq hlx]
                  exact hf
            have TRUE : Aside (atB E2 (kl s) = true → Hit D2 (atB E2)) := fun hf => ⟨kl s, HL.out.1 _ HS.out, hf⟩
            have cb4 : w1.cell? ⟨w.heap.size + 1, 4, none⟩ = some (.map m2') := (HB1'.out.cell (p := ⟨w.heap.size + 1, 4, none⟩) (by simp)).trans Kcb4.out
            have hlook2 := (G2.out.belowAll HB1w.out).look hs
            obtain ⟨x2, hx2⟩ : ∃ x, x = atB E2 (kl s) := ⟨_, rfl⟩
            rw [← hx2] at hlook2
            have HX : Aside (atB E2 (kl s) = x2) := hx2.symm
            clear hx2
            cases x2
            · go_wp2
              go_roundg cnt1
              case measure => exact hlt
              case rel => exact FALSE.out (by rw [HX.out])
            · go_wp2
              go_ret
              exact ⟨true, rfl, ⟨fun _ => .inr (.inr ⟨HSAME.out, .inr (TRUE.out HX.out)⟩), fun _ => rfl⟩, HB1w.out⟩
          · intro hl
            have HE : Aside (∀ k, left k = false) := hl
            clear hl
            have NOHIT := no_hit HL.out.2 HE.out
            have HNO : Aside (¬ Hit D2 (atB E2)) := NOHIT
            clear NOHIT
            go_wp2
            go_ret
            refine ⟨false, rfl, ⟨fun h => (by cases h), fun h => ?_⟩, HBw.out⟩
            rcases h with h | h | ⟨_, h | h⟩
            · cases h
            · exact absurd h HNO1.out
            · rw [HFLAG.out] at h; cases h
            · exact absurd h HNO.out
      cases ac
      · go_wp2
        go_ret
        exact ⟨true, rfl, ⟨fun _ => .inr (.inr ⟨HSAME.out, .inl rfl⟩), fun _ => rfl⟩, HBw.out⟩
      have HFLAG : Aside (flag false false true true = false) := by show _ = _; rfl
      have H2r : Aside (IsM wr m2 n2 D2) := H2.out.belowAll HBw.out
      go_wp2_with (first | (at_range; refine wpList_range_M _ rfl _ rfl m2 n2 D2 rfl H2r.out ?_; intro w3 hrg3 hg3 hs3) | go_in)
      go_frame
      obtain ⟨r2, hr2e⟩ : ∃ r, r = wr.heap.size := ⟨_, rfl⟩
      rw [← hr2e] at hrg3 ⊢
      have Hr2 : Aside (w.heap.size + 2 ≤ r2) := by show _ ≤ _; rw [hr2e, ← HZ.out]; exact HB.out.size
      have HB0 : Aside (Below (w.heap.size + 2) W1 w3) := HB.out.grown hg3 (Nat.le_trans (Nat.le_of_eq HZ.out.symm) HB.out.size) (by simp)
      have HR0 : Aside (IsR w3 r2 m2 n2 D2 (Maps.has D2) (Maps.size D2)) := hrg3
      have HNO1 : Aside (¬ Hit D1 (fRole rs E1 E2 E3)) := HNO.out
      clear hrg3 hg3 hs3 hr2e HNO
      go_loopg [6] (Maps.size D2) (fun k _ wr => Aside (∃ left, IsR wr r2 m2 n2 D2 left k ∧ Below (w.heap.size + 2) W1 wr ∧ (∀ x, left x = true → Maps.has D2 x = true) ∧ (∀ x, Maps.has D2 x = true → left x = false → atB E2 x = false)))
      case atStart => exact ⟨Maps.has D2, HR0.out, HB0.out, fun _ h => h, fun x a b => by rw [a] at b; cases b⟩
      case round =>
        obtain ⟨left, hR, hB, hl1, hl2⟩ := hrel.out
        have HL : Aside ((∀ x, left x = true → Maps.has D2 x = true) ∧ (∀ x, Maps.has D2 x = true → left x = false → atB E2 x = false)) := ⟨hl1, hl2⟩
        have HB : Aside (Below (w.heap.size + 2) W1 wr) := hB
        have HBw : Aside (Below w.heap.size w wr) := HB1.out.trans (hB.mono (by omega))
        have HR : Aside (IsR wr r2 m2 n2 D2 left gk) := hR
        clear hrel hl1 hl2 hR hB
        go_wp2_with (first | (at_next; refine wpList_next_M _ rfl _ rfl r2 m2 n2 D2 left gk rfl HR.out ?_ ?_) | go_in)
        rotate_left
        · intro s cv w1 cnt1 hs hls hR1 hlt hg1 hs1 hen
          have HB1' : Aside (Below (w.heap.size + 2) W1 w1) := HB.out.grown hg1 (Nat.le_trans (Nat.le_of_eq HZ.out.symm) HB.out.size) (fun k e => by cases e; have := Hr2.out; omega)
          have HB1w : Aside (Below w.heap.size w w1) := HB1.out.trans (HB1'.out.mono (by omega))
          have HR1 : Aside (IsR w1 r2 m2 n2 D2 (fun z => left z && !z.sameKey (kl s)) cnt1) := hR1
          have HS : Aside (left (kl s) = true) := hls
          clear hls hR1 hg1 hs1
          have FALSE : Aside (atB E2 (kl s) = false → ∃ left', IsR w1 r2 m2 n2 D2 left' cnt1 ∧ Below (w.heap.size + 2) W1 w1 ∧ (∀ x, left' x = true → Maps.has D2 x = true) ∧ (∀ x, Maps.has D2 x = true → left' x = false → atB E2 x = false)) := by
            intro hf
            refine ⟨_, HR1.out, HB1'.out, fun x hx => HL.out.1 x ?_, fun x hx hlx => ?_⟩
            · simp at hx; exact hx.1
            · by_cases hl : left x = false
              · exact HL.out.2 x hx hl
              · simp [hl] at hlx
                rw [WideAt.sameKey_eq hlx]
                exact hf
          have TRUE : Aside (atB E2 (kl s) = true → Hit D2 (atB E2)) := fun hf => ⟨kl s, HL.out.1 _ HS.out, hf⟩
          have cb4 : w1.cell? ⟨w.heap.size + 1, 4, none⟩ = some (.map m2') := (HB1'.out.cell (p := ⟨w.heap.size + 1, 4, none⟩) (by simp)).trans Kcb4.out
          have hlook2 := (G2.out.belowAll HB1w.out).look hs
          obtain ⟨x2, hx2⟩ : ∃ x, x = atB E2 (kl s) := ⟨_, rfl⟩
          rw [← hx2] at hlook2
          have HX : Aside (atB E2 (kl s) = x2) := hx2.symm
          clear hx2
          cases x2
          · go_wp2
            go_roundg cnt1
            case measure => exact hlt
            case rel => exact FALSE.out (by rw [HX.out])
          · go_wp2
            go_ret
            exact ⟨true, rfl, ⟨fun _ => .inr (.inr ⟨HSAME.out, .inr (TRUE.out HX.out)⟩), fun _ => rfl⟩, HB1w.out⟩
        · intro hl
          have HE : Aside (∀ k, left k = false) := hl
          clear hl
          have NOHIT := no_hit HL.out.2 HE.out
          have HNO : Aside (¬ Hit D2 (atB E2)) := NOHIT
          clear NOHIT
          go_wp2
          go_ret
          refine ⟨false, rfl, ⟨fun h => (by cases h), fun h => ?_⟩, HBw.out⟩
          rcases h with h | h | ⟨_, h | h⟩
          · cases h
          · exact absurd h HNO1.out
          · rw [HFLAG.out] at h; cases h
          · exact absurd h HNO.out

end Go.Proofs.Qxb6602338a
