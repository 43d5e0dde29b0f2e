import Derived.Test.Qxb6602316aModel
namespace Go.Proofs.Qxb6602316a
open Go.RowKit
open Plain (stop nls bh)

namespace Match
set_option maxHeartbeats 400000 in
theorem big (a : Option Addr) (n c : Nat) (p l : Int) (w : World) (hn : (1048576 : Int) < n) :
    Calls Try.prog 3 #[.slice a n c, .int .i64 p, .int .i64 l] w fun e w' => e = .returned (.bool true) ∧ Below w.heap.size w w' := by
  go_enter Try.func3, Try.ntmps3
  go_wp2_with fail
  refine (match_no a n c p l _ hn).mono ?_
  rintro e w1 ⟨rfl, hw⟩
  obtain rfl := hw.symm
  go_wp2_with fail
  go_ret
  exact ⟨rfl, Below.refl _ _⟩

set_option maxHeartbeats 400000 in
theorem neg (a : Option Addr) (n c : Nat) (p l : Int) (w : World) (hn : ¬ (1048576 : Int) < n) (hp : p < 0) :
    Calls Try.prog 3 #[.slice a n c, .int .i64 p, .int .i64 l] w fun e w' => e = .returned (.bool true) ∧ Below w.heap.size w w' := by
  go_enter Try.func3, Try.ntmps3
  go_wp2_with fail
  refine (match_yes a n c p l _ (by omega)).mono ?_
  rintro e w1 ⟨rfl, hw⟩
  obtain rfl := hw.symm
  go_wp2_with fail
  go_ret
  exact ⟨rfl, Below.refl _ _⟩

/-- pos at or behind the end: whatever the clone is -/
theorem past (a a' : Option Addr) (n c c' : Nat) (p l : Int) (w : World) (hn : ¬ (1048576 : Int) < n) (hp : 0 ≤ p) (hnp : (n : Int) ≤ p)
    (hcl : Calls Try.prog 7 #[.slice a n c] w fun e w' => e = .returned (.slice a' n c') ∧ Below w.heap.size w w') :
    Calls Try.prog 3 #[.slice a n c, .int .i64 p, .int .i64 l] w fun e w' => e = .returned (.bool true) ∧ Below w.heap.size w w' := by
  have hp' : ¬ p < 0 := by omega
  have h1 : ¬ p < (n : Int) := by omega
  have HC : Aside (Calls Try.prog 7 #[.slice a n c] w fun e w' => e = .returned (.slice a' n c') ∧ Below w.heap.size w w') := hcl
  clear hcl
  go_enter Try.func3, Try.ntmps3
  go_wp2_with fail
  refine (match_yes a n c p l _ (by omega)).mono ?_
  rintro e w1 ⟨rfl, hw⟩
  obtain rfl := hw.symm
  go_wp2_with fail
  refine HC.out.mono ?_
  rintro e w1 ⟨rfl, hb1⟩
  go_wp2_with fail
  refine (zz_past a' n c' p l w1 hnp).mono ?_
  rintro e w2 ⟨rfl, hb2⟩
  go_wp2_with fail
  refine (Model.past a' n c' p l w2 (by omega)).mono ?_
  rintro e w3 ⟨rfl, hw⟩
  obtain rfl := hw.symm
  go_wp2_with fail
  go_ret
  exact ⟨rfl, hb1.trans (hb2.mono hb1.size)⟩

set_option maxHeartbeats 400000 in
theorem inside (x off n c : Nat) (zs : List Int) (q : Nat) (l : Int) (w : World) (hn : ¬ (1048576 : Int) < n) (hzn : zs.length = n) (hq : q < n) (hwl : wrap64 l = l) (hx : x < w.heap.size)
    (hc : ∀ j, j < n → w.cell? ⟨x, off + j, none⟩ = some (.int .u8 (zs.getD j 0))) :
    Calls Try.prog 3 #[.slice (some ⟨x, off, none⟩) n c, .int .i64 q, .int .i64 l] w fun e w' => e = .returned (.bool true) ∧ Below w.heap.size w w' := by
  have Hc : Aside (∀ j, j < n → w.cell? ⟨x, off + j, none⟩ = some (.int .u8 (zs.getD j 0))) := hc
  have Hz : Aside (zs.length = n) := hzn
  have Hl : Aside (wrap64 l = l) := hwl
  clear hc hzn hwl
  have hp' : ¬ (q : Int) < 0 := by omega
  have hqn : (q : Int) < (n : Int) := by omega
  have hm : n ≤ maxLen := by unfold maxLen; omega
  go_enter Try.func3, Try.ntmps3
  go_wp2_with fail
  refine (match_yes _ n c q l _ (by omega)).mono ?_
  rintro e w1 ⟨rfl, hw⟩
  obtain rfl := hw.symm
  go_wp2_with fail
  refine (clone_some x off n c zs _ (by omega) hx Hc.out).mono ?_
  rintro e w1 ⟨rfl, hrow, hb1⟩
  have hlt := hrow.lt
  have hc1 : Aside (∀ j, j < n → w1.cell? ⟨w.heap.size, 0 + j, none⟩ = some (.int .u8 (zs.getD j 0))) := fun j hj => by rw [Nat.zero_add]; exact hrow.cell hj
  clear hrow
  go_wp2_with fail
  refine (zz_in w.heap.size 0 n n zs q l w1 Hz.out hm hlt (Nat.le_of_lt hq) Hl.out hc1.out).mono ?_
  rintro e w2 ⟨rfl, hb2⟩
  have hc2 : Aside (∀ j, j < n → w2.cell? ⟨w.heap.size, 0 + j, none⟩ = some (.int .u8 (zs.getD j 0))) := fun j hj => (hb2.cell (p := ⟨w.heap.size, 0 + j, none⟩) hlt).trans (hc1.out j hj)
  obtain ⟨P, hP⟩ : ∃ P, P = stop zs false q := ⟨_, rfl⟩
  obtain ⟨L, hL⟩ : ∃ L, L = wrap64 (l + nls zs false q) := ⟨_, rfl⟩
  have HP : Aside (P = stop zs false q) := hP
  have HL : Aside (L = wrap64 (l + nls zs false q)) := hL
  rw [← hP, ← hL]
  clear hP hL
  go_wp2_with fail
  refine (Model.inside w.heap.size 0 n n zs q l w2 (by omega) Hz.out hq Hl.out hc2.out).mono ?_
  rintro e w3 ⟨rfl, hw⟩
  obtain rfl := hw.symm
  rw [← HP.out, ← HL.out]
  go_wp2_with fail
  go_ret
  exact ⟨rfl, hb1.trans (hb2.mono hb1.size)⟩
end Match
end Go.Proofs.Qxb6602316a
