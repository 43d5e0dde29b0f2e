import Derived.Test.Qxb6602316aCalls
namespace Go.Proofs.Qxb6602316a
open Go.RowKit
open Plain (stop nls bh)

theorem wrap_idem (x : Int) : wrap64 (wrap64 x) = wrap64 x := by unfold wrap64; omega

namespace Idem
set_option maxHeartbeats 400000 in
theorem big (a : Option Addr) (n c : Nat) (p l : Int) (w : World) (hn : (1048576 : Int) < n) :
    Calls Try.prog 4 #[.slice a n c, .int .i64 p, .int .i64 l] w fun e w' => e = .returned (.bool true) ∧ Below w.heap.size w w' := by
  go_enter Try.func4, Try.ntmps4
  go_wp2_with fail
  refine (idem_no a n c p l _ (by omega)).mono ?_
  rintro e w1 ⟨rfl, hw⟩
  obtain rfl := hw.symm
  go_wp2_with fail
  go_ret
  exact ⟨rfl, Below.refl _ _⟩

set_option maxHeartbeats 400000 in
theorem neg (a : Option Addr) (n c : Nat) (p l : Int) (w : World) (hn : ¬ (1048576 : Int) < n) (hp : p < 0) :
    Calls Try.prog 4 #[.slice a n c, .int .i64 p, .int .i64 l] w fun e w' => e = .returned (.bool true) ∧ Below w.heap.size w w' := by
  go_enter Try.func4, Try.ntmps4
  go_wp2_with fail
  refine (idem_yes a n c p l _ (by omega)).mono ?_
  rintro e w1 ⟨rfl, hw⟩
  obtain rfl := hw.symm
  go_wp2_with fail
  go_ret
  exact ⟨rfl, Below.refl _ _⟩

/-- pos at or behind the end: whatever the clone is -/
theorem past (a a' : Option Addr) (n c c' : Nat) (p l : Int) (w : World) (hn : ¬ (1048576 : Int) < n) (hp : 0 ≤ p) (hnp : (n : Int) ≤ p)
    (hcl : Calls Try.prog 7 #[.slice a n c] w fun e w' => e = .returned (.slice a' n c') ∧ Below w.heap.size w w') :
    Calls Try.prog 4 #[.slice a n c, .int .i64 p, .int .i64 l] w fun e w' => e = .returned (.bool true) ∧ Below w.heap.size w w' := by
  have hp' : ¬ p < 0 := by omega
  have h1 : ¬ p < (n : Int) := by omega
  have HC : Aside (Calls Try.prog 7 #[.slice a n c] w fun e w' => e = .returned (.slice a' n c') ∧ Below w.heap.size w w') := hcl
  clear hcl
  go_enter Try.func4, Try.ntmps4
  go_wp2_with fail
  refine (idem_yes a n c p l _ (by omega)).mono ?_
  rintro e w1 ⟨rfl, hw⟩
  obtain rfl := hw.symm
  go_wp2_with fail
  refine HC.out.mono ?_
  rintro e w1 ⟨rfl, hb1⟩
  go_wp2_with fail
  refine (zz_past a' n c' p l w1 hnp).mono ?_
  rintro e w2 ⟨rfl, hb2⟩
  go_wp2_with fail
  refine (zz_past a' n c' p l w2 hnp).mono ?_
  rintro e w3 ⟨rfl, hb3⟩
  go_wp2_with fail
  go_ret
  exact ⟨rfl, (hb1.trans (hb2.mono hb1.size)).trans (hb3.mono (Nat.le_trans hb1.size hb2.size))⟩

set_option maxHeartbeats 400000 in
theorem inside (x off n c : Nat) (zs : List Int) (q : Nat) (l : Int) (w : World) (hn : ¬ (1048576 : Int) < n) (hzn : zs.length = n) (hq : q < n) (hwl : wrap64 l = l) (hx : x < w.heap.size)
    (hc : ∀ j, j < n → w.cell? ⟨x, off + j, none⟩ = some (.int .u8 (zs.getD j 0))) :
    Calls Try.prog 4 #[.slice (some ⟨x, off, none⟩) n c, .int .i64 q, .int .i64 l] w fun e w' => e = .returned (.bool true) ∧ Below w.heap.size w w' := by
  have Hc : Aside (∀ j, j < n → w.cell? ⟨x, off + j, none⟩ = some (.int .u8 (zs.getD j 0))) := hc
  have Hz : Aside (zs.length = n) := hzn
  have Hl : Aside (wrap64 l = l) := hwl
  clear hc hzn hwl
  have hp' : ¬ (q : Int) < 0 := by omega
  have hqn : (q : Int) < (n : Int) := by omega
  have hm : n ≤ maxLen := by unfold maxLen; omega
  go_enter Try.func4, Try.ntmps4
  go_wp2_with fail
  refine (idem_yes _ n c q l _ (by omega)).mono ?_
  rintro e w1 ⟨rfl, hw⟩
  obtain rfl := hw.symm
  go_wp2_with fail
  refine (clone_some x off n c zs _ (by omega) hx Hc.out).mono ?_
  rintro e w1 ⟨rfl, hrow, hb1⟩
  have hlt := hrow.lt
  have hc1 : Aside (∀ j, j < n → w1.cell? ⟨w.heap.size, 0 + j, none⟩ = some (.int .u8 (zs.getD j 0))) := fun j hj => by rw [Nat.zero_add]; exact hrow.cell hj
  have HR : Aside (w1.rowIs w.heap.size 5 n (fun j => .int .u8 (zs.getD j 0))) := hrow
  clear hrow
  go_wp2_with fail
  refine (zz_in w.heap.size 0 n n zs q l w1 Hz.out hm hlt (Nat.le_of_lt hq) Hl.out hc1.out).mono ?_
  rintro e w2 ⟨rfl, hb2⟩
  obtain ⟨P, hP⟩ : ∃ P, P = stop zs false q := ⟨_, rfl⟩
  obtain ⟨L, hL⟩ : ∃ L, L = wrap64 (l + nls zs false q) := ⟨_, rfl⟩
  have hqP : q ≤ P := by rw [hP]; exact Plain.stop_ge _ _ _
  have hPn : P ≤ n := by rw [hP, ← Hz.out]; exact Plain.stop_le _ _ _ (by rw [Hz.out]; exact Nat.le_of_lt hq)
  have HAg : Aside (stop zs false P = P ∧ nls zs false P = 0) := by
    show _ ∧ _
    rw [hP]; exact Plain.again zs q
  have HLw : Aside (wrap64 L = L) := by show _ = _; rw [hL]; exact wrap_idem _
  have HB : Aside (P < n → bh (zs.getD P 0) = false) := fun h => by rw [hP] at h ⊢; exact Plain.stop_stops zs false q (by rw [Hz.out]; exact h)
  rw [← hP, ← hL]
  clear hP hL
  have g1 : ¬ (P : Int) < (q : Int) := by omega
  have g2 : ¬ (n : Int) < (P : Int) := by omega
  have hc2 : Aside (∀ j, j < n → w2.cell? ⟨w.heap.size, 0 + j, none⟩ = some (.int .u8 (zs.getD j 0))) := fun j hj => (hb2.cell (p := ⟨w.heap.size, 0 + j, none⟩) hlt).trans (hc1.out j hj)
  have hlt2 : w.heap.size < w2.heap.size := Nat.lt_of_lt_of_le hlt hb2.size
  by_cases hPl : P < n
  · obtain ⟨v, hv⟩ : ∃ v, v = zs.getD P 0 := ⟨_, rfl⟩
    have hcv : w2.cell? ⟨w.heap.size, P, none⟩ = some (.int .u8 v) := by rw [hv]; have := hc2.out P hPl; rwa [Nat.zero_add] at this
    have HBv : Aside (bh v = false) := by show _ = _; rw [hv]; exact HB.out hPl
    clear hv
    have hPli : (P : Int) < (n : Int) := by omega
    go_wp2_with fail
    refine (bh_any v _).mono ?_
    rintro e w3 ⟨rfl, hw⟩
    obtain rfl := hw.symm
    rw [HBv.out]
    go_wp2_with fail
    refine (zz_in w.heap.size 0 n n zs P L _ Hz.out hm hlt2 hPn HLw.out hc2.out).mono ?_
    rintro e w4 ⟨rfl, hb4⟩
    rw [HAg.out.1, HAg.out.2, show L + ((0 : Nat) : Int) = L from by omega, HLw.out]
    go_wp2_with fail
    go_ret
    exact ⟨rfl, (hb1.trans (hb2.mono hb1.size)).trans (hb4.mono (Nat.le_trans hb1.size hb2.size))⟩
  · have hPli : ¬ (P : Int) < (n : Int) := by omega
    go_wp2_with fail
    refine (zz_in w.heap.size 0 n n zs P L _ Hz.out hm hlt2 hPn HLw.out hc2.out).mono ?_
    rintro e w4 ⟨rfl, hb4⟩
    rw [HAg.out.1, HAg.out.2, show L + ((0 : Nat) : Int) = L from by omega, HLw.out]
    go_wp2_with fail
    go_ret
    exact ⟨rfl, (hb1.trans (hb2.mono hb1.size)).trans (hb4.mono (Nat.le_trans hb1.size hb2.size))⟩
end Idem
end Go.Proofs.Qxb6602316a
