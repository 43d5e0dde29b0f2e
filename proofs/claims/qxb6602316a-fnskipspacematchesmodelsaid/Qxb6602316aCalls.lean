import Derived.Test.Qxb6602316aScan
import Derived.Deep.OwnRows
namespace Go.Proofs.Qxb6602316a
open Go.RowKit
open Plain (stop nls bh)

/-! ### ZZSkipSpace -/
theorem sc_new (w : World) (a : Option Addr) (n c : Nat) (p l : Int) : Sc w w.heap.size (.slice a n c) p l (w.alloc (.cells #[.slice a n c, .int .i64 p, .int .i64 l] 30)) := by
  refine ⟨?_, ?_, ?_, ?_, ?_, (Below.refl _ _).alloc (Nat.le_refl _) _⟩
  all_goals go_simp

set_option maxHeartbeats 400000 in
theorem zz_past (a : Option Addr) (n c : Nat) (p l : Int) (w : World) (hp : (n : Int) ≤ p) :
    Calls Try.prog 8 #[.slice a n c, .int .i64 p, .int .i64 l] w fun e w' => e = .returned (.tuple #[.int .i64 p, .int .i64 l]) ∧ Below w.heap.size w w' := by
  have h0 := sc_new w a n c p l
  have H0 : Aside (Sc w w.heap.size (.slice a n c) p l (w.alloc (.cells #[.slice a n c, .int .i64 p, .int .i64 l] 30))) := h0
  clear h0
  go_enter Try.func8, Try.ntmps8
  go_wp2_with fail
  refine (skip_past w.heap.size n c a p l w _ hp (by exact H0.out)).mono ?_
  rintro e w1 ⟨rfl, hs⟩
  obtain ⟨c0, c1, c2, f1, f2, bel⟩ := hs
  go_wp2_with fail
  go_quiet (fail)
  go_wp2
  go_ret2
  exact ⟨rfl, below_drewN bel _⟩

set_option maxHeartbeats 400000 in
theorem zz_in (x off n c : Nat) (zs : List Int) (q : Nat) (l : Int) (w : World) (hzn : zs.length = n) (hn : n ≤ maxLen) (hxB : x < w.heap.size) (hq : q ≤ n) (hwl : wrap64 l = l)
    (hc : ∀ j, j < n → w.cell? ⟨x, off + j, none⟩ = some (.int .u8 (zs.getD j 0))) :
    Calls Try.prog 8 #[.slice (some ⟨x, off, none⟩) n c, .int .i64 q, .int .i64 l] w fun e w' => e = .returned (.tuple #[.int .i64 (stop zs false q), .int .i64 (wrap64 (l + nls zs false q))]) ∧ Below w.heap.size w w' := by
  have H0 : Aside (Sc w w.heap.size (.slice (some ⟨x, off, none⟩) n c) q l (w.alloc (.cells #[.slice (some ⟨x, off, none⟩) n c, .int .i64 q, .int .i64 l] 30))) := sc_new w _ n c q l
  have Hc : Aside (∀ j, j < n → w.cell? ⟨x, off + j, none⟩ = some (.int .u8 (zs.getD j 0))) := hc
  have Hz : Aside (zs.length = n) := hzn
  have Hl : Aside (wrap64 l = l) := hwl
  clear hc hzn hwl
  go_enter Try.func8, Try.ntmps8
  go_wp2_with fail
  refine (skip_in w.heap.size x off n c zs q l w _ Hz.out hn hxB hq Hl.out Hc.out (by exact H0.out)).mono ?_
  rintro e w1 ⟨rfl, hs⟩
  obtain ⟨c0, c1, c2, f1, f2, bel⟩ := hs
  go_wp2_with fail
  go_quiet (fail)
  go_wp2
  go_ret2
  exact ⟨rfl, below_drewN bel _⟩

/-! ### zzBlankOrHash -/
set_option maxHeartbeats 400000 in
theorem bh_any (v : Int) (w : World) : Calls Try.prog 11 #[.int .u8 v] w fun e w' => e = .returned (.bool (bh v)) ∧ w' = w := by
  by_cases e32 : v = 32
  · subst e32
    go_enter Try.func11, Try.ntmps11
    go_wp2
    go_ret
    exact ⟨rfl, rfl⟩
  by_cases e9 : v = 9
  · subst e9
    go_enter Try.func11, Try.ntmps11
    go_wp2
    go_ret
    exact ⟨rfl, rfl⟩
  by_cases e13 : v = 13
  · subst e13
    go_enter Try.func11, Try.ntmps11
    go_wp2
    go_ret
    exact ⟨rfl, rfl⟩
  by_cases e10 : v = 10
  · subst e10
    go_enter Try.func11, Try.ntmps11
    go_wp2
    go_ret
    exact ⟨rfl, rfl⟩
  have t32 : (v == 32) = false := by simp [e32]
  have t9 : (v == 9) = false := by simp [e9]
  have t13 : (v == 13) = false := by simp [e13]
  have t10 : (v == 10) = false := by simp [e10]
  have HB : Aside (bh v = (v == 35)) := by show bh v = _; unfold bh; rw [t32, t9, t13, t10]; simp
  clear e32 e9 e13 e10
  go_enter Try.func11, Try.ntmps11
  go_wp2
  go_ret
  rw [HB.out]
  exact ⟨rfl, rfl⟩

/-! ### zzBytes_..: both -/
set_option maxHeartbeats 400000 in
theorem idem_no (a : Option Addr) (n c : Nat) (p l : Int) (w : World) (h : (1048576 : Int) < n) : Calls Try.prog 10 #[.slice a n c, .int .i64 p, .int .i64 l] w fun e w' => e = .returned (.bool false) ∧ w' = w := by
  go_enter Try.func10, Try.ntmps10
  go_wp2
  go_ret
  exact ⟨rfl, rfl⟩

set_option maxHeartbeats 400000 in
theorem idem_yes (a : Option Addr) (n c : Nat) (p l : Int) (w : World) (h : ¬ (1048576 : Int) < n) : Calls Try.prog 10 #[.slice a n c, .int .i64 p, .int .i64 l] w fun e w' => e = .returned (.bool true) ∧ w' = w := by
  go_enter Try.func10, Try.ntmps10
  go_wp2
  go_ret
  exact ⟨rfl, rfl⟩

set_option maxHeartbeats 400000 in
theorem match_no (a : Option Addr) (n c : Nat) (p l : Int) (w : World) (h : (1048576 : Int) < n) : Calls Try.prog 6 #[.slice a n c, .int .i64 p, .int .i64 l] w fun e w' => e = .returned (.bool false) ∧ w' = w := by
  go_enter Try.func6, Try.ntmps6
  go_wp2
  go_ret
  exact ⟨rfl, rfl⟩

set_option maxHeartbeats 400000 in
theorem match_yes (a : Option Addr) (n c : Nat) (p l : Int) (w : World) (h : ¬ (1048576 : Int) < n) : Calls Try.prog 6 #[.slice a n c, .int .i64 p, .int .i64 l] w fun e w' => e = .returned (.bool true) ∧ w' = w := by
  go_enter Try.func6, Try.ntmps6
  go_wp2
  go_ret
  exact ⟨rfl, rfl⟩

/-! ### zzCloneBytes -/
theorem info5 : (Try.prog.info? 5).map (fun i => (i.zero, i.size, i.bytes)) = some (some (.int .u8 0), 1, 1) := by kernel_rfl

theorem q22 (w : World) (a : Option Addr) (n c n' c' : Nat) : (binOp .eql 22 (.slice a n c) (.slice none n' c')).run Try.prog w = .ok (.bool a.isNone) w := Lib.run_eql_slice_nil w _ _ a n c n' c' Try.underlying22

set_option maxHeartbeats 400000 in
theorem clone_nil (w : World) : Calls Try.prog 7 #[.slice none 0 0] w fun e w' => e = .returned (.slice none 0 0) ∧ w' = w := by
  have q := q22
  go_enter Try.func7, Try.ntmps7
  go_wp2
  go_ret
  exact ⟨rfl, rfl⟩

set_option maxHeartbeats 400000 in
theorem clone_some (x off n c : Nat) (zs : List Int) (w : World) (hn : ¬ (1048576 : Int) < n) (hx : x < w.heap.size) (hc : ∀ j, j < n → w.cell? ⟨x, off + j, none⟩ = some (.int .u8 (zs.getD j 0))) :
    Calls Try.prog 7 #[.slice (some ⟨x, off, none⟩) n c] w fun e w' => e = .returned (.slice (some ⟨w.heap.size, 0, none⟩) n n) ∧ w'.rowIs w.heap.size 5 n (fun j => .int .u8 (zs.getD j 0)) ∧ Below w.heap.size w w' := by
  have q := q22
  have hmk := run_make_row' (P := Try.prog) 22 5 (.int .u8 0) 1 Try.underlying22 info5 rfl .i64 .i64 n (by omega) (by omega)
  have H0 : Aside (∀ j, j < n → w.cell? ⟨x, off + j, none⟩ = some (.int .u8 (zs.getD j 0))) := hc
  clear hc
  go_enter Try.func7, Try.ntmps7
  go_wp2
  go_loopg [4] n (fun k i wr => ∃ m : Nat, m ≤ n ∧ k + m = n ∧ i = .int .i64 m ∧ Below w.heap.size w wr ∧ wr.rowIs w.heap.size 5 n (fun j => if j < m then .int .u8 (zs.getD j 0) else .int .u8 0))
  case atStart => exact ⟨0, Nat.zero_le _, by omega, rfl, (Below.refl _ _).alloc (Nat.le_refl _) _, (World.rowIs_made w (.int .u8 0) n 5).congr (fun i _ => by simp)⟩
  case round =>
    obtain ⟨m, hm, hk, rfl, hb, hrow⟩ := hrel
    by_cases hlt : m < n
    · have hlti : (m : Int) < (n : Int) := by omega
      obtain ⟨v, hv⟩ : ∃ v, v = zs.getD m 0 := ⟨_, rfl⟩
      have hcv : wr.cell? ⟨x, off + m, none⟩ = some (.int .u8 v) := by rw [hv]; exact (hb.cell (p := ⟨x, off + m, none⟩) hx).trans (H0.out m hlt)
      have hdst := hrow.cell hlt
      have hfz := hrow.frozen m
      have HV : Aside (v = zs.getD m 0) := hv
      clear hv
      go_wp2
      go_roundg (gk - 1)
      case measure => omega
      case rel =>
        refine ⟨m + 1, by omega, by omega, by go_num, hb.setCell (Nat.le_refl _) _, (hrow.set m _).congr (fun i hi => ?_)⟩
        by_cases e : i = m
        · subst e; simp [HV.out]
        · by_cases e2 : i < m
          · simp [e, e2, show i < m + 1 from by omega]
          · simp [e, e2, show ¬ i < m + 1 from by omega]
    · have hd : ¬ (m : Int) < (n : Int) := by omega
      go_wp2
      go_ret
      exact ⟨rfl, hrow.congr (fun i hi => by simp [show i < m from by omega]), hb⟩

set_option maxHeartbeats 400000 in
/-- an empty slice that is not nil, wherever it points -/
theorem clone_zero (x : Addr) (n c : Nat) (w : World) (hn : n ≤ 0) :
    Calls Try.prog 7 #[.slice (some x) n c] w fun e w' => e = .returned (.slice (some ⟨w.heap.size, 0, none⟩) n n) ∧ Below w.heap.size w w' := by
  have q := q22
  have hmk := run_make_row' (P := Try.prog) 22 5 (.int .u8 0) 1 Try.underlying22 info5 rfl .i64 .i64 n (by omega) (by omega)
  go_enter Try.func7, Try.ntmps7
  go_wp2
  go_loopg [4] 0 (fun k i wr => i = .int .i64 0 ∧ Below w.heap.size w wr)
  case atStart => exact ⟨rfl, (Below.refl _ _).alloc (Nat.le_refl _) _⟩
  case round =>
    obtain ⟨rfl, hb⟩ := hrel
    have hd : ¬ (0 : Int) < (n : Int) := by omega
    go_wp2
    go_ret
    exact ⟨rfl, hb⟩

end Go.Proofs.Qxb6602316a
