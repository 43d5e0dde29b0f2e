import Derived.Test.Qxb6602316aCalls
namespace Go.Proofs.Qxb6602316a
open Go.RowKit
open Plain (stop nls bh cnt)

namespace Model
/-- what one byte does to the model's two marks: 'inside a comment' is 'nl < h' -/
theorem step_nl (zs : List Int) (i : Nat) (st : Bool) (F : Nat) (hi : i < zs.length) (hc : zs.getD i 0 = 10) (h : stop zs st i = F) : stop zs false (i + 1) = F := by
  rw [← (Plain.at_nl zs st i hi hc).1]; exact h
theorem step_hash (zs : List Int) (i : Nat) (st : Bool) (F : Nat) (hi : i < zs.length) (hc : zs.getD i 0 = 35) (h : stop zs st i = F) : stop zs true (i + 1) = F := by
  rw [← (Plain.at_com zs i hi (by omega)).1]
  cases st
  · rw [← (Plain.at_hash zs i hi hc).1]; exact h
  · exact h
theorem step_com (zs : List Int) (i : Nat) (F : Nat) (hi : i < zs.length) (hc : ¬ zs.getD i 0 = 10) (h : stop zs true i = F) : stop zs true (i + 1) = F := by
  rw [← (Plain.at_com zs i hi hc).1]; exact h
theorem step_blank (zs : List Int) (i : Nat) (F : Nat) (hi : i < zs.length) (hb : bh (zs.getD i 0) = true) (h1 : ¬ zs.getD i 0 = 10) (h2 : ¬ zs.getD i 0 = 35) (h : stop zs false i = F) : stop zs false (i + 1) = F := by
  rw [← (Plain.at_blank zs i hi (by simp [bh] at hb h1 h2; simp; omega)).1]; exact h

set_option maxHeartbeats 400000 in
theorem past (a : Option Addr) (n c : Nat) (p l : Int) (w : World) (hp : ¬ p < (n : Int)) :
    Calls Try.prog 9 #[.slice a n c, .int .i64 p, .int .i64 l] w fun e w' => e = .returned (.tuple #[.int .i64 p, .int .i64 l]) ∧ w' = w := by
  go_enter Try.func9, Try.ntmps9
  go_wp2
  go_ret2
  exact ⟨rfl, rfl⟩

theorem wrap_cnt (l : Int) (m : Nat) : wrap64 (wrap64 (l + m) + 1) = wrap64 (l + ((m + 1 : Nat) : Int)) := wrap_succ l m

set_option maxHeartbeats 2000000 in
theorem inside (x off n c : Nat) (zs : List Int) (q : Nat) (l : Int) (w : World) (hn : ¬ (1048576 : Int) < n) (hzn : zs.length = n) (hq : q < n) (hwl : wrap64 l = l)
    (hc : ∀ j, j < n → w.cell? ⟨x, off + j, none⟩ = some (.int .u8 (zs.getD j 0))) :
    Calls Try.prog 9 #[.slice (some ⟨x, off, none⟩) n c, .int .i64 q, .int .i64 l] w fun e w' => e = .returned (.tuple #[.int .i64 (stop zs false q), .int .i64 (wrap64 (l + nls zs false q))]) ∧ w' = w := by
  have Hc : Aside (∀ j, j < n → w.cell? ⟨x, off + j, none⟩ = some (.int .u8 (zs.getD j 0))) := hc
  have Hz : Aside (zs.length = n) := hzn
  have Hl : Aside (wrap64 l = l) := hwl
  clear hc hzn hwl
  obtain ⟨F, hF⟩ : ∃ F, F = stop zs false q := ⟨_, rfl⟩
  have hqF : q ≤ F := by rw [hF]; exact Plain.stop_ge _ _ _
  have hFn : F ≤ n := by rw [hF, ← Hz.out]; exact Plain.stop_le _ _ _ (by rw [Hz.out]; exact Nat.le_of_lt hq)
  have HN : Aside (nls zs false q = cnt zs q (F - q)) := by show _ = _; rw [hF]; exact Plain.nls_cnt zs q
  rw [← hF, HN.out]
  have HF : Aside (F = stop zs false q) := hF
  clear hF
  have hqn : (q : Int) < (n : Int) := by omega
  go_enter Try.func9, Try.ntmps9
  go_wp2
  go_loopg [9, 10, 11, 12] (n - q) (fun k a b d e wr => ∃ (nl h : Int) (i : Nat), q ≤ i ∧ i ≤ n ∧ k + i = n ∧ -1 ≤ nl ∧ -1 ≤ h ∧ nl < i ∧ h < i ∧ a = .int .i64 nl ∧ b = .int .i64 h ∧ d = .int .i64 n ∧ e = .int .i64 i ∧ Aside (stop zs (decide (nl < h)) i = F) ∧ Aside (wr = w))
  case atStart => exact ⟨(q : Int) - 1, (q : Int) - 1, q, Nat.le_refl _, Nat.le_of_lt hq, by omega, by omega, by omega, by omega, by omega, rfl, rfl, rfl, rfl, (show _ = _ by simp; exact HF.out.symm), (show _ = _ from rfl)⟩
  case round =>
    obtain ⟨nl, h, i, hqi, hin, hk, hnl, hh, hnli, hhi, rfl, rfl, rfl, rfl, hst, hw⟩ := hrel
    obtain rfl := hw.out.symm
    clear hw
    by_cases hlt : i < n
    · have hlti : (i : Int) < (n : Int) := by omega
      obtain ⟨v, hv⟩ : ∃ v, v = zs.getD i 0 := ⟨_, rfl⟩
      have hcv : w.cell? ⟨x, off + i, none⟩ = some (.int .u8 v) := by rw [hv]; exact Hc.out i hlt
      have HV : Aside (v = zs.getD i 0) := hv
      clear hv
      have hzi : i < zs.length := by rw [Hz.out]; exact hlt
      have Hzi : Aside (i < zs.length) := hzi
      clear hzi
      by_cases hg : h ≤ nl
      · have HD : Aside (decide (nl < h) = false) := by show _ = _; simp; omega
        by_cases hb : bh v = false
        · have HB : Aside (bh v = false) := hb
          clear hb
          go_wp2_with fail
          refine (bh_any v _).mono ?_
          rintro e w1 ⟨rfl, hw⟩
          obtain rfl := hw.symm
          rw [HB.out]
          have e : i = F := by
            have h1 := hst.out
            rw [HD.out] at h1
            rw [← h1]
            exact (Plain.at_other zs i Hzi.out (by rw [← HV.out]; exact HB.out)).1.symm
          subst e
          go_wp2_with fail
          go_loopg [14, 15] (i - q) (fun k a b wr => ∃ j : Nat, q ≤ j ∧ j ≤ i ∧ k + j = i ∧ b = .int .i64 j ∧ a = .int .i64 (wrap64 (l + cnt zs q (j - q))) ∧ Aside (wr = w))
          case atStart => exact ⟨q, Nat.le_refl _, by omega, by omega, rfl, by rw [Nat.sub_self, Plain.cnt_zero, show l + ((0 : Nat) : Int) = l from by omega, Hl.out], (show _ = _ from rfl)⟩
          case round =>
            obtain ⟨j, hqj, hjT, hkj, rfl, rfl, hw⟩ := hrel
            obtain rfl := hw.out.symm
            clear hw
            by_cases hjl : j < i
            · have hjli : (j : Int) < (i : Int) := by omega
              have hjn : (j : Int) < (n : Int) := by omega
              obtain ⟨u, hu⟩ : ∃ u, u = zs.getD j 0 := ⟨_, rfl⟩
              have hcu : w.cell? ⟨x, off + j, none⟩ = some (.int .u8 u) := by rw [hu]; exact Hc.out j (by omega)
              have HS : Aside (cnt zs q (j + 1 - q) = cnt zs q (j - q) + if u = 10 then 1 else 0) := by
                show _ = _
                rw [hu]
                have := Plain.cnt_succ zs q (j - q) (by rw [Hz.out]; omega)
                rw [show q + (j - q) = j from by omega] at this
                rw [show j + 1 - q = j - q + 1 from by omega]
                exact this
              clear hu
              obtain ⟨o, ho⟩ : ∃ o, o = wrap64 (l + cnt zs q (j - q)) := ⟨_, rfl⟩
              have HO : Aside (o = wrap64 (l + cnt zs q (j - q))) := ho
              rw [← ho]
              clear ho
              by_cases e10 : u = 10
              · have t10 : (u == 10) = true := by simp [e10]
                have HE : Aside (u = 10) := e10
                clear e10
                go_wp2
                go_roundg (gk - 1)
                case measure => omega
                case rel => exact ⟨j + 1, by omega, by omega, by omega, by go_num, by rw [HS.out, HO.out, if_pos HE.out, ← wrap_cnt], (show _ = _ from rfl)⟩
              · have t10 : (u == 10) = false := by simp [e10]
                have HE : Aside (¬ u = 10) := e10
                clear e10
                go_wp2
                go_roundg (gk - 1)
                case measure => omega
                case rel => exact ⟨j + 1, by omega, by omega, by omega, by go_num, by rw [HS.out, HO.out, if_neg HE.out, Nat.add_zero], (show _ = _ from rfl)⟩
            · have hjT' : j = i := by omega
              have hd : ¬ (j : Int) < (i : Int) := by omega
              have HJ : Aside (j = i) := hjT'
              clear hjT'
              go_wp2
              go_ret2
              rw [HJ.out]
              exact ⟨rfl, rfl⟩
        · have HB : Aside (bh v = true) := by show _ = _; simpa using hb
          clear hb
          by_cases e10 : v = 10
          · have HE : Aside (v = 10) := e10
            have t10 : (v == 10) = true := by simp [e10]
            have t35 : (v == 35) = false := by simp [e10]
            clear e10
            go_wp2_with fail
            refine (bh_any v _).mono ?_
            rintro e w1 ⟨rfl, hw⟩
            obtain rfl := hw.symm
            rw [HB.out]
            go_wp2_with fail
            go_roundg (gk - 1)
            case measure => omega
            case rel => exact ⟨i, h, i + 1, by omega, by omega, by omega, by omega, by omega, by omega, by omega, rfl, rfl, rfl, by go_num, (show _ = _ by rw [(show decide ((i : Int) < h) = false by simp; omega)]; exact step_nl zs i false F Hzi.out (by rw [← HV.out]; exact HE.out) (by have := hst.out; rwa [HD.out] at this)), (show _ = _ from rfl)⟩
          · by_cases e35 : v = 35
            · have HE : Aside (v = 35) := e35
              have t10 : (v == 10) = false := by simp [e35]
              have t35 : (v == 35) = true := by simp [e35]
              clear e10 e35
              go_wp2_with fail
              refine (bh_any v _).mono ?_
              rintro e w1 ⟨rfl, hw⟩
              obtain rfl := hw.symm
              rw [HB.out]
              go_wp2_with fail
              go_roundg (gk - 1)
              case measure => omega
              case rel => exact ⟨nl, i, i + 1, by omega, by omega, by omega, by omega, by omega, by omega, by omega, rfl, rfl, rfl, by go_num, (show _ = _ by rw [(show decide (nl < (i : Int)) = true by simp; omega)]; exact step_hash zs i false F Hzi.out (by rw [← HV.out]; exact HE.out) (by have := hst.out; rwa [HD.out] at this)), (show _ = _ from rfl)⟩
            · have HE : Aside (¬ v = 10 ∧ ¬ v = 35) := ⟨e10, e35⟩
              have t10 : (v == 10) = false := by simp [e10]
              have t35 : (v == 35) = false := by simp [e35]
              clear e10 e35
              go_wp2_with fail
              refine (bh_any v _).mono ?_
              rintro e w1 ⟨rfl, hw⟩
              obtain rfl := hw.symm
              rw [HB.out]
              go_wp2_with fail
              go_roundg (gk - 1)
              case measure => omega
              case rel => exact ⟨nl, h, i + 1, by omega, by omega, by omega, by omega, by omega, by omega, by omega, rfl, rfl, rfl, by go_num, (show _ = _ by rw [(show decide (nl < h) = false by simp; omega)]; exact step_blank zs i F Hzi.out (by rw [← HV.out]; exact HB.out) (by rw [← HV.out]; exact HE.out.1) (by rw [← HV.out]; exact HE.out.2) (by have := hst.out; rwa [HD.out] at this)), (show _ = _ from rfl)⟩
      · have HD : Aside (decide (nl < h) = true) := by show _ = _; simp; omega
        have hg2 : nl < h := by omega
        clear hg
        by_cases e10 : v = 10
        · have HE : Aside (v = 10) := e10
          have t10 : (v == 10) = true := by simp [e10]
          have t35 : (v == 35) = false := by simp [e10]
          clear e10
          go_wp2_with fail
          go_roundg (gk - 1)
          case measure => omega
          case rel => exact ⟨i, h, i + 1, by omega, by omega, by omega, by omega, by omega, by omega, by omega, rfl, rfl, rfl, by go_num, (show _ = _ by rw [(show decide ((i : Int) < h) = false by simp; omega)]; exact step_nl zs i true F Hzi.out (by rw [← HV.out]; exact HE.out) (by have := hst.out; rwa [HD.out] at this)), (show _ = _ from rfl)⟩
        · by_cases e35 : v = 35
          · have HE : Aside (v = 35) := e35
            have t10 : (v == 10) = false := by simp [e35]
            have t35 : (v == 35) = true := by simp [e35]
            clear e10 e35
            go_wp2_with fail
            go_roundg (gk - 1)
            case measure => omega
            case rel => exact ⟨nl, i, i + 1, by omega, by omega, by omega, by omega, by omega, by omega, by omega, rfl, rfl, rfl, by go_num, (show _ = _ by rw [(show decide (nl < (i : Int)) = true by simp; omega)]; exact step_hash zs i true F Hzi.out (by rw [← HV.out]; exact HE.out) (by have := hst.out; rwa [HD.out] at this)), (show _ = _ from rfl)⟩
          · have HE : Aside (¬ v = 10) := e10
            have t10 : (v == 10) = false := by simp [e10]
            have t35 : (v == 35) = false := by simp [e35]
            clear e10 e35
            go_wp2_with fail
            go_roundg (gk - 1)
            case measure => omega
            case rel => exact ⟨nl, h, i + 1, by omega, by omega, by omega, by omega, by omega, by omega, by omega, rfl, rfl, rfl, by go_num, (show _ = _ by rw [(show decide (nl < h) = true by simp; omega)]; exact step_com zs i F Hzi.out (by rw [← HV.out]; exact HE.out) (by have := hst.out; rwa [HD.out] at this)), (show _ = _ from rfl)⟩
    · have hd : ¬ (i : Int) < (n : Int) := by omega
      have e : n = F := by
        have h1 := hst.out
        rw [(Plain.past zs _ i (by rw [Hz.out]; omega)).1] at h1
        omega
      subst e
      go_wp2_with fail
      go_loopg [14, 15] (n - q) (fun k a b wr => ∃ j : Nat, q ≤ j ∧ j ≤ n ∧ k + j = n ∧ b = .int .i64 j ∧ a = .int .i64 (wrap64 (l + cnt zs q (j - q))) ∧ Aside (wr = w))
      case atStart => exact ⟨q, Nat.le_refl _, by omega, by omega, rfl, by rw [Nat.sub_self, Plain.cnt_zero, show l + ((0 : Nat) : Int) = l from by omega, Hl.out], (show _ = _ from rfl)⟩
      case round =>
        obtain ⟨j, hqj, hjT, hkj, rfl, rfl, hw⟩ := hrel
        obtain rfl := hw.out.symm
        clear hw
        by_cases hjl : j < n
        · have hjli : (j : Int) < (n : Int) := by omega
          have hjn : (j : Int) < (n : Int) := by omega
          obtain ⟨u, hu⟩ : ∃ u, u = zs.getD j 0 := ⟨_, rfl⟩
          have hcu : w.cell? ⟨x, off + j, none⟩ = some (.int .u8 u) := by rw [hu]; exact Hc.out j (by omega)
          have HS : Aside (cnt zs q (j + 1 - q) = cnt zs q (j - q) + if u = 10 then 1 else 0) := by
            show _ = _
            rw [hu]
            have := Plain.cnt_succ zs q (j - q) (by rw [Hz.out]; omega)
            rw [show q + (j - q) = j from by omega] at this
            rw [show j + 1 - q = j - q + 1 from by omega]
            exact this
          clear hu
          obtain ⟨o, ho⟩ : ∃ o, o = wrap64 (l + cnt zs q (j - q)) := ⟨_, rfl⟩
          have HO : Aside (o = wrap64 (l + cnt zs q (j - q))) := ho
          rw [← ho]
          clear ho
          by_cases e10 : u = 10
          · have t10 : (u == 10) = true := by simp [e10]
            have HE : Aside (u = 10) := e10
            clear e10
            go_wp2
            go_roundg (gk - 1)
            case measure => omega
            case rel => exact ⟨j + 1, by omega, by omega, by omega, by go_num, by rw [HS.out, HO.out, if_pos HE.out, ← wrap_cnt], (show _ = _ from rfl)⟩
          · have t10 : (u == 10) = false := by simp [e10]
            have HE : Aside (¬ u = 10) := e10
            clear e10
            go_wp2
            go_roundg (gk - 1)
            case measure => omega
            case rel => exact ⟨j + 1, by omega, by omega, by omega, by go_num, by rw [HS.out, HO.out, if_neg HE.out, Nat.add_zero], (show _ = _ from rfl)⟩
        · have hjT' : j = n := by omega
          have hd : ¬ (j : Int) < (n : Int) := by omega
          have HJ : Aside (j = n) := hjT'
          clear hjT'
          go_wp2
          go_ret2
          rw [HJ.out]
          exact ⟨rfl, rfl⟩

end Model
end Go.Proofs.Qxb6602316a
