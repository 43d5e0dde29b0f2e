import Derived.Test.Qxb6602316aRows
import Derived.WalkKit
import Derived.WalkSpells
import Derived.WalkLawsBesides
import Derived.Deep.QuietTactic
import Derived.BigQuiet
import Derived.Deep.LoopGhost
import Derived.Test.Qxb6602316aPlain
namespace Go.Proofs.Qxb6602316a
open Go.RowKit
open Plain (stop nls)

/-- THE SCANNER's BLOCK: the three fields, and that nothing below it has turned since w. -/
structure Sc (w : World) (B : Nat) (sv : Value) (p l : Int) (wr : World) : Prop where
  c0 : wr.cell? ⟨B, 0, none⟩ = some sv
  c1 : wr.cell? ⟨B, 1, none⟩ = some (.int .i64 p)
  c2 : wr.cell? ⟨B, 2, none⟩ = some (.int .i64 l)
  f1 : wr.frozen? ⟨B, 1, none⟩ = false
  f2 : wr.frozen? ⟨B, 2, none⟩ = false
  bel : Below B w wr

set_option maxHeartbeats 400000 in
theorem skip_past (B n c : Nat) (a : Option Addr) (p l : Int) (w0 w : World) (hp : (n : Int) ≤ p) (h : Sc w0 B (.slice a n c) p l w) :
    Calls Try.prog 13 #[.pointer (some ⟨B, 0, none⟩)] w fun e w' => e = .returned (.tuple #[]) ∧ Sc w0 B (.slice a n c) p l w' := by
  obtain ⟨c0, c1, c2, f1, f2, bel⟩ := h
  go_enter Try.func13, Try.ntmps13
  go_wp2
  go_loopg [11] 0 (fun k _ wr => Sc w0 B (.slice a n c) p l wr)
  case atStart => exact ⟨c0, c1, c2, f1, f2, bel⟩
  case round =>
    obtain ⟨c0, c1, c2, f1, f2, bel⟩ := hrel
    have hd : decide (p < (n : Int)) = false := by simp; omega
    go_wp2
    go_quiet (fail)
    go_wp2
    go_end0
    exact ⟨rfl, c0, c1, c2, f1, f2, below_drewN bel _⟩

theorem Sc.drewN {w : World} {B : Nat} {sv : Value} {p l : Int} {wr : World} (h : Sc w B sv p l wr) (n : Nat) : Sc w B sv p l (wr.drewN n) :=
  ⟨h.c0, h.c1, h.c2, h.f1, h.f2, by exact below_drewN h.bel n⟩

theorem Sc.pos {w : World} {B : Nat} {sv : Value} {p l : Int} {wr : World} (h : Sc w B sv p l wr) (p' : Int) : Sc w B sv p' l (wr.setCell ⟨B, 1, none⟩ (.int .i64 p')) := by
  have h1 := h.c0
  have h2 := h.c1
  have h3 := h.c2
  have h4 := h.f1
  have h5 := h.f2
  refine ⟨?_, ?_, ?_, ?_, ?_, h.bel.setCell (Nat.le_refl _) _⟩
  all_goals go_simp

theorem Sc.line {w : World} {B : Nat} {sv : Value} {p l : Int} {wr : World} (h : Sc w B sv p l wr) (l' : Int) : Sc w B sv p l' (wr.setCell ⟨B, 2, none⟩ (.int .i64 l')) := by
  have h1 := h.c0
  have h2 := h.c1
  have h3 := h.c2
  have h4 := h.f1
  have h5 := h.f2
  refine ⟨?_, ?_, ?_, ?_, ?_, h.bel.setCell (Nat.le_refl _) _⟩
  all_goals go_simp

theorem wrap_succ (l : Int) (m : Nat) : wrap64 (wrap64 (l + m) + 1) = wrap64 (l + ((m + 1 : Nat) : Int)) := by
  unfold wrap64
  omega

set_option maxHeartbeats 1000000 in
theorem skip_in (B x off n c : Nat) (zs : List Int) (q : Nat) (l : Int) (w0 w : World) (hzn : zs.length = n) (hn : n ≤ maxLen) (hxB : x < B) (hq : q ≤ n) (hwl : wrap64 l = l)
    (hc : ∀ j, j < n → w0.cell? ⟨x, off + j, none⟩ = some (.int .u8 (zs.getD j 0)))
    (h : Sc w0 B (.slice (some ⟨x, off, none⟩) n c) q l w) :
    Calls Try.prog 13 #[.pointer (some ⟨B, 0, none⟩)] w fun e w' => e = .returned (.tuple #[]) ∧ Sc w0 B (.slice (some ⟨x, off, none⟩) n c) (stop zs false q) (wrap64 (l + nls zs false q)) w' := by
  unfold maxLen at hn
  have H0 : Aside (∀ j, j < n → w0.cell? ⟨x, off + j, none⟩ = some (.int .u8 (zs.getD j 0))) := hc
  have Hz : Aside (zs.length = n) := hzn
  have Hl : Aside (wrap64 l = l) := hwl
  have Hs : Aside (Sc w0 B (.slice (some ⟨x, off, none⟩) n c) q l w) := h
  clear hc hzn hwl h
  go_enter Try.func13, Try.ntmps13
  go_wp2
  go_loopg [11] (n - q) (fun k _ wr => ∃ (p m : Nat), p ≤ n ∧ k + p = n ∧ Aside (stop zs false p = stop zs false q ∧ m + nls zs false p = nls zs false q) ∧ Sc w0 B (.slice (some ⟨x, off, none⟩) n c) p (wrap64 (l + m)) wr)
  case atStart => exact ⟨q, 0, hq, by omega, ⟨rfl, by omega⟩, by rw [show l + ((0 : Nat) : Int) = l from by omega, Hl.out]; exact Hs.out⟩
  case round =>
    obtain ⟨p, m, hpn, hk, hst, hsc⟩ := hrel
    have HS : Aside (Sc w0 B (.slice (some ⟨x, off, none⟩) n c) p (wrap64 (l + m)) wr) := hsc
    by_cases hlt : p < n
    · obtain ⟨v, hv⟩ : ∃ v, v = zs.getD p 0 := ⟨_, rfl⟩
      have HV : Aside (v = zs.getD p 0) := hv
      have hcv : wr.cell? ⟨x, off + p, none⟩ = some (.int .u8 v) := by rw [hv]; exact (hsc.bel.cell (p := ⟨x, off + p, none⟩) hxB).trans (H0.out p hlt)
      obtain ⟨lv, hlv⟩ : ∃ lv, lv = wrap64 (l + m) := ⟨_, rfl⟩
      have HL : Aside (lv = wrap64 (l + m)) := hlv
      rw [← hlv] at hsc
      obtain ⟨c0, c1, c2, f1, f2, bel⟩ := hsc
      clear hv hlv
      have hlti : (p : Int) < (n : Int) := by omega
      by_cases e10 : v = 10
      · have HX : Aside (zs.getD p 0 = 10) := HV.out.symm.trans e10
        have t10 : (v == 10) = true := by simp [e10]
        clear e10
        go_wp2
        go_quiet (fail)
        go_wp2
        go_quiet (fail)
        go_wp2
        go_roundg (gk - 1)
        case measure => omega
        case rel =>
          obtain ⟨s1, s2⟩ := hst.out
          obtain ⟨s3, s4⟩ := Plain.at_nl zs false p (by rw [Hz.out]; exact hlt) HX.out
          refine ⟨p + 1, m + 1, by omega, by omega, ⟨by rw [← s3]; exact s1, by omega⟩, ?_⟩
          have g := fun N => ((HS.out.drewN N).line (wrap64 (l + ((m + 1 : Nat) : Int)))).pos ((p + 1 : Nat) : Int)
          rw [HL.out, wrap_succ]
          exact g _
      · have t10 : (v == 10) = false := by simp [e10]
        by_cases eb : v = 32 ∨ v = 9 ∨ v = 13
        · have HX : Aside (zs.getD p 0 = 32 ∨ zs.getD p 0 = 9 ∨ zs.getD p 0 = 13) := by rw [HV.out] at eb; exact eb
          have fin : ∀ nq, ∃ p_1 m, p_1 ≤ n ∧ gk - 1 + p_1 = n ∧ Aside (stop zs false p_1 = stop zs false q ∧ m + nls zs false p_1 = nls zs false q) ∧ Sc w0 B (.slice (some ⟨x, off, none⟩) n c) p_1 (wrap64 (l + m)) ((wr.drewN nq).setCell ⟨B, 1, none⟩ (.int .i64 ((p : Int) + 1))) := by
            intro nq
            obtain ⟨s1, s2⟩ := hst.out
            obtain ⟨s3, s4⟩ := Plain.at_blank zs p (by rw [Hz.out]; exact hlt) HX.out
            exact ⟨p + 1, m, by omega, by omega, ⟨by rw [← s3]; exact s1, by rw [← s4]; exact s2⟩, (HS.out.drewN nq).pos ((p + 1 : Nat) : Int)⟩
          have FIN := show Aside _ from fin
          clear fin
          by_cases e32 : v = 32
          · have t32 : (v == 32) = true := by simp [e32]
            clear e32 eb e10
            go_wp2
            go_quiet (fail)
            go_wp2
            go_quiet (fail)
            go_wp2
            go_roundg (gk - 1)
            case measure => omega
            case rel => exact FIN.out _
          · have t32 : (v == 32) = false := by simp [e32]
            by_cases e9 : v = 9
            · have t9 : (v == 9) = true := by simp [e9]
              clear e32 eb e10 e9
              go_wp2
              go_quiet (fail)
              go_wp2
              go_quiet (fail)
              go_wp2
              go_roundg (gk - 1)
              case measure => omega
              case rel => exact FIN.out _
            · have t9 : (v == 9) = false := by simp [e9]
              have t13 : (v == 13) = true := by simp; omega
              clear e32 eb e10 e9
              go_wp2
              go_quiet (fail)
              go_wp2
              go_quiet (fail)
              go_wp2
              go_roundg (gk - 1)
              case measure => omega
              case rel => exact FIN.out _
        · have t32 : (v == 32) = false := by simp; omega
          have t9 : (v == 9) = false := by simp; omega
          have t13 : (v == 13) = false := by simp; omega
          by_cases e35 : v = 35
          · have HX : Aside (zs.getD p 0 = 35) := HV.out.symm.trans e35
            have t35 : (v == 35) = true := by simp [e35]
            clear e35 eb e10
            go_wp2
            go_quiet (fail)
            go_wp2
            go_quiet (fail)
            go_wp2
            go_loopg [46] (n - p) (fun k _ wi => ∃ (r : Nat), p ≤ r ∧ r ≤ n ∧ k + r = n ∧ Aside (stop zs true r = stop zs false q ∧ m + nls zs true r = nls zs false q ∧ (p < r ∨ zs.getD r 0 = 35)) ∧ Sc w0 B (.slice (some ⟨x, off, none⟩) n c) r (wrap64 (l + m)) wi)
            case atStart =>
              obtain ⟨s1, s2⟩ := hst.out
              obtain ⟨s3, s4⟩ := Plain.at_hash zs p (by rw [Hz.out]; exact hlt) HX.out
              exact ⟨p, Nat.le_refl _, hpn, by omega, ⟨by rw [← s3]; exact s1, by rw [← s4]; exact s2, by rw [HX.out]; simp⟩, HS.out.drewN _⟩
            case round =>
              obtain ⟨r, hpr, hrn, hkr, hsr, hsi⟩ := hrel
              have HSi : Aside (Sc w0 B (.slice (some ⟨x, off, none⟩) n c) r (wrap64 (l + m)) wr) := hsi
              by_cases hlr : r < n
              · obtain ⟨u, hu⟩ : ∃ u, u = zs.getD r 0 := ⟨_, rfl⟩
                have HU : Aside (u = zs.getD r 0) := hu
                have hcu : wr.cell? ⟨x, off + r, none⟩ = some (.int .u8 u) := by rw [hu]; exact (hsi.bel.cell (p := ⟨x, off + r, none⟩) hxB).trans (H0.out r hlr)
                clear hu
                have hlri : (r : Int) < (n : Int) := by omega
                clear c0 c1 c2 f1 f2 bel hcv hlti hlt
                obtain ⟨c0, c1, c2, f1, f2, bel⟩ := hsi
                by_cases e10 : u = 10
                · have HX2 : Aside (zs.getD r 0 = 10) := HU.out.symm.trans e10
                  have t10 : (u != 10) = false := by simp [e10]
                  clear e10
                  go_wp2
                  go_quiet (fail)
                  go_wp2
                  obtain ⟨s1, s2, s3⟩ := hsr.out
                  have hpr' : p < r := by
                    rcases s3 with s3 | s3
                    · exact s3
                    · rw [HX2.out] at s3; simp at s3
                  go_roundg (n - r)
                  case measure => omega
                  case rel =>
                    obtain ⟨s4, s5⟩ := Plain.com_out zs r (.inr HX2.out)
                    exact ⟨r, m, by omega, by omega, ⟨by rw [← s4]; exact s1, by rw [← s5]; exact s2⟩, HSi.out.drewN _⟩
                · have HX2 : Aside (¬ zs.getD r 0 = 10) := by rw [HU.out] at e10; exact e10
                  have t10 : (u != 10) = true := by simp [e10]
                  clear e10
                  go_wp2
                  go_quiet (fail)
                  go_wp2
                  go_roundg (gk - 1)
                  case measure => omega
                  case rel =>
                    obtain ⟨s1, s2, s3⟩ := hsr.out
                    obtain ⟨s4, s5⟩ := Plain.at_com zs r (by rw [Hz.out]; exact hlr) HX2.out
                    exact ⟨r + 1, by omega, by omega, by omega, ⟨by rw [← s4]; exact s1, by rw [← s5]; exact s2, .inl (by omega)⟩, (HSi.out.drewN _).pos ((r + 1 : Nat) : Int)⟩
              · clear c0 c1 c2 f1 f2 bel hcv hlti
                obtain ⟨c0, c1, c2, f1, f2, bel⟩ := hsi
                have hd : decide ((r : Int) < (n : Int)) = false := by simp; omega
                go_wp2
                go_quiet (fail)
                go_wp2
                obtain ⟨s1, s2, s3⟩ := hsr.out
                go_roundg (n - r)
                case measure => omega
                case rel =>
                  obtain ⟨s4, s5⟩ := Plain.com_out zs r (.inl (by rw [Hz.out]; omega))
                  exact ⟨r, m, by omega, by omega, ⟨by rw [← s4]; exact s1, by rw [← s5]; exact s2⟩, HSi.out.drewN _⟩
          · have t35 : (v == 35) = false := by simp [e35]
            have HX : Aside (Plain.bh (zs.getD p 0) = false) := by
              show Plain.bh (zs.getD p 0) = false
              rw [← HV.out]; simp [Plain.bh]; omega
            clear e35 eb e10
            go_wp2
            go_quiet (fail)
            go_wp2
            go_quiet (fail)
            go_wp2
            refine bodyPost_ret (results_none rfl _ _ _) rfl ?_
            obtain ⟨s1, s2⟩ := hst.out
            obtain ⟨s3, s4⟩ := Plain.at_other zs p (by rw [Hz.out]; exact hlt) HX.out
            have e1 : stop zs false q = p := by rw [← s1]; exact s3
            have e2 : nls zs false q = m := by omega
            rw [e1, e2]
            exact ⟨rfl, HS.out.drewN _⟩
    · obtain ⟨c0, c1, c2, f1, f2, bel⟩ := hsc
      have hd : decide ((p : Int) < (n : Int)) = false := by simp; omega
      go_wp2
      go_quiet (fail)
      go_wp2
      go_end0
      obtain ⟨s1, s2⟩ := hst.out
      obtain ⟨s3, s4⟩ := Plain.past zs false p (by rw [Hz.out]; omega)
      have e1 : stop zs false q = p := by rw [← s1]; exact s3
      have e2 : nls zs false q = m := by omega
      rw [e1, e2]
      exact ⟨rfl, HS.out.drewN _⟩

end Go.Proofs.Qxb6602316a
