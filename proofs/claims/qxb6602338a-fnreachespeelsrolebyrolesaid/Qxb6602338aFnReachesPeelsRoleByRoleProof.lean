/-
  'Rows.FnReachesPeelsRoleByRoleSaid': the frame after the guide's own (proof-skeleton.mjs), its arguments two structs by value and a string; the walk: Qxb6602338aL3.
-/
import Derived.Test.Qxb6602338aRows
import Derived.WalkKit
import Derived.ProofKit
import Derived.OpenShut
import Derived.ShutString
import Derived.ChangeOld
import Derived.Below
import Derived.Test.Qxb6602338aOpenScope
import Derived.Test.Qxb6602338aHead
import Derived.Test.Qxb6602338aL3
namespace Go.Proofs.Qxb6602338a.fnReachesPeelsRoleByRole
open Go.ChangeShapes Go.WideShapes Go.ChangeAt Go.RowKit
open Go.ChangeMaps (open_string shut_string)
set_option linter.unusedVariables false

theorem own : ownKnob Try.prog.godebug = none := by kernel_rfl
theorem laidOut : laidOutB Try.prog = true := by kernel_rfl

set_option maxRecDepth 100000 in
theorem lifted (os : Os) (started : os.Started) (H : Type) (enc : TypeId × Value → H) :
    ReturnsInHanded {} Try.checked os 3 .any (Rows.fnReachesPeelsRoleByRoleSpec.pre6 enc Try.prog Try.f3 Rows.fnReachesPeelsRoleByRoleRow.domain false) (Rows.fnReachesPeelsRoleByRoleSpec.post enc Try.prog Try.f3 false true false false) := by
  refine returnsInHanded_of_change (C := Try.checked) own started (by kernel_rfl) Try.func3
    (ChangeSpec.witness6 (enc := enc) (C := Try.checked) false ⟨#[], #[.agg #[.slice none 0 0, .bool false, .string ByteArray.empty, .bool false, .slice none 0 0, .bool false, .slice none 0 0, .string ByteArray.empty, .int .u8 0, .int .u8 0, .bool false], .agg #[.slice none 0 0, .bool false, .string ByteArray.empty, .bool false, .slice none 0 0, .bool false, .slice none 0 0, .string ByteArray.empty, .int .u8 0, .int .u8 0, .bool false], .string ByteArray.empty], []⟩ 8 (by kernel_rfl) (by kernel_rfl) (by kernel_rfl) (by kernel_rfl)) ?_
  intro W base args ds gs before hval0 hW hcnd _
  have hval : ∀ (j : Nat) t v, Try.f3.params[j]? = some t → args[j]? = some v → Value.okWide Try.prog W .any base t v := hval0
  have hW' := hW
  obtain ⟨p, q, hA0, hV, rfl, hfz, hnd⟩ := hW
  have hA : DataW.TrodAll enc Try.prog W 0 (fun _ => true) true Try.f3.params.toList args.toList ds p := hA0
  rw [Try.params3] at hA hval
  obtain ⟨v0, vs0, d0, ds0, p0, q0, hargs, rfl, rfl, h0, r0⟩ := trodAll_cons hA
  obtain ⟨v1, vs1, d1, ds1, p1, q1, rfl, rfl, rfl, h1, r1⟩ := trodAll_cons r0
  obtain ⟨v2, vs2, d2, ds2, p2, q2, rfl, rfl, rfl, h2, r2⟩ := trodAll_cons r1
  obtain ⟨rfl, rfl, rfl⟩ := trodAll_nil r2
  obtain rfl : args = #[v0, v1, v2] := by cases args; simp_all
  obtain ⟨rfl, rfl⟩ := trodVars_none hV
  obtain ⟨cs0, rfl, hsz0⟩ := okWide_struct Try.underlying24 (hval 0 24 v0 rfl rfl)
  obtain ⟨cs1, rfl, hsz1⟩ := okWide_struct Try.underlying24 (hval 1 24 v1 rfl rfl)
  have k0 := h0
  have k1 := h1
  have lt0 : ∀ x ∈ p0, x.block < W.heap.size := by obtain ⟨m, hm⟩ := k0; exact DataW.trod_lt m _ _ _ hm
  have lt1 : ∀ x ∈ p1, x.block < W.heap.size := by obtain ⟨m, hm⟩ := k1; exact DataW.trod_lt m _ _ _ hm
  obtain ⟨fuel0, hf0⟩ := h0
  obtain ⟨fuel1, hf1⟩ := h1
  obtain ⟨a1, a2, a3, l1, c1, l2, c2, l3, c3, es1, es2, es3, rs1, ev1, ru1, ac1, u1, pe1, ch1, co1, rfl, e1, e2, e3⟩ := scope_open (hsz0.trans Try.cells24) hf0
  obtain ⟨a4, a5, a6, l4, c4, l5, c5, l6, c6, es4, es5, es6, rs2, ev2, ru2, ac2, u2, pe2, ch2, co2, rfl, e4, e5, e6⟩ := scope_open (hsz1.trans Try.cells24) hf1
  obtain ⟨s2, rfl, rfl, rfl, hs2⟩ := open_string Try.underlying9 (hval 2 9 v2 rfl rfl) h2
  clear hA0 hval0
  refine (law3 a1 l1 c1 es1 a2 l2 c2 es2 a3 l3 c3 es3 a4 l4 c4 es4 a5 l5 c5 es5 a6 l6 c6 es6 rs1 ev1 ru1 ac1 u1 pe1 ch1 co1 rs2 ev2 ru2 ac2 u2 pe2 ch2 co2 s2 W e1 e2 e3 e4 e5 e6 hs2).mono fun e W' ⟨he, bel⟩ => ?_
  subst he
  exact ⟨_, rfl, _, _, _, [], _, [], hW', trodAll_mk1 (shut_bool Try.underlying4 _), (trodAll_cons_mk (Below.trod laidOut (by kernel_rfl) (of_decide_eq_true (by kernel_rfl)) k0 bel lt0) (trodAll_cons_mk (Below.trod laidOut (by kernel_rfl) (of_decide_eq_true (by kernel_rfl)) k1 bel lt1) (trodAll_cons_mk (shut_string Try.underlying9 hs2) trodAll_mk0))), rfl, bel.frame _, fun h => by cases h⟩

theorem closed : joinedFacts Try.prog 3 Try.f3 Rows.fnReachesPeelsRoleByRoleSpec Rows.fnReachesPeelsRoleByRoleRow = true := by
  simp only [joinedFacts, Bool.and_eq_true]
  refine ⟨⟨⟨⟨⟨⟨⟨⟨⟨⟨⟨⟨⟨⟨⟨⟨⟨⟨⟨⟨⟨⟨⟨⟨⟨⟨⟨⟨⟨⟨⟨?_, ?_⟩, ?_⟩, ?_⟩, ?_⟩, ?_⟩, ?_⟩, ?_⟩, ?_⟩, ?_⟩, ?_⟩, ?_⟩, ?_⟩, ?_⟩, ?_⟩, ?_⟩, ?_⟩, ?_⟩, ?_⟩, ?_⟩, ?_⟩, ?_⟩, ?_⟩, ?_⟩, ?_⟩, mayEnter⟩, ?_⟩, ?_⟩, ?_⟩, ?_⟩, ?_⟩, ?_⟩
  rotate_right 6
  · rw [liftsFinal]
    kernel_rfl
  · rw [make_cut]
    kernel_rfl
  all_goals (as_aux_lemma => kernel_rfl)

theorem over : Rows.fnReachesPeelsRoleByRoleRow.holds Try.pinned (OpenSpec.ofChange Rows.fnReachesPeelsRoleByRoleSpec) :=
  OpenClaim.holds_of_wide 3 Try.f3 rfl rfl rfl rfl rfl rfl rfl ⟨rfl, rfl, rfl, rfl, rfl⟩ rfl rfl rfl rfl rfl (by kernel_rfl) Try.func3 closed
    (of_decide_eq_true (by kernel_rfl)) (by unfold Func.isWrapper; first | (rw [if_pos (by decide +kernel)]; kernel_rfl) | (rw [if_neg (by decide +kernel)]; exact ⟨rfl, rfl⟩))
    (fun os started H enc _ => lifted os started H enc)

theorem proved : Rows.FnReachesPeelsRoleByRoleSaid := over
#print axioms proved
end Go.Proofs.Qxb6602338a.fnReachesPeelsRoleByRole
