/-
  map[string]bool IN THE WALKS: ONE WORD FOR A MAP THAT IS NIL OR LIES IN A BLOCK ('IsM'), ONE FOR A RANGE OVER IT ('IsR'), AND THE OPERATIONS' LAWS.
-/
import Derived.Test.Qxb6602338aRows
import Derived.WalkKit
import Derived.WalkSpells
import Derived.WalkLawsBesides
import Derived.Deep.QuietTactic
import Derived.BigQuiet
import Derived.Deep.LoopGhost
import Derived.Maps.RangeWalk
namespace Go.Proofs.Qxb6602338a
open Go.RowKit
open Go.Maps (Keyed Tidy)

theorem law : Keyed Try.prog 9 := Maps.string_keyed Try.underlying9
theorem zero4 (w : World) : (zeroValue 4).run Try.prog w = .ok (.bool false) w := by kernel_rfl

/-- what a string reads as, as a key -/
def kl (s : ByteArray) : Lit := .string s.data.toList
theorem keyOf_kl {s : ByteArray} (hs : s.size ≤ maxLen) : keyOf Try.prog 9 (.string s) = some (kl s) := WideMaps.keyOf_string_mk Try.underlying9 hs
theorem kl_isKey (s : ByteArray) : WideAt.IsKeyLit (kl s) := trivial
theorem kl_inj {s t : ByteArray} (h : kl s = kl t) : s = t := by
  unfold kl at h
  cases s; cases t
  simp at h
  rw [h]

/-- m[k] on the datum -/
def atB (D : DataW Unit) (k : Lit) : Bool := match D.atKey k (.lit (.bool false)) with | .lit (.bool x) => x | _ => false

theorem atB_of {D : DataW Unit} {k : Lit} {x : Bool} (h : D.atKey k (.lit (.bool false)) = .lit (.bool x)) : atB D k = x := by
  unfold atB; rw [h]

theorem plainElem_bool_inv {P : Program} {e : TypeId} (he : P.underlying e = some .bool) {H : Type} {v : Value} {z : DataW H × List MemPlace} (h : plainElem P e v = some z) : ∃ x, v = .bool x ∧ z = (.lit (.bool x), []) := by
  unfold plainElem at h
  rw [he] at h
  cases v <;> simp at h
  exact ⟨_, rfl, h.symm⟩

theorem keyOf_string_inv {key : Value} {k : Lit} (h : keyOf Try.prog 9 key = some k) : ∃ s : ByteArray, key = .string s ∧ k = kl s ∧ s.size ≤ maxLen := by
  cases key <;> simp [keyOf, Try.underlying9, mapKey] at h
  exact ⟨_, rfl, h.2.symm, h.1⟩

/-- THE VALUE '.map m' IS NIL, OR ITS BLOCK IS A MAP OF AT MOST n ENTRIES THAT READS AS D. -/
def IsM (w : World) (m : Option Nat) (n : Nat) (D : DataW Unit) : Prop :=
  (m = none ∧ D = .map []) ∨ ∃ b, m = some b ∧ w.ownsMap Try.prog 9 (plainElem Try.prog 4) b n D

theorem IsM.nil (w : World) (n : Nat) : IsM w none n (.map []) := .inl ⟨rfl, rfl⟩
theorem IsM.own {w : World} {b n : Nat} {D : DataW Unit} (h : w.ownsMap Try.prog 9 (plainElem Try.prog 4) b n D) : IsM w (some b) n D := .inr ⟨b, rfl, h⟩
theorem IsM.mono {w : World} {m : Option Nat} {n n' : Nat} {D : DataW Unit} (h : IsM w m n D) (hn : n ≤ n') : IsM w m n' D := by
  rcases h with h | ⟨b, rfl, h⟩
  · exact .inl h
  · exact .inr ⟨b, rfl, h.mono hn⟩
theorem IsM.of_block {w w' : World} {m : Option Nat} {n : Nat} {D : DataW Unit} (h : IsM w m n D) (hb : ∀ b, m = some b → w'.heap[b]? = w.heap[b]?) : IsM w' m n D := by
  rcases h with h | ⟨b, rfl, es, clock, h, r⟩
  · exact .inl h
  · exact .inr ⟨b, rfl, es, clock, (hb b rfl).trans h, r⟩
theorem IsM.lt {w : World} {m : Option Nat} {n : Nat} {D : DataW Unit} (h : IsM w m n D) {b : Nat} (hb : m = some b) : b < w.heap.size := by
  rcases h with ⟨rfl, _⟩ | ⟨b', rfl, h⟩
  · cases hb
  · cases hb; exact h.lt
theorem IsM.below {w w' : World} {m : Option Nat} {n : Nat} {D : DataW Unit} (h : IsM w m n D) {B : Nat} (hw : Below B w w') (hB : ∀ b, m = some b → b < B) : IsM w' m n D :=
  h.of_block (fun b e => hw.block b (hB b e))
theorem IsM.belowAll {w w' : World} {m : Option Nat} {n : Nat} {D : DataW Unit} (h : IsM w m n D) (hw : Below w.heap.size w w') : IsM w' m n D :=
  h.below hw (fun _ e => h.lt e)
theorem IsM.grown {w w' : World} {m : Option Nat} {n : Nat} {D : DataW Unit} (h : IsM w m n D) {row : Option Nat} (hg : w.grownBy w' row) (hne : ∀ b, m = some b → some b ≠ row) : IsM w' m n D :=
  h.of_block (fun b e => hg.block b (h.lt e) (hne b e))
theorem IsM.drewN {w : World} {m : Option Nat} {n : Nat} {D : DataW Unit} (h : IsM w m n D) (k : Nat) : IsM (w.drewN k) m n D := h.of_block (fun _ _ => rfl)
theorem IsM.drew {w : World} {m : Option Nat} {n : Nat} {D : DataW Unit} (h : IsM w m n D) : IsM w.drew m n D := h.of_block (fun _ _ => rfl)
theorem IsM.tidy {w : World} {m : Option Nat} {n : Nat} {D : DataW Unit} (h : IsM w m n D) : Tidy D := by
  rcases h with ⟨_, rfl⟩ | ⟨b, rfl, h⟩
  · exact Maps.tidy_empty
  · exact h.tidy law
theorem IsM.size_le {w : World} {m : Option Nat} {n : Nat} {D : DataW Unit} (h : IsM w m n D) : Maps.size D ≤ n := by
  rcases h with ⟨_, rfl⟩ | ⟨b, rfl, h⟩
  · exact Nat.zero_le _
  · exact h.size_le

/-! ### the operations: equations on their runs -/
theorem IsM.look {w : World} {m : Option Nat} {n : Nat} {D : DataW Unit} (h : IsM w m n D) {s : ByteArray} (hs : s.size ≤ maxLen) :
    (Instr.lookup 28 (.map m) (.string s) false).run Try.prog w = .ok (.bool (atB D (kl s))) w := by
  rcases h with ⟨rfl, rfl⟩ | ⟨b, rfl, h⟩
  · have := Maps.look_nil (P := Try.prog) (w := w) (t := 28) (e := 4) false law Try.underlying28 (zero4 w) (keyOf_kl hs)
    simpa [atB, DataW.atKey] using this
  · obtain ⟨v, ps, hrun, hv⟩ := h.lookup law Try.underlying28 (zero4 w) (plainElem_bool Try.underlying4 false) (keyOf_kl hs)
    obtain ⟨x, rfl, hx⟩ := plainElem_bool_inv Try.underlying4 hv
    simp only [Prod.mk.injEq] at hx
    rw [atB_of hx.1]
    exact hrun

theorem IsM.lookOk {w : World} {m : Option Nat} {n : Nat} {D : DataW Unit} (h : IsM w m n D) {s : ByteArray} (hs : s.size ≤ maxLen) :
    (Instr.lookup 28 (.map m) (.string s) true).run Try.prog w = .ok (.tuple #[.bool (atB D (kl s)), .bool (Maps.has D (kl s))]) w := by
  rcases h with ⟨rfl, rfl⟩ | ⟨b, rfl, h⟩
  · have := Maps.look_nil (P := Try.prog) (w := w) (t := 28) (e := 4) true law Try.underlying28 (zero4 w) (keyOf_kl hs)
    simpa [atB, DataW.atKey, Maps.has] using this
  · obtain ⟨v, ps, hrun, hv⟩ := h.look_ok law Try.underlying28 (zero4 w) (plainElem_bool Try.underlying4 false) (keyOf_kl hs)
    obtain ⟨x, rfl, hx⟩ := plainElem_bool_inv Try.underlying4 hv
    simp only [Prod.mk.injEq] at hx
    rw [atB_of hx.1]
    exact hrun

theorem IsM.len {w : World} {m : Option Nat} {n : Nat} {D : DataW Unit} (h : IsM w m n D) (ty : TypeId) :
    (Builtin.len_ #[28] ty #[.map m]).run Try.prog w = .ok (.int .i64 (Maps.size D)) w := by
  rcases h with ⟨rfl, rfl⟩ | ⟨b, rfl, h⟩
  · exact Maps.len_nil Try.underlying28 ty
  · exact h.len Try.underlying28 ty

theorem run_makeMap_hint (z : Int) (w : World) : (Instr.makeMap 28 (some (.int .i64 z))).run Try.prog w = .ok (.map (some w.heap.size)) (w.alloc (.map #[] 0)) := by
  simp [Instr.makeMap, run_underlying Try.underlying28, asInt, asIntOf, Result.andThen]

/-! ### a range over it -/
/-- BLOCK r IS AN ITERATOR OVER THE MAP '.map m' THAT READS AS D; 'left' says which keys are still to come; cnt how many. -/
def IsR (w : World) (r : Nat) (m : Option Nat) (n : Nat) (D : DataW Unit) (left : Lit → Bool) (cnt : Nat) : Prop :=
  (m = none ∧ D = .map [] ∧ (∃ a s c, w.heap[r]? = some (.mapIter none a s c)) ∧ (∀ k, left k = false)) ∨ ∃ b, m = some b ∧ w.ranges Try.prog 9 (plainElem Try.prog 4) b r n D left cnt

theorem IsR.of_block {w w' : World} {r : Nat} {m : Option Nat} {n : Nat} {D : DataW Unit} {left : Lit → Bool} {cnt : Nat} (h : IsR w r m n D left cnt) (hr : w'.heap[r]? = w.heap[r]?) (hb : ∀ b, m = some b → w'.heap[b]? = w.heap[b]?) : IsR w' r m n D left cnt := by
  rcases h with ⟨h1, h2, ⟨a, s, c, h3⟩, h4⟩ | ⟨b, rfl, es, clock, since, seen, c0, h1, h2, h3, h4, h5, rest⟩
  · exact .inl ⟨h1, h2, ⟨a, s, c, hr.trans h3⟩, h4⟩
  · exact .inr ⟨b, rfl, es, clock, since, seen, c0, (hb b rfl).trans h1, h2, h3, h4, hr.trans h5, rest⟩
theorem IsR.isM {w : World} {r : Nat} {m : Option Nat} {n : Nat} {D : DataW Unit} {left : Lit → Bool} {cnt : Nat} (h : IsR w r m n D left cnt) : IsM w m n D := by
  rcases h with ⟨h1, h2, _⟩ | ⟨b, rfl, h⟩
  · exact .inl ⟨h1, h2⟩
  · exact .inr ⟨b, rfl, h.owns⟩
theorem IsR.lt {w : World} {r : Nat} {m : Option Nat} {n : Nat} {D : DataW Unit} {left : Lit → Bool} {cnt : Nat} (h : IsR w r m n D left cnt) : r < w.heap.size := by
  rcases h with ⟨_, _, ⟨a, s, c, h3⟩, _⟩ | ⟨b, rfl, h⟩
  · exact (Array.getElem?_eq_some_iff.1 h3).1
  · exact h.lt
theorem IsR.drewN {w : World} {r : Nat} {m : Option Nat} {n : Nat} {D : DataW Unit} {left : Lit → Bool} {cnt : Nat} (h : IsR w r m n D left cnt) (k : Nat) : IsR (w.drewN k) r m n D left cnt := h.of_block rfl (fun _ _ => rfl)
theorem IsR.grown {w w' : World} {r : Nat} {m : Option Nat} {n : Nat} {D : DataW Unit} {left : Lit → Bool} {cnt : Nat} (h : IsR w r m n D left cnt) {row : Option Nat} (hg : w.grownBy w' row) (hr : some r ≠ row) (hne : ∀ b, m = some b → some b ≠ row) : IsR w' r m n D left cnt :=
  h.of_block (hg.block r h.lt hr) (fun b e => hg.block b (h.isM.lt e) (hne b e))

theorem IsM.range {w : World} {m : Option Nat} {n : Nat} {D : DataW Unit} (h : IsM w m n D) :
    ∃ w', (Instr.range 28 (.map m)).run Try.prog w = .ok (.pointer (some ⟨w.heap.size, 0, none⟩)) w' ∧ IsR w' w.heap.size m n D (Maps.has D) (Maps.size D) ∧ w.grownBy w' none ∧ w'.heap.size = w.heap.size + 1 := by
  rcases h with ⟨rfl, rfl⟩ | ⟨b, rfl, h⟩
  · exact ⟨_, run_range_nilMap w 28 9 4 Try.underlying28, .inl ⟨rfl, rfl, ⟨_, _, _, heap_alloc_new _ _⟩, fun _ => rfl⟩, World.grownBy_alloc w _ none, by simp⟩
  · obtain ⟨w', h1, h2, h3, h4⟩ := h.range law Try.underlying28
    exact ⟨w', h1, .inr ⟨b, rfl, h2⟩, h3, h4⟩

theorem run_next_nil_at {P : Program} (w : World) (ty : TypeId) (r a c : Nat) (s : Array Nat) (h : w.heap[r]? = some (.mapIter none a s c)) :
    (Instr.next (.pointer (some ⟨r, 0, none⟩)) false ty).run P w = .ok (.tuple #[.bool false]) w := by
  simp only [Instr.next, getObj, Sem.run_bind, Sem.run, h, Result.andThen]
  rfl

/-- THE STEP, at the operation, for the walk: two goals: nothing is left; or SOME key that was still to come has come. -/
theorem wpList_next_M (w : World) {ops : Array Oper} {rest : List Oper} {o : Oper} {a : Act} {Q : Exit → Act → World → Prop} (hg : o.guard = none) (it : Operand) (hop : o.op = Op.next it false)
    (r : Nat) (m : Option Nat) (n : Nat) (D : DataW Unit) (left : Lit → Bool) (cnt : Nat) (hit : a.eval it = .pointer (some ⟨r, 0, none⟩)) (h : IsR w r m n D left cnt)
    (hDone : (∀ k, left k = false) → wpList Try.prog ops Q rest (a.put o.dst (.tuple #[.bool false])) w)
    (hMore : ∀ (s : ByteArray) (c : Value) (w' : World) (cnt' : Nat), s.size ≤ maxLen → left (kl s) = true → IsR w' r m n D (fun z => left z && !z.sameKey (kl s)) cnt' → cnt' < cnt →
      w.grownBy w' (some r) → w'.heap.size = w.heap.size → (Instr.entry (.pointer (some ⟨r, 0, none⟩))).run Try.prog w' = .ok (.tuple #[.string s, c]) w' → wpList Try.prog ops Q rest (a.put o.dst (.tuple #[.bool true, .string s, c])) w') :
    wpList Try.prog ops Q (o :: rest) a w := by
  rcases h with ⟨rfl, rfl, ⟨x, s, c, h3⟩, h4⟩ | ⟨b, rfl, h⟩
  · refine wpList_plain hg fun K' hK' => ?_
    unfold Oper.wp
    simp [execOp, hop, hit, run_next_nil_at w o.type r x c s h3, Result.andThen]
    exact hK' _ _ (hDone h4)
  · refine wpList_next_ranges w hg it hop 9 law (plainElem Try.prog 4) Value.string Value.bool (fun key k hk => by obtain ⟨s, rfl, _⟩ := keyOf_string_inv hk; exact ⟨s, rfl⟩)
      (fun v y hv => by obtain ⟨x, rfl, _⟩ := plainElem_bool_inv Try.underlying4 hv; exact ⟨x, rfl⟩) b r n D left cnt hit h (fun _ h2 => hDone h2) ?_
    intro s c k y w' cnt' hk hlk hv hat hrg hlt hgr hsz hen
    obtain ⟨s', e, rfl, hs⟩ := keyOf_string_inv hk
    cases e
    exact hMore s (.bool c) w' cnt' hs hlk (.inr ⟨b, rfl, hrg⟩) hlt hgr hsz hen

/-- 'range m', at the operation. -/
theorem wpList_range_M (w : World) {ops : Array Oper} {rest : List Oper} {o : Oper} {a : Act} {Q : Exit → Act → World → Prop} (hg : o.guard = none) (mo : Operand) (hop : o.op = Op.range 28 mo)
    (m : Option Nat) (n : Nat) (D : DataW Unit) (hm : a.eval mo = .map m) (h : IsM w m n D)
    (hK : ∀ w', IsR w' w.heap.size m n D (Maps.has D) (Maps.size D) → w.grownBy w' none → w'.heap.size = w.heap.size + 1 → wpList Try.prog ops Q rest (a.put o.dst (.pointer (some ⟨w.heap.size, 0, none⟩))) w') :
    wpList Try.prog ops Q (o :: rest) a w := by
  refine wpList_plain hg fun K' hK' => ?_
  obtain ⟨w', hrun, r1, r2, r3⟩ := h.range
  unfold Oper.wp
  simp [execOp, hop, hm, hrun, Result.andThen]
  exact hK' _ _ (hK w' r1 r2 r3)

end Go.Proofs.Qxb6602338a
