/-
  a scope by value among the arguments, opened
-/
import Derived.Test.Qxb6602338aOpen
import Derived.Lib.SmallJoins
namespace Go.Proofs.Qxb6602338a
open Go.ChangeShapes Go.WideShapes Go.ChangeAt Go.RowKit

theorem Try.cells24 : Try.prog.cellsOf 24 = 11 := by kernel_rfl
theorem Try.cells22 : Try.prog.cellsOf 22 = 1 := by kernel_rfl
theorem Try.cells5 : Try.prog.cellsOf 5 = 1 := by kernel_rfl

theorem list11 : ∀ (l : List Value), l.length = 11 → ∃ v0 v1 v2 v3 v4 v5 v6 v7 v8 v9 v10, l = [v0, v1, v2, v3, v4, v5, v6, v7, v8, v9, v10]
  | [v0, v1, v2, v3, v4, v5, v6, v7, v8, v9, v10], _ => ⟨v0, v1, v2, v3, v4, v5, v6, v7, v8, v9, v10, rfl⟩

section
variable {H : Type} {enc : TypeId × Value → H} {W : World} {n : Nat} {v : Value} {y : DataW H × List MemPlace}
theorem slice_of (h : DataW.trod enc Try.prog W 0 (fun _ => true) true n 22 [v] = some y) : ∃ a l c es, v = .slice a l c ∧ Ents W a l es := by
  have hs : ∃ a l c, v = .slice a l c := by
    rcases Deep.open_slice_pairs Try.underlying22 Try.underlying49 Try.cells49 rfl rfl Try.cells9 Try.cells4 h with ⟨hcs, _⟩ | ⟨p, len', cap', m, n', V0, V1, D0, D1, P0, P1, hcs, _⟩
    · simp at hcs; exact ⟨_, _, _, hcs⟩
    · simp at hcs; exact ⟨_, _, _, hcs⟩
  obtain ⟨a, l, c, rfl⟩ := hs
  obtain ⟨es, he⟩ := ents_open h
  exact ⟨a, l, c, es, rfl, he⟩
theorem bool_of (h : DataW.trod enc Try.prog W 0 (fun _ => true) true n 4 [v] = some y) : ∃ b, v = .bool b := by
  obtain ⟨b, e, _⟩ := DataW.trod_bool Try.underlying4 h
  simp at e
  exact ⟨b, e⟩
theorem string_of (h : DataW.trod enc Try.prog W 0 (fun _ => true) true n 9 [v] = some y) : ∃ s, v = .string s := by
  obtain ⟨b, e, _⟩ := DataW.trod_string Try.underlying9 h
  simp at e
  exact ⟨b, e⟩
theorem byte_of (h : DataW.trod enc Try.prog W 0 (fun _ => true) true n 5 [v] = some y) : ∃ s, v = .int .u8 s := by
  obtain ⟨b, e, _⟩ := DataW.trod_int Try.underlying5 h
  simp at e
  exact ⟨b, e⟩
end

theorem scope_open {H : Type} {enc : TypeId × Value → H} {W : World} {fuel : Nat} {cs : Array Value} {x : DataW H × List MemPlace} (hsz : cs.size = 11)
    (h : DataW.trod enc Try.prog W 0 (fun _ => true) true fuel 24 cs.toList = some x) :
    ∃ (a1 a2 a3 : Option Addr) (l1 c1 l2 c2 l3 c3 : Nat) (e1 e2 e3 : List (ByteArray × Bool)) (rs ev ru ac : Bool) (u p : ByteArray) (ch co : Int),
      cs = #[.slice a1 l1 c1, .bool rs, .string u, .bool ev, .slice a2 l2 c2, .bool ru, .slice a3 l3 c3, .string p, .int .u8 ch, .int .u8 co, .bool ac] ∧ Ents W a1 l1 e1 ∧ Ents W a2 l2 e2 ∧ Ents W a3 l3 e3 := by
  obtain ⟨l⟩ := cs
  obtain ⟨v0, v1, v2, v3, v4, v5, v6, v7, v8, v9, v10, rfl⟩ := list11 l (by simpa using hsz)
  obtain ⟨xs, n, _, _, _, hxl, hf⟩ := DataW.trod_struct Try.underlying24 h
  have hx : ∀ i, i < 11 → ∃ y, xs[i]? = some y := fun i hi => by
    have : i < xs.length := by rw [hxl]; exact hi
    exact ⟨xs[i], List.getElem?_eq_getElem this⟩
  have g0 : ∃ y, DataW.trod enc Try.prog W 0 (fun _ => true) true n 22 [v0] = some y := by
    obtain ⟨y, hy⟩ := hx 0 (by omega)
    have g := hf 0 _ rfl
    rw [hy] at g
    exact ⟨y, by simpa [Try.cells22] using g⟩
  have g1 : ∃ y, DataW.trod enc Try.prog W 0 (fun _ => true) true n 4 [v1] = some y := by
    obtain ⟨y, hy⟩ := hx 1 (by omega)
    have g := hf 1 _ rfl
    rw [hy] at g
    exact ⟨y, by simpa [Try.cells4] using g⟩
  have g2 : ∃ y, DataW.trod enc Try.prog W 0 (fun _ => true) true n 9 [v2] = some y := by
    obtain ⟨y, hy⟩ := hx 2 (by omega)
    have g := hf 2 _ rfl
    rw [hy] at g
    exact ⟨y, by simpa [Try.cells9] using g⟩
  have g3 : ∃ y, DataW.trod enc Try.prog W 0 (fun _ => true) true n 4 [v3] = some y := by
    obtain ⟨y, hy⟩ := hx 3 (by omega)
    have g := hf 3 _ rfl
    rw [hy] at g
    exact ⟨y, by simpa [Try.cells4] using g⟩
  have g4 : ∃ y, DataW.trod enc Try.prog W 0 (fun _ => true) true n 22 [v4] = some y := by
    obtain ⟨y, hy⟩ := hx 4 (by omega)
    have g := hf 4 _ rfl
    rw [hy] at g
    exact ⟨y, by simpa [Try.cells22] using g⟩
  have g5 : ∃ y, DataW.trod enc Try.prog W 0 (fun _ => true) true n 4 [v5] = some y := by
    obtain ⟨y, hy⟩ := hx 5 (by omega)
    have g := hf 5 _ rfl
    rw [hy] at g
    exact ⟨y, by simpa [Try.cells4] using g⟩
  have g6 : ∃ y, DataW.trod enc Try.prog W 0 (fun _ => true) true n 22 [v6] = some y := by
    obtain ⟨y, hy⟩ := hx 6 (by omega)
    have g := hf 6 _ rfl
    rw [hy] at g
    exact ⟨y, by simpa [Try.cells22] using g⟩
  have g7 : ∃ y, DataW.trod enc Try.prog W 0 (fun _ => true) true n 9 [v7] = some y := by
    obtain ⟨y, hy⟩ := hx 7 (by omega)
    have g := hf 7 _ rfl
    rw [hy] at g
    exact ⟨y, by simpa [Try.cells9] using g⟩
  have g8 : ∃ y, DataW.trod enc Try.prog W 0 (fun _ => true) true n 5 [v8] = some y := by
    obtain ⟨y, hy⟩ := hx 8 (by omega)
    have g := hf 8 _ rfl
    rw [hy] at g
    exact ⟨y, by simpa [Try.cells5] using g⟩
  have g9 : ∃ y, DataW.trod enc Try.prog W 0 (fun _ => true) true n 5 [v9] = some y := by
    obtain ⟨y, hy⟩ := hx 9 (by omega)
    have g := hf 9 _ rfl
    rw [hy] at g
    exact ⟨y, by simpa [Try.cells5] using g⟩
  have g10 : ∃ y, DataW.trod enc Try.prog W 0 (fun _ => true) true n 4 [v10] = some y := by
    obtain ⟨y, hy⟩ := hx 10 (by omega)
    have g := hf 10 _ rfl
    rw [hy] at g
    exact ⟨y, by simpa [Try.cells4] using g⟩
  obtain ⟨_, g0⟩ := g0
  obtain ⟨a1, l1, c1, e1, rfl, h1⟩ := slice_of g0
  obtain ⟨_, g1⟩ := g1
  obtain ⟨rs, rfl⟩ := bool_of g1
  obtain ⟨_, g2⟩ := g2
  obtain ⟨u, rfl⟩ := string_of g2
  obtain ⟨_, g3⟩ := g3
  obtain ⟨ev, rfl⟩ := bool_of g3
  obtain ⟨_, g4⟩ := g4
  obtain ⟨a2, l2, c2, e2, rfl, h2⟩ := slice_of g4
  obtain ⟨_, g5⟩ := g5
  obtain ⟨ru, rfl⟩ := bool_of g5
  obtain ⟨_, g6⟩ := g6
  obtain ⟨a3, l3, c3, e3, rfl, h3⟩ := slice_of g6
  obtain ⟨_, g7⟩ := g7
  obtain ⟨p, rfl⟩ := string_of g7
  obtain ⟨_, g8⟩ := g8
  obtain ⟨ch, rfl⟩ := byte_of g8
  obtain ⟨_, g9⟩ := g9
  obtain ⟨co, rfl⟩ := byte_of g9
  obtain ⟨_, g10⟩ := g10
  obtain ⟨ac, rfl⟩ := bool_of g10
  exact ⟨a1, a2, a3, l1, c1, l2, c2, l3, c3, e1, e2, e3, rs, ev, ru, ac, u, p, ch, co, rfl, h1, h2, h3⟩

end Go.Proofs.Qxb6602338a
