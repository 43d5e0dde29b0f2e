/-
  a slice of entries among the arguments, opened
-/
import Derived.Test.Qxb6602338aEnts
import Derived.ProofKit
import Derived.OpenShut
import Derived.ShutString
import Derived.ChangeOld
import Derived.Deep.SlicePairs
namespace Go.Proofs.Qxb6602338a
open Go.ChangeShapes Go.WideShapes Go.ChangeAt Go.RowKit

theorem Try.cells49 : Try.prog.cellsOf 49 = 2 := by kernel_rfl
theorem Try.cells9 : Try.prog.cellsOf 9 = 1 := by kernel_rfl
theorem Try.cells4 : Try.prog.cellsOf 4 = 1 := by kernel_rfl

def strOf : Value → ByteArray | .string s => s | _ => ByteArray.empty
def boolOf : Value → Bool | .bool b => b | _ => false

theorem cell_block_lt {w : World} {a : Addr} {v : Value} (h : w.cell? a = some v) : a.block < w.heap.size := by
  cases hb : w.heap[a.block]? with
  | none => simp [World.cell?, hb] at h
  | some o => exact (Array.getElem?_eq_some_iff.1 hb).1

theorem ents_open {H : Type} {enc : TypeId × Value → H} {W : World} {fuel : Nat} {a : Option Addr} {len cap : Nat} {x : DataW H × List MemPlace}
    (h : DataW.trod enc Try.prog W 0 (fun _ => true) true fuel 22 [.slice a len cap] = some x) : ∃ es, Ents W a len es := by
  rcases Deep.open_slice_pairs Try.underlying22 Try.underlying49 Try.cells49 rfl rfl Try.cells9 Try.cells4 h with ⟨hcs, _⟩ | ⟨p, len', cap', m, n, V0, V1, D0, D1, P0, P1, hcs, _, hl, hm, hmm, _, hx⟩
  · simp at hcs
    obtain ⟨rfl, rfl, rfl⟩ := hcs
    exact ⟨[], rfl, Nat.zero_le _, fun _ => rfl, by simp, fun h => absurd h (Nat.lt_irrefl _)⟩
  · simp at hcs
    obtain ⟨rfl, rfl, rfl⟩ := hcs
    simp at hmm
    subst hmm
    have hs : ∀ i, i < len → (strOf (V0 i)).size ≤ maxLen ∧ V0 i = .string (strOf (V0 i)) ∧ V1 i = .bool (boolOf (V1 i)) := fun i hi => by
      obtain ⟨_, _, t0, t1⟩ := hx i (by omega)
      obtain ⟨s, e0, _, hs⟩ := DataW.trod_string Try.underlying9 t0
      obtain ⟨b, e1, _⟩ := DataW.trod_bool Try.underlying4 t1
      simp at e0 e1
      rw [e0, e1]
      exact ⟨hs, rfl, rfl⟩
    refine ⟨(List.range len).map (fun i => (strOf (V0 i), boolOf (V1 i))), by simp, by omega, fun h => (by cases h), ?_, fun h0 => ?_⟩
    · intro e he
      obtain ⟨i, hi, rfl⟩ := List.mem_map.1 he
      exact (hs i (List.mem_range.1 hi)).1
    · obtain ⟨b, off, spot⟩ := p
      have c0 := (hx 0 (by omega)).1
      have hspot : spot = none := by simpa [Addr.add] using World.cell?_spot c0
      subst hspot
      refine ⟨b, off, rfl, ?_, fun i hi => ?_⟩
      · have := cell_block_lt c0
        rw [add_plain] at this
        exact this
      · obtain ⟨g0, g1, _, _⟩ := hx i (by omega)
        rw [add_plain] at g0 g1
        obtain ⟨_, e0, e1⟩ := hs i hi
        rw [e0] at g0
        rw [e1] at g1
        simp [List.getD_eq_getElem?_getD, hi]
        exact ⟨g0, g1⟩

end Go.Proofs.Qxb6602338a
