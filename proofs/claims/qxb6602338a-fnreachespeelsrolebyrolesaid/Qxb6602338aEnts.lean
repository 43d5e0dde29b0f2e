/-
  the lists of entries that came in; zzAdd (13), zzEntriesBytes (23), zzMap (15), zzMapWithout (18)
-/
import Derived.Test.Qxb6602338aUnion
namespace Go.Proofs.Qxb6602338a
open Go.RowKit

def noE : ByteArray × Bool := (ByteArray.empty, false)

/-- A SLICE OF ENTRIES THAT CAME IN. -/
def Ents (w : World) (a : Option Addr) (len : Nat) (es : List (ByteArray × Bool)) : Prop :=
  es.length = len ∧ len ≤ maxLen ∧ (a = none → len = 0) ∧ (∀ e ∈ es, e.1.size ≤ maxLen) ∧
    (0 < len → ∃ b off, a = some ⟨b, off, none⟩ ∧ b < w.heap.size ∧ ∀ i, i < len → w.cell? ⟨b, off + i * 2, none⟩ = some (.string (es.getD i noE).1) ∧ w.cell? ⟨b, off + i * 2 + 1, none⟩ = some (.bool (es.getD i noE).2))

theorem Ents.below {w w' : World} {a : Option Addr} {len : Nat} {es : List (ByteArray × Bool)} (h : Ents w a len es) (hb : Below w.heap.size w w') : Ents w' a len es := by
  obtain ⟨h1, h2, h3, h4, h5⟩ := h
  refine ⟨h1, h2, h3, h4, fun h0 => ?_⟩
  obtain ⟨b, off, e, hlt, hc⟩ := h5 h0
  exact ⟨b, off, e, Nat.lt_of_lt_of_le hlt hb.size, fun i hi => ⟨(hb.cell (p := ⟨b, off + i * 2, none⟩) hlt).trans (hc i hi).1, (hb.cell (p := ⟨b, off + i * 2 + 1, none⟩) hlt).trans (hc i hi).2⟩⟩
theorem Ents.size {w : World} {a : Option Addr} {len : Nat} {es : List (ByteArray × Bool)} (h : Ents w a len es) (i : Nat) : (es.getD i noE).1.size ≤ maxLen := by
  rw [List.getD_eq_getElem?_getD]
  cases e : es[i]? with
  | none => exact Nat.zero_le _
  | some x => exact h.2.2.2.1 x (List.mem_of_getElem? e)

/-- what zzAdd's answer r is good for -/
def AddOk (n m r : Int) : Prop := 0 ≤ r ∧ r ≤ 2097152 ∧ (r ≤ 1048576 → n ≤ 1048576 ∧ m ≤ 1048576)
/-- what zzEntriesBytes' answer r is good for -/
def EbOk (len : Nat) (r : Int) : Prop := 0 ≤ r ∧ r ≤ 25165824 ∧ (r ≤ 1048576 → (len : Int) ≤ 1048576)

set_option maxHeartbeats 400000 in
theorem add_any (n m : Int) (w : World) (hn : 0 ≤ n) (hm : 0 ≤ m) :
    Calls Try.prog 13 #[.int .i64 n, .int .i64 m] w fun e w' => ∃ r : Int, e = .returned (.int .i64 r) ∧ AddOk n m r ∧ w' = w := by
  by_cases h1 : (1048576 : Int) < n
  · go_enter Try.func13, Try.ntmps13
    go_wp2
    go_ret
    exact ⟨_, rfl, ⟨by omega, by omega, by omega⟩, rfl⟩
  · by_cases h2 : (1048576 : Int) < m
    · go_enter Try.func13, Try.ntmps13
      go_wp2
      go_ret
      exact ⟨_, rfl, ⟨by omega, by omega, by omega⟩, rfl⟩
    · go_enter Try.func13, Try.ntmps13
      go_wp2
      go_ret
      exact ⟨_, rfl, ⟨by omega, by omega, by omega⟩, rfl⟩

set_option maxHeartbeats 400000 in
theorem ebytes_any (a : Option Addr) (len cap : Nat) (es : List (ByteArray × Bool)) (w : World) (h : Ents w a len es) :
    Calls Try.prog 23 #[.slice a len cap] w fun e w' => ∃ r : Int, e = .returned (.int .i64 r) ∧ EbOk len r ∧ w' = w := by
  have HE : Aside (Ents w a len es) := h
  clear h
  by_cases hl : (1048576 : Int) < len
  · go_enter Try.func23, Try.ntmps23
    go_wp2
    go_ret
    exact ⟨_, rfl, ⟨by omega, by omega, by omega⟩, rfl⟩
  · go_enter Try.func23, Try.ntmps23
    go_wp2
    go_loopg [3, 4] len (fun k n i wr => ∃ (j : Nat) (z : Int), j ≤ len ∧ k + j = len ∧ i = .int .i64 j ∧ n = .int .i64 z ∧ 0 ≤ z ∧ z ≤ 25165824 ∧ Aside (wr = w))
    case atStart => exact ⟨0, _, Nat.zero_le _, by omega, rfl, rfl, by omega, by omega, (show _ = _ from rfl)⟩
    case round =>
      obtain ⟨j, z, hj, hk, rfl, rfl, hz0, hz1, hw⟩ := hrel
      obtain rfl := hw.out.symm
      clear hw
      by_cases hlt : j < len
      · have hlti : (j : Int) < (len : Int) := by omega
        by_cases hz : z ≤ 1048576
        · obtain ⟨b, off, ha, hb, hc⟩ := HE.out.2.2.2.2 (by omega)
          subst ha
          obtain ⟨s, hs⟩ : ∃ s, s = (es.getD j noE).1 := ⟨_, rfl⟩
          have hcv := (hc j hlt).1
          rw [← hs] at hcv
          have hss : s.size ≤ maxLen := by rw [hs]; exact HE.out.size j
          clear hs hc
          go_wp2_with fail
          refine (add_any z s.size _ (by omega) (by omega)).mono ?_
          rintro e w1 ⟨r, rfl, hr, hw⟩
          obtain rfl := hw.symm
          have hr1 := hr.1
          have hr2 := hr.2.1
          clear hr
          go_wp2_with fail
          go_roundg (gk - 1)
          case measure => omega
          case rel => exact ⟨j + 1, r, by omega, by omega, by go_num, rfl, hr1, by omega, (show _ = _ from rfl)⟩
        · go_wp2
          go_ret
          exact ⟨z, rfl, ⟨by omega, by omega, by omega⟩, rfl⟩
      · have hlti : ¬ (j : Int) < (len : Int) := by omega
        go_wp2
        go_ret
        exact ⟨z, rfl, ⟨by omega, by omega, by omega⟩, rfl⟩

/-! ### zzMap -/
/-- the map of a list of entries -/
def mapD (es : List (ByteArray × Bool)) : DataW Unit := es.foldl (fun D e => D.put (kl e.1) (.lit (.bool e.2))) (.map [])
theorem mapD_snoc (es : List (ByteArray × Bool)) (s : ByteArray) (v : Bool) : mapD (es ++ [(s, v)]) = (mapD es).put (kl s) (.lit (.bool v)) := by simp [mapD, List.foldl_append]

theorem q22 (w : World) (a : Option Addr) (n c n' c' : Nat) : (binOp .eql 22 (.slice a n c) (.slice none n' c')).run Try.prog w = .ok (.bool a.isNone) w := Lib.run_eql_slice_nil w _ _ a n c n' c' Try.underlying22

theorem take_snoc {α : Type} (es : List α) (d : α) (k : Nat) (h : k < es.length) : es.take (k + 1) = es.take k ++ [es.getD k d] := by
  rw [List.take_succ_eq_append_getElem h]
  simp [List.getD_eq_getElem?_getD, h]

set_option maxHeartbeats 400000 in
theorem map_nil (len cap : Nat) (w : World) :
    Calls Try.prog 15 #[.slice none len cap] w fun e w' => e = .returned (.map none) ∧ w' = w := by
  have q := q22
  go_enter Try.func15, Try.ntmps15
  go_wp2
  go_ret
  exact ⟨rfl, rfl⟩

set_option maxHeartbeats 400000 in
theorem map_some (x : Addr) (len cap : Nat) (es : List (ByteArray × Bool)) (w : World) (h : Ents w (some x) len es) (hl : ¬ (1048576 : Int) < len) :
    Calls Try.prog 15 #[.slice (some x) len cap] w fun e w' => e = .returned (.map (some w.heap.size)) ∧ w'.ownsMap Try.prog 9 (plainElem Try.prog 4) w.heap.size len (mapD es) ∧ Below w.heap.size w w' := by
  have HE : Aside (Ents w (some x) len es) := h
  clear h
  have q := q22
  have hmk := run_makeMap_hint
  go_enter Try.func15, Try.ntmps15
  go_wp2
  go_loopg [4] len (fun k i wr => ∃ (j : Nat), j ≤ len ∧ k + j = len ∧ i = .int .i64 j ∧ Aside (wr.ownsMap Try.prog 9 (plainElem Try.prog 4) w.heap.size j (mapD (es.take j)) ∧ Below w.heap.size w wr))
  case atStart => exact ⟨0, Nat.zero_le _, by omega, rfl, ⟨World.ownsMap_made _ _ _ _, (Below.refl _ _).alloc (Nat.le_refl _) _⟩⟩
  case round =>
    obtain ⟨j, hj, hk, rfl, hw⟩ := hrel
    by_cases hlt : j < len
    · have hlti : (j : Int) < (len : Int) := by omega
      obtain ⟨b, off, ha, hb, hc⟩ := HE.out.2.2.2.2 (by omega)
      cases ha
      obtain ⟨s, v, hs⟩ : ∃ s v, (s, v) = es.getD j noE := ⟨_, _, rfl⟩
      obtain ⟨hcs, hcv⟩ := hc j hlt
      rw [← hs] at hcs hcv
      replace hcs := (hw.out.2.cell (p := ⟨b, off + j * 2, none⟩) hb).trans hcs
      replace hcv := (hw.out.2.cell (p := ⟨b, off + j * 2 + 1, none⟩) hb).trans hcv
      have hss : s.size ≤ maxLen := by have := HE.out.size j; rw [← hs] at this; exact this
      have HT : Aside (es.take (j + 1) = es.take j ++ [(s, v)]) := by show _ = _; rw [hs]; exact take_snoc es noE j (by rw [HE.out.1]; exact hlt)
      clear hs hc
      obtain ⟨w2, hrun, hO2, hg2⟩ := hw.out.1.drew.update law Try.underlying28 (by unfold maxLen; omega) (keyOf_kl hss) (plainElem_bool Try.underlying4 v)
      have HO2 : Aside (w2.ownsMap Try.prog 9 (plainElem Try.prog 4) w.heap.size (j + 1) (mapD (es.take (j + 1))) ∧ Below w.heap.size w w2) := ⟨by rw [HT.out, mapD_snoc]; exact hO2, hw.out.2.drew.grown hg2 hw.out.2.size (fun k e => by cases e; exact Nat.le_refl _)⟩
      clear hO2 hg2
      go_wp2
      go_region
      go_wp2
      go_roundg (gk - 1)
      case measure => omega
      case rel => exact ⟨j + 1, by omega, by omega, by go_num, HO2.out⟩
    · have hlti : ¬ (j : Int) < (len : Int) := by omega
      go_wp2
      go_ret
      have e : es.take j = es := List.take_of_length_le (by rw [HE.out.1]; omega)
      refine ⟨rfl, ?_, hw.out.2⟩
      have := hw.out.1
      rw [e] at this
      exact this.mono hj

/-- zzMap, whatever the list -/
theorem map_any (a : Option Addr) (len cap : Nat) (es : List (ByteArray × Bool)) (w : World) (h : Ents w a len es) (hl : ¬ (1048576 : Int) < len) :
    Calls Try.prog 15 #[.slice a len cap] w fun e w' => ∃ m, e = .returned (.map m) ∧ IsM w' m len (mapD es) ∧ Below w.heap.size w w' := by
  cases a with
  | none =>
    have h0 : es = [] := List.eq_nil_of_length_eq_zero (h.1.trans (h.2.2.1 rfl))
    refine (map_nil len cap w).mono fun e w' he => ⟨none, he.1, ?_, by rw [he.2]; exact Below.refl _ _⟩
    rw [h0]
    exact IsM.nil _ _
  | some x => exact (map_some x len cap es w h hl).mono fun e w' he => ⟨_, he.1, IsM.own he.2.1, he.2.2⟩

/-! ### zzMapWithout -/
def wo (es : List (ByteArray × Bool)) (k : ByteArray) : List (ByteArray × Bool) := es.filter (fun e => !(e.1.toList == k.toList))
theorem wo_snoc_eq (es : List (ByteArray × Bool)) (k s : ByteArray) (v : Bool) (h : (s.toList == k.toList) = true) : wo (es ++ [(s, v)]) k = wo es k := by simp [wo, List.filter_append, h]
theorem wo_snoc_ne (es : List (ByteArray × Bool)) (k s : ByteArray) (v : Bool) (h : (s.toList == k.toList) = false) : wo (es ++ [(s, v)]) k = wo es k ++ [(s, v)] := by simp [wo, List.filter_append, h]

set_option maxHeartbeats 400000 in
theorem wo_nil (len cap : Nat) (k : ByteArray) (w : World) :
    Calls Try.prog 18 #[.slice none len cap, .string k] w fun e w' => e = .returned (.map none) ∧ w' = w := by
  have q := q22
  go_enter Try.func18, Try.ntmps18
  go_wp2
  go_ret
  exact ⟨rfl, rfl⟩

set_option maxHeartbeats 400000 in
theorem wo_some (x : Addr) (len cap : Nat) (es : List (ByteArray × Bool)) (k : ByteArray) (w : World) (h : Ents w (some x) len es) (hl : ¬ (1048576 : Int) < len) :
    Calls Try.prog 18 #[.slice (some x) len cap, .string k] w fun e w' => e = .returned (.map (some w.heap.size)) ∧ w'.ownsMap Try.prog 9 (plainElem Try.prog 4) w.heap.size len (mapD (wo es k)) ∧ Below w.heap.size w w' := by
  have HE : Aside (Ents w (some x) len es) := h
  clear h
  have q := q22
  have hmk := run_makeMap_hint
  go_enter Try.func18, Try.ntmps18
  go_wp2
  go_loopg [6] len (fun g i wr => ∃ (j : Nat), j ≤ len ∧ g + j = len ∧ i = .int .i64 j ∧ Aside (wr.ownsMap Try.prog 9 (plainElem Try.prog 4) w.heap.size j (mapD (wo (es.take j) k)) ∧ Below w.heap.size w wr))
  case atStart => exact ⟨0, Nat.zero_le _, by omega, rfl, ⟨World.ownsMap_made _ _ _ _, (Below.refl _ _).alloc (Nat.le_refl _) _⟩⟩
  case round =>
    obtain ⟨j, hj, hk, rfl, hw⟩ := hrel
    by_cases hlt : j < len
    · have hlti : (j : Int) < (len : Int) := by omega
      obtain ⟨b, off, ha, hb, hc⟩ := HE.out.2.2.2.2 (by omega)
      cases ha
      obtain ⟨s, v, hs⟩ : ∃ s v, (s, v) = es.getD j noE := ⟨_, _, rfl⟩
      obtain ⟨hcs, hcv⟩ := hc j hlt
      rw [← hs] at hcs hcv
      replace hcs := (hw.out.2.cell (p := ⟨b, off + j * 2, none⟩) hb).trans hcs
      replace hcv := (hw.out.2.cell (p := ⟨b, off + j * 2 + 1, none⟩) hb).trans hcv
      have hss : s.size ≤ maxLen := by have := HE.out.size j; rw [← hs] at this; exact this
      have HT : Aside (es.take (j + 1) = es.take j ++ [(s, v)]) := by show _ = _; rw [hs]; exact take_snoc es noE j (by rw [HE.out.1]; exact hlt)
      clear hs hc
      by_cases hsk : (s.toList == k.toList) = true
      · 
        have HO2 : Aside (wr.ownsMap Try.prog 9 (plainElem Try.prog 4) w.heap.size (j + 1) (mapD (wo (es.take (j + 1)) k)) ∧ Below w.heap.size w wr) := ⟨by rw [HT.out, wo_snoc_eq _ _ _ _ hsk]; exact hw.out.1.mono (by omega), hw.out.2⟩
        go_wp2
        go_roundg (gk - 1)
        case measure => omega
        case rel => exact ⟨j + 1, by omega, by omega, by go_num, HO2.out⟩
      · have hsk2 : (s.toList == k.toList) = false := by simpa using hsk
        clear hsk
        obtain ⟨w2, hrun, hO2, hg2⟩ := hw.out.1.drew.update law Try.underlying28 (by unfold maxLen; omega) (keyOf_kl hss) (plainElem_bool Try.underlying4 v)
        have HO2 : Aside (w2.ownsMap Try.prog 9 (plainElem Try.prog 4) w.heap.size (j + 1) (mapD (wo (es.take (j + 1)) k)) ∧ Below w.heap.size w w2) := ⟨by rw [HT.out, wo_snoc_ne _ _ _ _ hsk2, mapD_snoc]; exact hO2, hw.out.2.drew.grown hg2 hw.out.2.size (fun k e => by cases e; exact Nat.le_refl _)⟩
        clear hO2 hg2
        go_wp2

        go_region
        go_wp2
        go_roundg (gk - 1)
        case measure => omega
        case rel => exact ⟨j + 1, by omega, by omega, by go_num, HO2.out⟩
    · have hlti : ¬ (j : Int) < (len : Int) := by omega
      go_wp2
      go_ret
      have e : es.take j = es := List.take_of_length_le (by rw [HE.out.1]; omega)
      refine ⟨rfl, ?_, hw.out.2⟩
      have := hw.out.1
      rw [e] at this
      exact this.mono hj

/-- zzMapWithout, whatever the list -/
theorem wo_any (a : Option Addr) (len cap : Nat) (es : List (ByteArray × Bool)) (k : ByteArray) (w : World) (h : Ents w a len es) (hl : ¬ (1048576 : Int) < len) :
    Calls Try.prog 18 #[.slice a len cap, .string k] w fun e w' => ∃ m, e = .returned (.map m) ∧ IsM w' m len (mapD (wo es k)) ∧ Below w.heap.size w w' := by
  cases a with
  | none =>
    have h0 : es = [] := List.eq_nil_of_length_eq_zero (h.1.trans (h.2.2.1 rfl))
    refine (wo_nil len cap k w).mono fun e w' he => ⟨none, he.1, ?_, by rw [he.2]; exact Below.refl _ _⟩
    rw [h0]
    exact IsM.nil _ _
  | some x => exact (wo_some x len cap es k w h hl).mono fun e w' he => ⟨_, he.1, IsM.own he.2.1, he.2.2⟩

end Go.Proofs.Qxb6602338a
