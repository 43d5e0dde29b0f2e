/-
  THE PLAIN LAW of skipSpace over a list of bytes: no Go in sight.
-/
namespace Go.Proofs.Qxb6602316a.Plain

/-- The state machine: (inside a comment?, the bytes to come) gives (how many bytes are passed, how many line breaks among them). -/
def sk : Bool → List Int → Nat × Nat
  | _, [] => (0, 0)
  | true, c :: cs => if c = 10 then ((sk false cs).1 + 1, (sk false cs).2 + 1) else ((sk true cs).1 + 1, (sk true cs).2)
  | false, c :: cs =>
    if c = 10 then ((sk false cs).1 + 1, (sk false cs).2 + 1)
    else if c = 32 ∨ c = 9 ∨ c = 13 then ((sk false cs).1 + 1, (sk false cs).2)
    else if c = 35 then ((sk true cs).1 + 1, (sk true cs).2)
    else (0, 0)

/-- blank or '#' -/
def bh (c : Int) : Bool := c == 32 || c == 9 || c == 13 || c == 10 || c == 35

/-- where it stops, from p on -/
def stop (zs : List Int) (st : Bool) (p : Nat) : Nat := p + (sk st (zs.drop p)).1
/-- how many line breaks it passes, from p on -/
def nls (zs : List Int) (st : Bool) (p : Nat) : Nat := (sk st (zs.drop p)).2

theorem drop_at (zs : List Int) (p : Nat) (h : p < zs.length) : zs.drop p = zs.getD p 0 :: zs.drop (p + 1) := by
  rw [List.drop_eq_getElem_cons h]
  simp [List.getD_eq_getElem?_getD, h]

theorem past (zs : List Int) (st : Bool) (p : Nat) (h : zs.length ≤ p) : stop zs st p = p ∧ nls zs st p = 0 := by
  unfold stop nls
  rw [List.drop_eq_nil_of_le h]
  cases st <;> simp [sk]

theorem at_nl (zs : List Int) (st : Bool) (p : Nat) (h : p < zs.length) (hc : zs.getD p 0 = 10) : stop zs st p = stop zs false (p + 1) ∧ nls zs st p = nls zs false (p + 1) + 1 := by
  unfold stop nls
  rw [drop_at zs p h, hc]
  cases st <;> simp [sk] <;> omega

theorem at_blank (zs : List Int) (p : Nat) (h : p < zs.length) (hc : zs.getD p 0 = 32 ∨ zs.getD p 0 = 9 ∨ zs.getD p 0 = 13) : stop zs false p = stop zs false (p + 1) ∧ nls zs false p = nls zs false (p + 1) := by
  unfold stop nls
  rw [drop_at zs p h]
  have h10 : ¬ zs.getD p 0 = 10 := by omega
  generalize zs.getD p 0 = c at *
  simp only [sk, if_neg h10, if_pos hc]
  exact ⟨by omega, trivial⟩

theorem at_hash (zs : List Int) (p : Nat) (h : p < zs.length) (hc : zs.getD p 0 = 35) : stop zs false p = stop zs true p ∧ nls zs false p = nls zs true p := by
  unfold stop nls
  rw [drop_at zs p h, hc]
  simp [sk]

theorem at_com (zs : List Int) (p : Nat) (h : p < zs.length) (hc : ¬ zs.getD p 0 = 10) : stop zs true p = stop zs true (p + 1) ∧ nls zs true p = nls zs true (p + 1) := by
  unfold stop nls
  rw [drop_at zs p h]
  generalize zs.getD p 0 = c at *
  simp only [sk, if_neg hc]
  exact ⟨by omega, trivial⟩

theorem at_other (zs : List Int) (p : Nat) (h : p < zs.length) (hc : bh (zs.getD p 0) = false) : stop zs false p = p ∧ nls zs false p = 0 := by
  unfold stop nls
  rw [drop_at zs p h]
  generalize zs.getD p 0 = c at *
  simp [bh] at hc
  obtain ⟨⟨⟨⟨h1, h2⟩, h3⟩, h4⟩, h5⟩ := hc
  simp [sk, h1, h2, h3, h4, h5]

/-- at a line break, or at the end, the two states are one -/
theorem com_out (zs : List Int) (p : Nat) (h : zs.length ≤ p ∨ zs.getD p 0 = 10) : stop zs true p = stop zs false p ∧ nls zs true p = nls zs false p := by
  by_cases hp : p < zs.length
  · rcases h with h | h
    · omega
    · rw [(at_nl zs true p hp h).1, (at_nl zs true p hp h).2, (at_nl zs false p hp h).1, (at_nl zs false p hp h).2]
      exact ⟨rfl, rfl⟩
  · rw [(past zs true p (by omega)).1, (past zs true p (by omega)).2, (past zs false p (by omega)).1, (past zs false p (by omega)).2]
    exact ⟨rfl, rfl⟩

theorem sk_le : ∀ (l : List Int) (st : Bool), (sk st l).1 ≤ l.length
  | [], st => by cases st <;> simp [sk]
  | c :: cs, st => by
    have h1 := sk_le cs true
    have h2 := sk_le cs false
    cases st
    · simp only [sk, List.length_cons]
      repeat' split
      all_goals simp <;> omega
    · simp only [sk, List.length_cons]
      split
      all_goals simp <;> omega

theorem nl_le : ∀ (l : List Int) (st : Bool), (sk st l).2 ≤ (sk st l).1
  | [], st => by cases st <;> simp [sk]
  | c :: cs, st => by
    have h1 := nl_le cs true
    have h2 := nl_le cs false
    cases st
    · simp only [sk]
      repeat' split
      all_goals simp <;> omega
    · simp only [sk]
      split
      all_goals simp <;> omega

theorem sk_stops : ∀ (l : List Int) (st : Bool), (sk st l).1 < l.length → bh (l.getD (sk st l).1 0) = false
  | [], st, h => by simp at h
  | c :: cs, st, h => by
    have h1 := sk_stops cs true
    have h2 := sk_stops cs false
    cases st
    · simp only [sk] at h ⊢
      by_cases a : c = 10
      · simp only [if_pos a, List.length_cons] at h ⊢
        simpa using h2 (by omega)
      · by_cases b : c = 32 ∨ c = 9 ∨ c = 13
        · simp only [if_neg a, if_pos b, List.length_cons] at h ⊢
          simpa using h2 (by omega)
        · by_cases d : c = 35
          · simp only [if_neg a, if_neg b, if_pos d, List.length_cons] at h ⊢
            simpa using h1 (by omega)
          · simp only [if_neg a, if_neg b, if_neg d]
            simp [bh]
            omega
    · simp only [sk] at h ⊢
      by_cases a : c = 10
      · simp only [if_pos a, List.length_cons] at h ⊢
        simpa using h2 (by omega)
      · simp only [if_neg a, List.length_cons] at h ⊢
        simpa using h1 (by omega)

theorem stop_ge (zs : List Int) (st : Bool) (p : Nat) : p ≤ stop zs st p := by unfold stop; omega
theorem stop_le (zs : List Int) (st : Bool) (p : Nat) (h : p ≤ zs.length) : stop zs st p ≤ zs.length := by
  have := sk_le (zs.drop p) st
  simp at this
  unfold stop
  omega
theorem stop_stops (zs : List Int) (st : Bool) (p : Nat) (h : stop zs st p < zs.length) : bh (zs.getD (stop zs st p) 0) = false := by
  have := sk_stops (zs.drop p) st (by unfold stop at h; simp; omega)
  unfold stop
  simpa [List.getD_eq_getElem?_getD] using this
theorem nls_le (zs : List Int) (st : Bool) (p : Nat) (h : p ≤ zs.length) : nls zs st p ≤ zs.length := by
  have h1 := nl_le (zs.drop p) st
  have h2 := sk_le (zs.drop p) st
  simp at h2
  unfold nls
  omega

/-- a second run from where it stopped moves nothing and counts nothing -/
theorem again (zs : List Int) (p : Nat) : stop zs false (stop zs false p) = stop zs false p ∧ nls zs false (stop zs false p) = 0 := by
  by_cases h : stop zs false p < zs.length
  · exact at_other zs _ h (stop_stops zs false p h)
  · exact past zs false _ (by omega)

/-- the line breaks among the first k bytes from p on -/
def cnt (zs : List Int) (p k : Nat) : Nat := (((zs.drop p).take k).filter (fun c => c == 10)).length

theorem cnt_zero (zs : List Int) (p : Nat) : cnt zs p 0 = 0 := by simp [cnt]
theorem cnt_le (zs : List Int) (p k : Nat) : cnt zs p k ≤ k := by
  unfold cnt
  have h1 := List.length_filter_le (fun c : Int => c == 10) ((zs.drop p).take k)
  have h2 := List.length_take_le k (zs.drop p)
  omega
theorem cnt_succ (zs : List Int) (p k : Nat) (h : p + k < zs.length) : cnt zs p (k + 1) = cnt zs p k + if zs.getD (p + k) 0 = 10 then 1 else 0 := by
  unfold cnt
  have hk : k < (zs.drop p).length := by simp; omega
  rw [List.take_succ_eq_append_getElem hk, List.filter_append]
  have e : (zs.drop p)[k] = zs.getD (p + k) 0 := by simp [List.getD_eq_getElem?_getD, h]
  rw [e]
  generalize zs.getD (p + k) 0 = c
  by_cases hc : c = 10
  · simp [hc]
  · simp [hc]

theorem sk_cnt : ∀ (l : List Int) (st : Bool), ((l.take (sk st l).1).filter (fun c => c == 10)).length = (sk st l).2
  | [], st => by cases st <;> simp [sk]
  | c :: cs, st => by
    have h1 := sk_cnt cs true
    have h2 := sk_cnt cs false
    cases st
    · simp only [sk]
      by_cases a : c = 10
      · simp only [if_pos a]; simpa [a] using h2
      · by_cases b : c = 32 ∨ c = 9 ∨ c = 13
        · simp only [if_neg a, if_pos b]; simpa [List.filter_cons, a] using h2
        · by_cases d : c = 35
          · simp only [if_neg a, if_neg b, if_pos d]; simpa [List.filter_cons, a] using h1
          · simp [if_neg a, if_neg b, if_neg d]
    · simp only [sk]
      by_cases a : c = 10
      · simp only [if_pos a]; simpa [a] using h2
      · simp only [if_neg a]; simpa [List.filter_cons, a] using h1

theorem nls_cnt (zs : List Int) (p : Nat) : nls zs false p = cnt zs p (stop zs false p - p) := by
  unfold nls cnt stop
  rw [← sk_cnt]
  simp

end Go.Proofs.Qxb6602316a.Plain
