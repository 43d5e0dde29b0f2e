/-
  THE PLAIN LAWS over the data of map[string]bool: keys, sizes; no Go in sight but the data's own type.
-/
import Derived.Test.Qxb6602338aEnts
import Derived.Test.Qxb6602338aWithin
namespace Go.Proofs.Qxb6602338a
open Go.RowKit

/-! ### lists -/
theorem length_le_of_subset {α : Type} : ∀ (l l' : List α), l.Pairwise (fun p q => p ≠ q) → (∀ x ∈ l, x ∈ l') → l.length ≤ l'.length
  | [], _, _, _ => Nat.zero_le _
  | a :: t, l', hp, hs => by
    obtain ⟨h1, h2⟩ := List.pairwise_cons.1 hp
    obtain ⟨u, v, rfl⟩ := List.append_of_mem (hs a (by simp))
    have := length_le_of_subset t (u ++ v) h2 (fun x hx => by
      have hm := hs x (by simp [hx])
      have hne : x ≠ a := fun e => h1 x hx e.symm
      simp at hm ⊢
      rcases hm with h | h | h
      · exact .inl h
      · exact absurd h hne
      · exact .inr h)
    simp at this ⊢
    omega

/-! ### a datum that a map reads as -/
/-- entries, no key twice, each key a key -/
def Good (D : DataW Unit) : Prop := ∃ es, D = .map es ∧ es.Pairwise (fun p q => p.1 ≠ q.1) ∧ ∀ p ∈ es, WideAt.IsKeyLit p.1
theorem IsM.good {w : World} {m : Option Nat} {n : Nat} {D : DataW Unit} (h : IsM w m n D) : Good D := by
  rcases h with ⟨_, rfl⟩ | ⟨b, rfl, h⟩
  · exact ⟨[], rfl, List.Pairwise.nil, by simp⟩
  · exact h.entries law

theorem Good.keys {D : DataW Unit} (h : Good D) : ∃ ks : List Lit, ks.Pairwise (fun p q => p ≠ q) ∧ ks.length = Maps.size D ∧ ∀ k, Maps.has D k = true ↔ k ∈ ks := by
  obtain ⟨es, rfl, h1, h2⟩ := h
  refine ⟨es.map (·.1), List.pairwise_map.2 h1, by simp [Maps.size], fun k => ?_⟩
  rw [Maps.has_eq, List.any_eq_true]
  constructor
  · rintro ⟨p, hp, hk⟩
    exact List.mem_map.2 ⟨p, hp, WideAt.sameKey_eq hk⟩
  · intro hk
    obtain ⟨p, hp, rfl⟩ := List.mem_map.1 hk
    exact ⟨p, hp, WideAt.sameKey_self (h2 p hp)⟩

theorem size_le_of_has {D D' : DataW Unit} (h : Good D) (h' : Good D') (hs : ∀ k, Maps.has D k = true → Maps.has D' k = true) : Maps.size D ≤ Maps.size D' := by
  obtain ⟨ks, p, e, m⟩ := h.keys
  obtain ⟨ks', _, e', m'⟩ := h'.keys
  rw [← e, ← e']
  exact length_le_of_subset ks ks' p (fun x hx => (m' x).1 (hs x ((m x).2 hx)))

theorem size_eq_of_has {D D' : DataW Unit} (h : Good D) (h' : Good D') (hs : ∀ k, Maps.has D k = Maps.has D' k) : Maps.size D = Maps.size D' :=
  Nat.le_antisymm (size_le_of_has h h' (fun k hk => by rw [← hs k]; exact hk)) (size_le_of_has h' h (fun k hk => by rw [hs k]; exact hk))

theorem size_union_le {D D1 D2 : DataW Unit} (h : Good D) (h1 : Good D1) (h2 : Good D2) (hs : ∀ k, Maps.has D k = (Maps.has D1 k || Maps.has D2 k)) : Maps.size D ≤ Maps.size D1 + Maps.size D2 := by
  obtain ⟨ks, p, e, m⟩ := h.keys
  obtain ⟨k1, _, e1, m1⟩ := h1.keys
  obtain ⟨k2, _, e2, m2⟩ := h2.keys
  rw [← e, ← e1, ← e2, ← List.length_append]
  refine length_le_of_subset ks _ p (fun x hx => ?_)
  have := (m x).2 hx
  rw [hs x, Bool.or_eq_true] at this
  rcases this with h | h
  · exact List.mem_append.2 (.inl ((m1 x).1 h))
  · exact List.mem_append.2 (.inr ((m2 x).1 h))

theorem size_zero_iff {D : DataW Unit} (h : Good D) : Maps.size D = 0 ↔ ∀ k, Maps.has D k = false := by
  obtain ⟨ks, _, e, m⟩ := h.keys
  rw [← e]
  constructor
  · intro h0 k
    have : ks = [] := List.eq_nil_of_length_eq_zero h0
    cases hk : Maps.has D k
    · rfl
    · have := (m k).1 hk
      simp [*] at this
  · intro hk
    cases ks with
    | nil => rfl
    | cons a t =>
      have := (m a).2 (by simp)
      rw [hk a] at this
      cases this

theorem atB_has {D : DataW Unit} {k : Lit} (h : atB D k = true) : Maps.has D k = true := by
  cases hk : Maps.has D k
  · have := Maps.atKey_of_not_has hk (.lit (.bool false))
    rw [atB_of this] at h
    cases h
  · rfl
theorem atB_of_not_has {D : DataW Unit} {k : Lit} (h : Maps.has D k = false) : atB D k = false := atB_of (Maps.atKey_of_not_has h _)

/-- a union's element: true just if the key is there -/
theorem AllTrue.at_eq {D : DataW Unit} (h : AllTrue D) (k : Lit) : atB D k = Maps.has D k := by
  cases hk : Maps.has D k
  · exact atB_of_not_has hk
  · exact h k hk

/-! ### within -/
theorem within_nil_iff {D : DataW Unit} (h : Good D) : Within D (.map []) ↔ Maps.size D = 0 := by
  rw [size_zero_iff h]
  constructor
  · intro hw k
    cases hk : Maps.has D k
    · rfl
    · have := hw k hk
      cases this
  · intro h0 k hk
    rw [h0 k] at hk
    cases hk
theorem nil_within (D : DataW Unit) : Within (.map []) D := fun k hk => by cases hk
theorem within_size {D D' : DataW Unit} (h : Good D) (h' : Good D') (hw : Within D D') : Maps.size D ≤ Maps.size D' := size_le_of_has h h' (fun k hk => atB_has (hw k hk))
theorem within_empty {D D' : DataW Unit} (h : Good D) (h0 : Maps.size D = 0) : Within D D' := fun k hk => by rw [(size_zero_iff h).1 h0 k] at hk; cases hk

theorem within_union_left {D1 D2 Du : DataW Unit} (hu : ∀ x, Maps.has Du x = (Maps.has D1 x || Maps.has D2 x)) (hT : AllTrue Du) : Within D1 Du := fun k hk => hT k (by rw [hu k, hk]; rfl)
theorem within_union_right {D1 D2 Du : DataW Unit} (hu : ∀ x, Maps.has Du x = (Maps.has D1 x || Maps.has D2 x)) (hT : AllTrue Du) : Within D2 Du := fun k hk => hT k (by rw [hu k, hk]; simp)
theorem union_within_iff {D1 D2 Du Dc : DataW Unit} (hu : ∀ x, Maps.has Du x = (Maps.has D1 x || Maps.has D2 x)) : Within Du Dc ↔ Within D1 Dc ∧ Within D2 Dc := by
  constructor
  · intro h
    exact ⟨fun k hk => h k (by rw [hu k, hk]; rfl), fun k hk => h k (by rw [hu k, hk]; simp)⟩
  · rintro ⟨h1, h2⟩ k hk
    rw [hu k, Bool.or_eq_true] at hk
    rcases hk with h | h
    · exact h1 k h
    · exact h2 k h

/-! ### the map of a list, with and without a key -/
theorem isMap_fold : ∀ (es : List (ByteArray × Bool)) (D : DataW Unit), Maps.IsMap D → Maps.IsMap (es.foldl (fun D e => D.put (kl e.1) (.lit (.bool e.2))) D)
  | [], _, h => h
  | _ :: es, _, h => isMap_fold es _ (h.put _ _)
theorem has_fold (x : Lit) : ∀ (es : List (ByteArray × Bool)) (D : DataW Unit), Maps.IsMap D → Maps.has (es.foldl (fun D e => D.put (kl e.1) (.lit (.bool e.2))) D) x = (Maps.has D x || es.any (fun e => x.sameKey (kl e.1)))
  | [], D, _ => by simp
  | e :: es, D, h => by
    rw [List.foldl_cons, has_fold x es _ (h.put _ _), has_putT h]
    simp [Bool.or_assoc]
theorem has_mapD (es : List (ByteArray × Bool)) (x : Lit) : Maps.has (mapD es) x = es.any (fun e => x.sameKey (kl e.1)) := by
  unfold mapD
  rw [has_fold x es _ Maps.isMap_empty]
  rfl

theorem toList_inj {s k : ByteArray} (h : (s.toList == k.toList) = true) : s = k := by
  simp [ByteArray.toList_eq] at h
  exact kl_inj (by unfold kl; rw [h])

theorem has_wo (es : List (ByteArray × Bool)) (k : ByteArray) (x : Lit) : Maps.has (mapD (wo es k)) x = true ↔ Maps.has (mapD es) x = true ∧ x ≠ kl k := by
  rw [has_mapD, has_mapD, List.any_eq_true, List.any_eq_true]
  constructor
  · rintro ⟨e, he, hk⟩
    obtain ⟨h1, h2⟩ := List.mem_filter.1 he
    refine ⟨⟨e, h1, hk⟩, fun hx => ?_⟩
    have := WideAt.sameKey_eq hk
    rw [hx] at this
    rw [kl_inj this] at h2
    simp at h2
  · rintro ⟨⟨e, he, hk⟩, hx⟩
    refine ⟨e, List.mem_filter.2 ⟨he, ?_⟩, hk⟩
    cases h : (e.1.toList == k.toList)
    · rfl
    · rw [toList_inj h] at hk
      exact absurd (WideAt.sameKey_eq hk) hx

/-- WITHIN, PEELED: with the key k in 'some': the rest lies within, and all[k] -/
theorem within_peel (es : List (ByteArray × Bool)) (k : ByteArray) (D : DataW Unit) (hk : Maps.has (mapD es) (kl k) = true) : Within (mapD es) D ↔ Within (mapD (wo es k)) D ∧ atB D (kl k) = true := by
  constructor
  · intro h
    exact ⟨fun x hx => h x ((has_wo es k x).1 hx).1, h _ hk⟩
  · rintro ⟨h1, h2⟩ x hx
    by_cases e : x = kl k
    · rw [e]; exact h2
    · exact h1 x ((has_wo es k x).2 ⟨hx, e⟩)

end Go.Proofs.Qxb6602338a
