/-
  THE PLAIN FUNCTION THAT 'distinct' COMPUTES: the first occurrences of a list, in their order. No Go in sight.
-/
namespace Go.Proofs.Qxb6602192a
abbrev Pr := Int × Int × ByteArray

def eqP (p q : Pr) : Bool := decide (p.1 = q.1) && decide (p.2.1 = q.2.1) && decide (p.2.2.data = q.2.2.data)
theorem eqP_iff (p q : Pr) : eqP p q = true ↔ p = q := by
  obtain ⟨a, b, ⟨c⟩⟩ := p
  obtain ⟨a', b', ⟨c'⟩⟩ := q
  simp [eqP, and_assoc]
def inP (p : Pr) (l : List Pr) : Bool := l.any (eqP p)
theorem inP_iff (p : Pr) (l : List Pr) : inP p l = true ↔ p ∈ l := by
  simp [inP, eqP_iff]
theorem inP_not {p : Pr} {l : List Pr} (h : p ∉ l) : inP p l = false := by
  cases e : inP p l with
  | false => rfl
  | true => exact absurd ((inP_iff p l).1 e) h

/-- The first occurrences among the first k of L. -/
def U (L : List Pr) : Nat → List Pr
  | 0 => []
  | k + 1 => match L[k]? with
    | some p => if inP p (U L k) then U L k else U L k ++ [p]
    | none => U L k

theorem U_old {L : List Pr} {k : Nat} {p : Pr} (h : L[k]? = some p) (hp : p ∈ U L k) : U L (k + 1) = U L k := by
  simp [U, h, (inP_iff _ _).2 hp]
theorem U_new {L : List Pr} {k : Nat} {p : Pr} (h : L[k]? = some p) (hp : p ∉ U L k) : U L (k + 1) = U L k ++ [p] := by
  simp [U, h, inP_not hp]

theorem U_mem (L : List Pr) : ∀ (k : Nat) (p : Pr), p ∈ U L k ↔ ∃ j, j < k ∧ L[j]? = some p
  | 0, p => by simp [U]
  | k + 1, p => by
    have ih := U_mem L k
    have hs : (∃ j, j < k + 1 ∧ L[j]? = some p) ↔ (∃ j, j < k ∧ L[j]? = some p) ∨ L[k]? = some p := by
      constructor
      · rintro ⟨j, hj, e⟩
        by_cases h : j < k
        · exact .inl ⟨j, h, e⟩
        · have : j = k := by omega
          subst this
          exact .inr e
      · rintro (⟨j, hj, e⟩ | e)
        · exact ⟨j, by omega, e⟩
        · exact ⟨k, by omega, e⟩
    rw [hs, ← ih]
    cases h : L[k]? with
    | none => simp [U, h]
    | some q =>
      by_cases hq : q ∈ U L k
      · rw [U_old h hq]
        constructor
        · exact .inl
        · rintro (h1 | h1)
          · exact h1
          · cases h1; exact hq
      · rw [U_new h hq]
        simp [eq_comm]

theorem U_len (L : List Pr) : ∀ k, (U L k).length ≤ k
  | 0 => by simp [U]
  | k + 1 => by
    have ih := U_len L k
    cases h : L[k]? with
    | none => simp [U, h]; omega
    | some q =>
      by_cases hq : q ∈ U L k
      · rw [U_old h hq]; omega
      · rw [U_new h hq]; simp; omega

theorem U_step (L : List Pr) (k : Nat) : ∃ t, U L (k + 1) = U L k ++ t := by
  cases h : L[k]? with
  | none => exact ⟨[], by simp [U, h]⟩
  | some q =>
    by_cases hq : q ∈ U L k
    · exact ⟨[], by rw [U_old h hq]; simp⟩
    · exact ⟨[q], U_new h hq⟩

theorem U_prefix (L : List Pr) (k : Nat) : ∀ d, ∃ t, U L (k + d) = U L k ++ t
  | 0 => ⟨[], by simp⟩
  | d + 1 => by
    obtain ⟨t, ht⟩ := U_prefix L k d
    obtain ⟨t', ht'⟩ := U_step L (k + d)
    exact ⟨t ++ t', by rw [← Nat.add_assoc, ht', ht, List.append_assoc]⟩

/-- A peer that equals no earlier one stands in the answer at the place that the count of first occurrences says. -/
theorem U_at {L : List Pr} {i n : Nat} {p : Pr} (hi : i < n) (h : L[i]? = some p) (hp : p ∉ U L i) : (U L n)[(U L i).length]? = some p := by
  obtain ⟨t, ht⟩ := U_prefix L (i + 1) (n - (i + 1))
  rw [show i + 1 + (n - (i + 1)) = n by omega, U_new h hp] at ht
  rw [ht, List.append_assoc, List.getElem?_append_right (Nat.le_refl _)]
  simp

theorem U_sub {L : List Pr} {k : Nat} {p : Pr} (h : p ∈ U L k) : p ∈ L := by
  obtain ⟨j, _, e⟩ := (U_mem L k p).1 h
  exact List.mem_of_getElem? e
end Go.Proofs.Qxb6602192a
