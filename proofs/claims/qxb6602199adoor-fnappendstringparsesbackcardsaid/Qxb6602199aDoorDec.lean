/-
  PLAIN LAWS ON DECIMAL NUMERALS: value, order, canonical form. No Go in sight.
-/
import Derived.Lib.ItoaNum
namespace Go.Proofs.Qxb6602199aDoor
open Go.Lib (decDigits nDigits itoa)

/-- The number that a list of digits stands for. -/
def val (l : List UInt8) : Nat := l.foldl (fun v c => v * 10 + (c.toNat - 48)) 0
theorem val_nil : val [] = 0 := rfl
theorem val_snoc (l : List UInt8) (c : UInt8) : val (l ++ [c]) = val l * 10 + (c.toNat - 48) := by simp [val]
def isDig (c : UInt8) : Prop := 48 ≤ c.toNat ∧ c.toNat ≤ 57

theorem dig_toNat {d : Nat} (h : d < 10) : (UInt8.ofNat (48 + d)).toNat = 48 + d := by
  rw [UInt8.toNat_ofNat']
  omega

theorem dec_small {u : Nat} (h : u < 10) : decDigits u = [UInt8.ofNat (48 + u)] := by rw [decDigits, dif_pos h]
theorem dec_big {u : Nat} (h : ¬ u < 10) : decDigits u = decDigits (u / 10) ++ [UInt8.ofNat (48 + u % 10)] := by rw [decDigits, dif_neg h]

theorem dec_digs (u : Nat) : ∀ c ∈ decDigits u, isDig c := by
  induction u using Nat.strongRecOn with
  | _ u ih =>
    by_cases h : u < 10
    · rw [dec_small h]
      intro c hc
      simp only [List.mem_singleton] at hc
      subst hc
      unfold isDig
      rw [dig_toNat h]
      omega
    · rw [dec_big h]
      intro c hc
      rcases List.mem_append.1 hc with hc | hc
      · exact ih (u / 10) (by omega) c hc
      · simp only [List.mem_singleton] at hc
        subst hc
        unfold isDig
        rw [dig_toNat (by omega)]
        omega

theorem val_dec (u : Nat) : val (decDigits u) = u := by
  induction u using Nat.strongRecOn with
  | _ u ih =>
    by_cases h : u < 10
    · rw [dec_small h]
      simp only [val, List.foldl_cons, List.foldl_nil]
      rw [dig_toNat h]
      omega
    · rw [dec_big h, val_snoc, ih (u / 10) (by omega), dig_toNat (by omega)]
      omega

theorem dec_inj {u v : Nat} (h : decDigits u = decDigits v) : u = v := by rw [← val_dec u, ← val_dec v, h]

theorem dec_ne_nil (u : Nat) : decDigits u ≠ [] := by
  by_cases h : u < 10
  · rw [dec_small h]; simp
  · rw [dec_big h]; simp
theorem dec_pos (u : Nat) : 0 < (decDigits u).length := List.length_pos_iff.2 (dec_ne_nil u)

/-- No leading zero, but in "0" itself. -/
theorem dec_head (u : Nat) (h : 0 < u) : ∃ c r, decDigits u = c :: r ∧ 49 ≤ c.toNat ∧ c.toNat ≤ 57 := by
  induction u using Nat.strongRecOn with
  | _ u ih =>
    by_cases h' : u < 10
    · exact ⟨_, [], dec_small h', by rw [dig_toNat h']; omega, by rw [dig_toNat h']; omega⟩
    · obtain ⟨c, r, e, h1⟩ := ih (u / 10) (by omega) (by omega)
      exact ⟨c, r ++ [UInt8.ofNat (48 + u % 10)], by rw [dec_big h', e]; rfl, h1⟩
theorem dec_zero : decDigits 0 = [48] := dec_small (by decide)

theorem pow_le_of_long (u : Nat) : ∀ k, k + 1 < (decDigits u).length → 10 ^ (k + 1) ≤ u := by
  induction u using Nat.strongRecOn with
  | _ u ih =>
    intro k hk
    by_cases h : u < 10
    · rw [dec_small h] at hk
      simp at hk
    · rw [dec_big h, List.length_append] at hk
      simp at hk
      cases k with
      | zero => simp; omega
      | succ k =>
        have := ih (u / 10) (by omega) k (by omega)
        rw [Nat.pow_succ]
        omega
theorem lt_pow (u : Nat) : u < 10 ^ (decDigits u).length := by
  rw [Go.Lib.decDigits_length]
  exact Go.Lib.lt_pow_nDigits u

theorem len_mono {u v : Nat} (h : u ≤ v) : (decDigits u).length ≤ (decDigits v).length := by
  refine Classical.byContradiction fun hc => ?_
  have hv := dec_pos v
  obtain ⟨k, hk⟩ : ∃ k, (decDigits v).length = k + 1 := ⟨(decDigits v).length - 1, by omega⟩
  have h1 := pow_le_of_long u k (by omega)
  have h2 := lt_pow v
  rw [hk] at h2
  omega

/-! ### shortlex -/
def lexL : List UInt8 → List UInt8 → Bool
  | a :: r, b :: s => if a = b then lexL r s else decide (a < b)
  | _, _ => false
def slex (a b : List UInt8) : Bool := if a.length = b.length then lexL a b else decide (a.length < b.length)

theorem lexL_self : ∀ l, lexL l l = false
  | [] => rfl
  | a :: r => by simp [lexL, lexL_self r]
theorem lexL_append : ∀ (a b s t : List UInt8), a.length = b.length → lexL (a ++ s) (b ++ t) = if a = b then lexL s t else lexL a b
  | [], [], s, t, _ => by simp
  | x :: a, y :: b, s, t, h => by
    have ih := lexL_append a b s t (by simpa using h)
    simp only [List.cons_append, lexL, List.cons.injEq]
    by_cases e : x = y
    · simp only [e, if_true, true_and]
      exact ih
    · simp [e]
theorem lexL_dec (u v : Nat) (h : (decDigits u).length = (decDigits v).length) : lexL (decDigits u) (decDigits v) = decide (u < v) := by
  induction u using Nat.strongRecOn generalizing v with
  | _ u ih =>
    by_cases hu : u < 10
    · rw [dec_small hu] at h ⊢
      by_cases hv : v < 10
      · rw [dec_small hv]
        simp only [lexL]
        by_cases e : u = v
        · subst e
          simp
        · have hne : UInt8.ofNat (48 + u) ≠ UInt8.ofNat (48 + v) := fun he => e (by have := congrArg UInt8.toNat he; rw [dig_toNat hu, dig_toNat hv] at this; omega)
          rw [if_neg hne]
          congr 1
          rw [UInt8.lt_iff_toNat_lt, dig_toNat hu, dig_toNat hv]
          simp
      · rw [dec_big hv] at h
        have := dec_pos (v / 10)
        simp only [List.length_append, List.length_cons, List.length_nil] at h
        omega
    · by_cases hv : v < 10
      · rw [dec_small hv, dec_big hu] at h
        have := dec_pos (u / 10)
        simp only [List.length_append, List.length_cons, List.length_nil] at h
        omega
      · rw [dec_big hu, dec_big hv] at h ⊢
        simp only [List.length_append, List.length_singleton, Nat.add_right_cancel_iff] at h
        rw [lexL_append _ _ _ _ h, ih (u / 10) (by omega) (v / 10) h]
        by_cases e : decDigits (u / 10) = decDigits (v / 10)
        · rw [if_pos e]
          have e' := dec_inj e
          simp only [lexL]
          by_cases e2 : u % 10 = v % 10
          · rw [e2, if_pos rfl]
            have : u = v := by omega
            subst this
            simp
          · have hne : UInt8.ofNat (48 + u % 10) ≠ UInt8.ofNat (48 + v % 10) := fun he => e2 (by have := congrArg UInt8.toNat he; rw [dig_toNat (by omega), dig_toNat (by omega)] at this; omega)
            rw [if_neg hne]
            congr 1
            rw [UInt8.lt_iff_toNat_lt, dig_toNat (by omega), dig_toNat (by omega)]
            simp only [eq_iff_iff]
            omega
        · rw [if_neg e]
          have : u / 10 ≠ v / 10 := fun h => e (by rw [h])
          congr 1
          simp only [eq_iff_iff]
          omega

/-- appendInt's text of a number at or above zero. -/
def enc (u : Nat) : List UInt8 := 105 :: (decDigits u ++ [101])
theorem enc_inj (u v : Nat) : enc u = enc v ↔ u = v := by
  constructor
  · intro h
    simp only [enc, List.cons.injEq, true_and] at h
    exact dec_inj (List.append_inj_left' h rfl)
  · rintro rfl; rfl
theorem slex_enc (u v : Nat) : slex (enc u) (enc v) = decide (u < v) := by
  unfold slex
  by_cases h : (decDigits u).length = (decDigits v).length
  · rw [if_pos (by simp [enc, h])]
    simp only [enc, lexL, if_true]
    rw [lexL_append _ _ _ _ h]
    by_cases e : decDigits u = decDigits v
    · have := dec_inj e
      subst this
      simp [lexL]
    · rw [if_neg e, lexL_dec u v h]
  · rw [if_neg (by simp [enc, h])]
    congr 1
    simp only [enc, List.length_cons, List.length_append, List.length_nil, eq_iff_iff]
    constructor
    · intro hl
      refine Classical.byContradiction fun hc => ?_
      have := len_mono (show v ≤ u by omega)
      omega
    · intro hl
      have := len_mono (show u ≤ v by omega)
      omega

/-! ### reading back -/
theorem val_take_succ (l : List UInt8) (k : Nat) (c : UInt8) (h : l[k]? = some c) : val (l.take (k + 1)) = val (l.take k) * 10 + (c.toNat - 48) := by
  rw [List.take_add_one, h]
  exact val_snoc _ _
theorem val_append_ge (a b : List UInt8) : val a ≤ val (a ++ b) := by
  induction b generalizing a with
  | nil => simp
  | cons c r ih =>
    have := ih (a ++ [c])
    rw [val_snoc] at this
    rw [show a ++ c :: r = a ++ [c] ++ r by simp]
    omega
theorem val_take_le (l : List UInt8) (k : Nat) : val (l.take k) ≤ val l := by
  have := val_append_ge (l.take k) (l.drop k)
  rwa [List.take_append_drop] at this
theorem dec_len19 (u : Nat) (h : u ≤ 9223372036854775808) : (decDigits u).length ≤ 19 := by
  refine Classical.byContradiction fun hc => ?_
  have := pow_le_of_long u 18 (by omega)
  omega
theorem dec_len6 (u : Nat) (h : u ≤ 524288) : (decDigits u).length ≤ 6 := by
  refine Classical.byContradiction fun hc => ?_
  have := pow_le_of_long u 5 (by omega)
  omega
end Go.Proofs.Qxb6602199aDoor
