/-
  THE MATCH MODEL, PLAIN: places in a buffer whose length is a power of two, and what one step of the model keeps. No Go in sight.
-/
namespace Go.Proofs.Qxb6602245a.Match

theorem pow2_of_and (n : Nat) : 0 < n → n &&& (n - 1) = 0 → ∃ a, n = 2 ^ a := by
  induction n using Nat.strongRecOn with
  | ind n ih =>
    intro hn h
    by_cases he : n % 2 = 0
    · have h1 : n / 2 &&& (n / 2 - 1) = 0 := by
        have := congrArg (· / 2) h
        simp only [Nat.and_div_two] at this
        rwa [show (n - 1) / 2 = n / 2 - 1 by omega] at this
      obtain ⟨a, ha⟩ := ih (n / 2) (by omega) (by omega) h1
      exact ⟨a + 1, by rw [Nat.pow_succ, ← ha]; omega⟩
    · have h1 : n / 2 &&& n / 2 = 0 := by
        have := congrArg (· / 2) h
        simp only [Nat.and_div_two] at this
        rwa [show (n - 1) / 2 = n / 2 by omega] at this
      rw [Nat.and_self] at h1
      exact ⟨0, by omega⟩

theorem dvd_pow {n a : Nat} (h : n = 2 ^ a) (hn : n ≤ 4294967296) : n ∣ 4294967296 := by
  subst h
  have : a ≤ 32 := by
    rcases Nat.lt_or_ge 32 a with h | h
    · have := Nat.pow_lt_pow_right (a := 2) (by decide) h
      omega
    · exact h
  exact Nat.pow_dvd_pow 2 this

/-- The place k bytes back from p, and its partner off bytes ahead of it. -/
def back (n p k : Nat) : Nat := (p + 256 * n - 1 - k) % n
def mate (n p k off : Nat) : Nat := (back n p k + n - off % n) % n

theorem mod_same {n : Nat} {X Y t : Int} (h : X = Y + n * t) : X % n = Y % n := by rw [h, Int.add_mul_emod_self_left]
theorem mod_lift {c n : Nat} (X : Int) (h : 4294967296 = n * c) : ∃ t : Int, X % 4294967296 = X + n * t := by
  refine ⟨-(c * (X / 4294967296)), ?_⟩
  have e : (n : Int) * (c : Int) = 4294967296 := by rw [← Int.natCast_mul, ← h]; rfl
  have : (n : Int) * (-(c * (X / 4294967296))) = -(4294967296 * (X / 4294967296)) := by rw [Int.mul_neg, ← Int.mul_assoc, e]
  rw [this]
  omega
theorem mod_nat {n : Nat} (x : Nat) : ∃ t : Int, ((x % n : Nat) : Int) = x + n * t := by
  refine ⟨-(x / n : Nat), ?_⟩
  have := Nat.div_add_mod x n
  rw [Int.mul_neg, ← Int.natCast_mul]
  omega

theorem back_walk {n p k : Nat} (hn : n ∣ 4294967296) (h0 : 0 < n) (hk : k ≤ 255) : ((((p : Int) - k) % 4294967296 - 1) % 4294967296) % n = ((back n p k : Nat) : Int) := by
  obtain ⟨c, hc⟩ := hn
  obtain ⟨t1, e1⟩ := mod_lift ((p : Int) - k) hc
  obtain ⟨t2, e2⟩ := mod_lift (((p : Int) - k) % 4294967296 - 1) hc
  unfold back
  rw [Int.natCast_emod, show ((p + 256 * n - 1 - k : Nat) : Int) = (p : Int) - k - 1 + n * 256 by omega]
  rw [mod_same (n := n) (Y := (p : Int) - k - 1) (t := 256) rfl]
  refine mod_same (t := t1 + t2) ?_
  rw [e2, e1, Int.mul_add]
  omega
theorem mate_walk {n p k off : Nat} (hn : n ∣ 4294967296) (h0 : 0 < n) (hk : k ≤ 255) : (((((p : Int) - k) % 4294967296 - off) % 4294967296 - 1) % 4294967296) % n = ((mate n p k off : Nat) : Int) := by
  obtain ⟨c, hc⟩ := hn
  obtain ⟨t1, e1⟩ := mod_lift ((p : Int) - k) hc
  obtain ⟨t2, e2⟩ := mod_lift (((p : Int) - k) % 4294967296 - off) hc
  obtain ⟨t3, e3⟩ := mod_lift ((((p : Int) - k) % 4294967296 - off) % 4294967296 - 1) hc
  obtain ⟨t4, e4⟩ := mod_nat (n := n) off
  obtain ⟨t5, e5⟩ := mod_nat (n := n) (p + 256 * n - 1 - k)
  have hlt := Nat.mod_lt off h0
  unfold mate back
  rw [Int.natCast_emod, show (((p + 256 * n - 1 - k) % n + n - off % n : Nat) : Int) = ((p + 256 * n - 1 - k) % n : Nat) + n - ((off % n : Nat) : Int) by omega, e4, e5]
  refine mod_same (t := t1 + t2 + t3 - (t5 - t4) - 257) ?_
  rw [e3, e2, e1]
  simp only [Int.mul_add, Int.mul_sub]
  omega

/-- What the model's step keeps, and what it promises. -/
structure Step (n : Nat) (l : List UInt8) (p ln off p2 ln2 off2 : Nat) : Prop where
  pos : p2 = (p + 1) % n
  len32 : ln2 < 4294967296
  off32 : off2 < 4294967296
  held : ln ≠ 0 → off2 = off ∧ ln ≤ ln2 ∧ (ln ≤ 255 → ln2 ≤ 255)
  fresh : ln = 0 → ln2 ≤ 255 ∧ (ln2 ≠ 0 → off2 % n ≠ 0 ∧ ∀ k, k < ln2 → l[back n p2 k]? = l[mate n p2 k off2]?)
theorem back_lt {n p k : Nat} (h : 0 < n) : back n p k < n := Nat.mod_lt _ h
theorem mate_lt {n p k off : Nat} (h : 0 < n) : mate n p k off < n := Nat.mod_lt _ h
end Go.Proofs.Qxb6602245a.Match
