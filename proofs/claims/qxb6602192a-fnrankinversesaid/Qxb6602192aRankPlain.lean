/-
  THE PLAIN LAW OF 'rank' AND 'unmix' (the SplitMix64 finalizer and its inverse), over Nat. No Go in sight.
-/
namespace Go.Proofs.Qxb6602192a.RankPlain
def sh (k x : Nat) : Nat := x ^^^ x / 2 ^ k
def unsh (k x : Nat) : Nat := x ^^^ (x / 2 ^ k ^^^ x / 2 ^ (2 * k))

theorem unsh_sh (k x : Nat) (hx : x < 2 ^ (3 * k)) : unsh k (sh k x) = x := by
  unfold unsh sh
  apply Nat.eq_of_testBit_eq
  intro i
  have h3 : x.testBit (i + 2 * k + k) = false := Nat.testBit_lt_two_pow (Nat.lt_of_lt_of_le hx (Nat.pow_le_pow_right (by decide) (by omega)))
  simp only [Nat.testBit_xor, Nat.testBit_div_two_pow]
  rw [show i + k + k = i + 2 * k by omega, h3]
  cases x.testBit i <;> cases x.testBit (i + k) <;> cases x.testBit (i + 2 * k) <;> rfl

theorem sh_lt (k x : Nat) (hx : x < 2 ^ 64) : sh k x < 2 ^ 64 :=
  Nat.xor_lt_two_pow hx (Nat.lt_of_le_of_lt (Nat.div_le_self _ _) hx)

theorem unsh_lt (k x : Nat) (hx : x < 2 ^ 64) : unsh k x < 2 ^ 64 :=
  Nat.xor_lt_two_pow hx (Nat.xor_lt_two_pow (Nat.lt_of_le_of_lt (Nat.div_le_self _ _) hx) (Nat.lt_of_le_of_lt (Nat.div_le_self _ _) hx))

theorem unmul (x c d : Nat) (hx : x < 2 ^ 64) (h : c * d % 2 ^ 64 = 1) : (x * c % 2 ^ 64) * d % 2 ^ 64 = x := by
  rw [Nat.mod_mul_mod, Nat.mul_assoc, Nat.mul_mod, h, Nat.mul_one, Nat.mod_mod, Nat.mod_eq_of_lt hx]

def c1 : Nat := 0xbf58476d1ce4e5b9
def c2 : Nat := 0x94d049bb133111eb
def i1 : Nat := 10871156337175269513
def i2 : Nat := 3573116690164977347
def mix (x : Nat) : Nat := sh 31 (sh 27 (sh 30 x * c1 % 2 ^ 64) * c2 % 2 ^ 64)
def unmix (z : Nat) : Nat := unsh 30 (unsh 27 (unsh 31 z * i2 % 2 ^ 64) * i1 % 2 ^ 64)
theorem inv1 : c1 * i1 % 2 ^ 64 = 1 := by decide +kernel
theorem inv2 : c2 * i2 % 2 ^ 64 = 1 := by decide +kernel
theorem unmix_mix (x : Nat) (hx : x < 2 ^ 64) : unmix (mix x) = x := by
  unfold unmix mix
  have e : ∀ k y : Nat, 22 ≤ k → y < 2 ^ 64 → unsh k (sh k y) = y := fun k y hk hy => unsh_sh k y (Nat.lt_of_lt_of_le hy (Nat.pow_le_pow_right (by decide) (by omega)))
  have m : ∀ a : Nat, a % 2 ^ 64 < 2 ^ 64 := fun a => Nat.mod_lt _ (by decide)
  rw [e 31 _ (by decide) (m _), unmul _ _ _ (sh_lt _ _ (m _)) inv2, e 27 _ (by decide) (m _), unmul _ _ _ (sh_lt _ _ hx) inv1, e 30 _ (by decide) hx]
theorem mix_lt (x : Nat) : mix x < 2 ^ 64 := sh_lt _ _ (Nat.mod_lt _ (by decide))
theorem mix_zero : mix 0 = 0 := by decide +kernel
end Go.Proofs.Qxb6602192a.RankPlain
