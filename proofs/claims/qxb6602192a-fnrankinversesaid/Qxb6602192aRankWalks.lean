import Derived.Test.Qxb6602192aProg
import Derived.Test.Qxb6602192aRankPlain
import Derived.WalkKit
import Derived.ProofKit
namespace Go.Proofs.Qxb6602192a
open Go.RowKit

/-! ### The walk's own spelling of the two mixers, brought to the plain functions -/
theorem mul_u64 (X C : Nat) : IntKind.u64.wrap ((X : Int) * (C : Int)) = ((X * C % 2 ^ 64 : Nat) : Int) := by
  rw [IntKind.wrap_u64, Int.natCast_emod, Int.natCast_mul]
  rfl
theorem sh_u64 (X k : Nat) (hX : X < 2 ^ 64) : bits .xor .u64 (X : Int) ((X : Int) / ((2 ^ k : Nat) : Int)) = ((RankPlain.sh k X : Nat) : Int) :=
  xorShift_u64 X (2 ^ k) hX
theorem unsh_u64 (X k m : Nat) (hm : m = 2 * k) (hX : X < 2 ^ 64) :
    bits .xor .u64 (X : Int) (bits .xor .u64 ((X : Int) / ((2 ^ k : Nat) : Int)) ((X : Int) / ((2 ^ m : Nat) : Int))) = ((RankPlain.unsh k X : Nat) : Int) := by
  subst hm
  have hd : ∀ s : Nat, X / s < 2 ^ 64 := fun s => Nat.lt_of_le_of_lt (Nat.div_le_self _ _) hX
  rw [← Int.natCast_ediv, ← Int.natCast_ediv, bits_xor_u64_nat _ _ (hd _) (hd _), bits_xor_u64_nat _ _ hX (Nat.xor_lt_two_pow (hd _) (hd _))]
  rfl
theorem mix_walk (x l : Nat) (hx : x < 18446744073709551616) (hl : l < 18446744073709551616) :
    (bits BinOp.xor IntKind.u64
              (IntKind.u64.wrap
                (bits BinOp.xor IntKind.u64
                    (IntKind.u64.wrap
                      (bits BinOp.xor IntKind.u64 (bits BinOp.xor IntKind.u64 x l)
                          (bits BinOp.xor IntKind.u64 x l / 1073741824) *
                        13787848793156543929))
                    (IntKind.u64.wrap
                        (bits BinOp.xor IntKind.u64 (bits BinOp.xor IntKind.u64 x l)
                            (bits BinOp.xor IntKind.u64 x l / 1073741824) *
                          13787848793156543929) /
                      134217728) *
                  10723151780598845931))
              (IntKind.u64.wrap
                  (bits BinOp.xor IntKind.u64
                      (IntKind.u64.wrap
                        (bits BinOp.xor IntKind.u64 (bits BinOp.xor IntKind.u64 x l)
                            (bits BinOp.xor IntKind.u64 x l / 1073741824) *
                          13787848793156543929))
                      (IntKind.u64.wrap
                          (bits BinOp.xor IntKind.u64 (bits BinOp.xor IntKind.u64 x l)
                              (bits BinOp.xor IntKind.u64 x l / 1073741824) *
                            13787848793156543929) /
                        134217728) *
                    10723151780598845931) /
                2147483648)) = ((RankPlain.mix (x ^^^ l) : Nat) : Int) := by
  have m : ∀ a : Nat, a % 2 ^ 64 < 2 ^ 64 := fun a => Nat.mod_lt _ (by decide)
  rw [bits_xor_u64_nat x l hx hl]
  have hX : x ^^^ l < 2 ^ 64 := Nat.xor_lt_two_pow hx hl
  generalize x ^^^ l = X at hX ⊢
  have e1 := sh_u64 X 30 hX
  have e2 := mul_u64 (RankPlain.sh 30 X) RankPlain.c1
  have e3 := sh_u64 (RankPlain.sh 30 X * RankPlain.c1 % 2 ^ 64) 27 (m _)
  have e4 := mul_u64 (RankPlain.sh 27 (RankPlain.sh 30 X * RankPlain.c1 % 2 ^ 64)) RankPlain.c2
  have e5 := sh_u64 (RankPlain.sh 27 (RankPlain.sh 30 X * RankPlain.c1 % 2 ^ 64) * RankPlain.c2 % 2 ^ 64) 31 (m _)
  have n1 : ((2 ^ 30 : Nat) : Int) = 1073741824 := by decide
  have n2 : ((2 ^ 27 : Nat) : Int) = 134217728 := by decide
  have n3 : ((2 ^ 31 : Nat) : Int) = 2147483648 := by decide
  have n4 : ((RankPlain.c1 : Nat) : Int) = 13787848793156543929 := by decide
  have n5 : ((RankPlain.c2 : Nat) : Int) = 10723151780598845931 := by decide
  rw [n1] at e1; rw [n4] at e2; rw [n2] at e3; rw [n5] at e4; rw [n3] at e5
  rw [e1, e2, e3, e4, e5]
  rfl
theorem unmix_walk (X : Nat) (hX : X < 2 ^ 64) {y z u : Int} (hy : y = IntKind.u64.wrap (bits BinOp.xor IntKind.u64 X (bits BinOp.xor IntKind.u64 (X / 2147483648) (X / 4611686018427387904)) * 3573116690164977347))
    (hz : z = IntKind.u64.wrap (bits BinOp.xor IntKind.u64 y (bits BinOp.xor IntKind.u64 (y / 134217728) (y / 18014398509481984)) * 10871156337175269513))
    (hu : u = bits BinOp.xor IntKind.u64 z (bits BinOp.xor IntKind.u64 (z / 1073741824) (z / 1152921504606846976))) :
    u = ((RankPlain.unmix X : Nat) : Int) := by
  have m : ∀ a : Nat, a % 2 ^ 64 < 2 ^ 64 := fun a => Nat.mod_lt _ (by decide)
  have e1 := unsh_u64 X 31 62 rfl hX
  have n1 : ((2 ^ 31 : Nat) : Int) = 2147483648 := by decide
  have n1' : ((2 ^ 62 : Nat) : Int) = 4611686018427387904 := by decide
  have n2 : ((2 ^ 27 : Nat) : Int) = 134217728 := by decide
  have n2' : ((2 ^ 54 : Nat) : Int) = 18014398509481984 := by decide
  have n3 : ((2 ^ 30 : Nat) : Int) = 1073741824 := by decide
  have n3' : ((2 ^ 60 : Nat) : Int) = 1152921504606846976 := by decide
  have n4 : ((RankPlain.i1 : Nat) : Int) = 10871156337175269513 := by decide
  have n5 : ((RankPlain.i2 : Nat) : Int) = 3573116690164977347 := by decide
  rw [n1, n1'] at e1
  have e2 := mul_u64 (RankPlain.unsh 31 X) RankPlain.i2
  rw [n5] at e2
  rw [e1, e2] at hy
  have e3 := unsh_u64 (RankPlain.unsh 31 X * RankPlain.i2 % 2 ^ 64) 27 54 rfl (m _)
  rw [n2, n2'] at e3
  have e4 := mul_u64 (RankPlain.unsh 27 (RankPlain.unsh 31 X * RankPlain.i2 % 2 ^ 64)) RankPlain.i1
  rw [n4] at e4
  rw [hy, e3, e4] at hz
  have e5 := unsh_u64 (RankPlain.unsh 27 (RankPlain.unsh 31 X * RankPlain.i2 % 2 ^ 64) * RankPlain.i1 % 2 ^ 64) 30 60 rfl (m _)
  rw [n3, n3'] at e5
  rw [hz, e5] at hu
  rw [hu]
  rfl

set_option maxHeartbeats 400000 in
theorem rank_any (h l : Nat) (hh : h < 18446744073709551616) (hl : l < 18446744073709551616) (w : World) :
    Calls Try.prog 30 #[.agg #[.int .u64 h, .int .u64 l]] w fun e w' => e = .returned (.int .u64 (RankPlain.mix (RankPlain.mix h ^^^ l) : Nat)) ∧ Grown w w' := by
  have i0 : ∀ w, (Instr.index 67 (.agg #[.int .u64 (h : Int), .int .u64 (l : Int)]) (.int .i64 0)).run Try.prog w = .ok (.int .u64 h) w := fun _ => by kernel_rfl
  have i1 : ∀ w, (Instr.index 67 (.agg #[.int .u64 (h : Int), .int .u64 (l : Int)]) (.int .i64 1)).run Try.prog w = .ok (.int .u64 l) w := fun _ => by kernel_rfl
  go_enter Try.func30, Try.ntmps30
  go_wp2
  go_loop [3, 11] (fun x i => (i = .int .i64 0 ∧ x = .int .u64 0) ∨ (i = .int .i64 1 ∧ x = .int .u64 (RankPlain.mix h : Nat)) ∨ (i = .int .i64 2 ∧ x = .int .u64 (RankPlain.mix (RankPlain.mix h ^^^ l) : Nat))) (fun _ i => 2 - (intOf i).toNat)
  case atStart => exact .inl ⟨rfl, rfl⟩
  case round =>
    rcases hrel with ⟨rfl, rfl⟩ | ⟨rfl, rfl⟩ | ⟨rfl, rfl⟩
    · go_wp2
      go_round
      case rel =>
        refine .inr (.inl ⟨rfl, ?_⟩)
        have := mix_walk 0 h (by decide) hh
        rw [Nat.zero_xor] at this
        exact congrArg (Value.int .u64) this
      case measure => simp [intOf]
    · go_wp2
      go_round
      case rel => exact .inr (.inr ⟨rfl, congrArg (Value.int .u64) (mix_walk _ l (RankPlain.mix_lt _) hl)⟩)
      case measure => simp [intOf]
    · go_wp2
      go_ret
      exact ⟨rfl, by repeat (first | exact Grown.refl _ | apply Grown.drew | apply Grown.alloc)⟩

def invAt (c : Int) : Nat → Int
  | 0 => c
  | k + 1 => IntKind.u64.wrap (invAt c k * IntKind.u64.wrap (2 - IntKind.u64.wrap (c * invAt c k)))

set_option maxHeartbeats 400000 in
theorem invOdd_any (c : Int) (w : World) :
    Calls Try.prog 31 #[.int .u64 c] w fun e w' => e = .returned (.int .u64 (invAt c 6)) ∧ w' = w := by
  go_enter Try.func31, Try.ntmps31
  go_wp2
  go_loop [3, 4] (fun x i => ∃ k : Nat, k ≤ 6 ∧ i = .int .i64 k ∧ x = .int .u64 (invAt c k)) (fun _ i => 6 - (intOf i).toNat)
  case atStart => exact ⟨0, by omega, rfl, rfl⟩
  case round =>
    obtain ⟨k, hk, rfl, rfl⟩ := hrel
    by_cases hlt : k < 6
    · go_wp2
      go_round
      case rel => exact ⟨k + 1, by omega, by go_num, rfl⟩
      case measure => simp [intOf]; omega
    · have : k = 6 := by omega
      subst this
      go_wp2
      go_ret
      exact ⟨rfl, rfl⟩
theorem inv_c1 : invAt 13787848793156543929 6 = 10871156337175269513 := by decide +kernel
theorem inv_c2 : invAt 10723151780598845931 6 = 3573116690164977347 := by decide +kernel

set_option maxHeartbeats 400000 in
theorem unmix_any (z : Nat) (hz : z < 2 ^ 64) (w : World) :
    Calls Try.prog 11 #[.int .u64 z] w fun e w' => e = .returned (.int .u64 (RankPlain.unmix z : Nat)) ∧ w' = w := by
  go_enter Try.func11, Try.ntmps11
  go_wp2_with (go_at_call 31; refine (invOdd_any _ _).mono ?_; rintro e w' ⟨rfl, rfl⟩; first | rw [inv_c1] | rw [inv_c2])
  go_ret
  exact ⟨congrArg (fun x => Ending.returned (.int .u64 x)) (unmix_walk z hz rfl rfl rfl), rfl⟩

set_option maxHeartbeats 400000 in
theorem zzrank_any (h l : Nat) (hh : h < 18446744073709551616) (hl : l < 18446744073709551616) (w : World) :
    Calls Try.prog 10 #[.int .u64 h, .int .u64 l] w fun e w' => e = .returned (.int .u64 (RankPlain.mix (RankPlain.mix h ^^^ l) : Nat)) ∧ Grown w w' := by
  go_enter Try.func10, Try.ntmps10
  go_wp2_with fail
  refine (rank_any h l hh hl _).mono ?_
  rintro e w' ⟨rfl, hg⟩
  go_wp2
  go_ret
  exact ⟨rfl, hg⟩
end Go.Proofs.Qxb6602192a
