/-
  THE SHELL OF A PROOF OF 'Rows.FnRankInverseSaid' ('example.com/ringroute/ringroute/zzlaws_root_b1.FnRankInverse'), WRITTEN BY PROGRAM (proof-skeleton.mjs) off the guide's own print for that function.
  The walk is filled; all else is the guide's template at this function's number and types.
-/
import Derived.Test.Qxb6602192aRows
import Derived.Test.Qxb6602192aRankWalks
import Derived.WalkKit
import Derived.ProofKit
import Derived.OpenShut
import Derived.ShutString
namespace Go.Proofs.Qxb6602192a.fnRankInverse
open Go.ChangeShapes Go.WideShapes Go.ChangeAt Go.RowKit
open Go.ChangeMaps (open_string shut_string)
set_option linter.unusedVariables false      -- a walk need not use every 'w<i>' (that an integer argument fits its kind)

theorem own : ownKnob Try.prog.godebug = none := by kernel_rfl

/-! ### STEP 1: THE WALK: the Go text returns true. 'Grown w w'': the world has at most new blocks (Derived/RowKit3.lean). Part the cases AHEAD of 'go_enter' where a test parts the walk; take each callee by a contract of your own. -/
theorem walk (a0 : Int) (a1 : Int) (w0 : (Lit.int .u64 a0).wf = true) (w1 : (Lit.int .u64 a1).wf = true) (w : World) :
    Calls Try.prog 3 #[.int .u64 a0, .int .u64 a1] w fun e w' => e = .returned (.bool true) ∧ Grown w w' := by
  have b0 : 0 ≤ a0 ∧ a0 < 18446744073709551616 := by have := bounds_u64 w0; omega
  have b1 : 0 ≤ a1 ∧ a1 < 18446744073709551616 := by have := bounds_u64 w1; omega
  obtain ⟨h, rfl⟩ := Int.eq_ofNat_of_zero_le b0.1
  obtain ⟨l, rfl⟩ := Int.eq_ofNat_of_zero_le b1.1
  have hh : h < 18446744073709551616 := by omega
  have hl : l < 18446744073709551616 := by omega
  clear b0 b1 w0 w1
  have hm : RankPlain.mix h < 18446744073709551616 := RankPlain.mix_lt h
  have e1 : RankPlain.mix (RankPlain.mix 0 ^^^ h) = RankPlain.mix h := by rw [RankPlain.mix_zero, Nat.zero_xor]
  have X1 : Hid (RankPlain.unmix (RankPlain.mix h) = h) := RankPlain.unmix_mix h hh
  have X2 : Hid (RankPlain.unmix (RankPlain.mix (RankPlain.mix h ^^^ l)) = RankPlain.mix h ^^^ l) := RankPlain.unmix_mix _ (Nat.xor_lt_two_pow hm hl)
  have X3 : Hid (bits .xor .u64 ((RankPlain.mix h : Nat) : Int) (l : Int) = ((RankPlain.mix h ^^^ l : Nat) : Int)) := bits_xor_u64_nat _ _ hm hl
  go_enter Try.func3, Try.ntmps3
  go_wp2_with fail
  refine (zzrank_any 0 h (by decide) hh _).mono ?_
  rintro e w1 ⟨rfl, g1⟩
  rw [e1]
  go_wp2_with fail
  refine (unmix_any _ (RankPlain.mix_lt h) _).mono ?_
  rintro e w2 ⟨rfl, rfl⟩
  rw [X1.out]
  go_wp2_with fail
  refine (zzrank_any h l hh hl _).mono ?_
  rintro e w3 ⟨rfl, g3⟩
  go_wp2_with fail
  refine (unmix_any _ (RankPlain.mix_lt _) _).mono ?_
  rintro e w4 ⟨rfl, rfl⟩
  rw [X2.out]
  go_wp2
  go_ret
  refine ⟨?_, ⟨World.keptBut_trans g1.1 g3.1, fun a => (g3.2.1 a).trans (g1.2.1 a), Nat.le_trans g1.2.2 g3.2.2⟩⟩
  rw [X3.out]
  simp

/-! ### THE ROW's STEP: WRITTEN OUT: LEAVE IT -/
set_option maxRecDepth 100000 in
theorem lifted (os : Os) (started : os.Started) (H : Type) (enc : TypeId × Value → H) :
    ReturnsInHanded {} Try.checked os 3 .any (Rows.fnRankInverseSpec.pre6 enc Try.prog Try.f3 Rows.fnRankInverseRow.domain false) (Rows.fnRankInverseSpec.post enc Try.prog Try.f3 false true false false) := by
  refine returnsInHanded_of_change (C := Try.checked) own started (by kernel_rfl) Try.func3
    (ChangeSpec.witness6 (enc := enc) (C := Try.checked) false ⟨#[], #[.int .u64 0, .int .u64 0], []⟩ 8 (by kernel_rfl) (by kernel_rfl) (by kernel_rfl) (by kernel_rfl)) ?_
  intro W base args ds gs before hval0 hW hcnd _
  have hval : ∀ (j : Nat) t v, Try.f3.params[j]? = some t → args[j]? = some v → Value.okWide Try.prog W .any base t v := hval0
  have hW' := hW
  obtain ⟨p, q, hA0, hV, rfl, hfz, hnd⟩ := hW
  have hA : DataW.TrodAll enc Try.prog W 0 (fun _ => true) true Try.f3.params.toList args.toList ds p := hA0
  rw [Try.params3] at hA hval
  obtain ⟨v0, vs0, d0, ds0, p0, q0, hargs, rfl, rfl, h0, r0⟩ := trodAll_cons hA
  obtain ⟨v1, vs1, d1, ds1, p1, q1, rfl, rfl, rfl, h1, r1⟩ := trodAll_cons r0
  obtain ⟨rfl, rfl, rfl⟩ := trodAll_nil r1
  obtain rfl : args = #[v0, v1] := by cases args; simp_all
  obtain ⟨rfl, rfl⟩ := trodVars_none hV
  obtain ⟨a0, rfl, rfl, rfl, w0⟩ := open_int Try.underlying22 (hval 0 22 v0 rfl rfl) h0
  obtain ⟨a1, rfl, rfl, rfl, w1⟩ := open_int Try.underlying22 (hval 1 22 v1 rfl rfl) h1
  clear hA0 hval0
  simp only [List.append_nil] at hW'
  refine (walk a0 a1 w0 w1 W).mono fun e W' ⟨he, hg⟩ => ?_
  subst he
  exact ⟨_, rfl, post_of_same (pa := []) (pv := []) hW' (fun _ _ _ => (trodAll_cons_mk (shut_bool Try.underlying4 _) trodAll_mk0)) (fun sp _ => (trodAll_cons_mk (shut_int Try.underlying22 w0) (trodAll_cons_mk (shut_int Try.underlying22 w1) trodAll_mk0))) (fun _ _ => rfl) rfl
    (hg.frame _) hg.2.1 (ok_one (by kernel_rfl) rfl (okWide_bool_mk Try.underlying4 _))⟩

theorem over : Rows.fnRankInverseRow.holds Try.pinned (OpenSpec.ofChange Rows.fnRankInverseSpec) :=
  OpenClaim.holds_of_wide 3 Try.f3 rfl rfl rfl rfl rfl rfl rfl ⟨rfl, rfl, rfl, rfl, rfl⟩ rfl rfl rfl rfl rfl (by kernel_rfl) Try.func3 (by kernel_rfl)
    (of_decide_eq_true (by kernel_rfl)) (by unfold Func.isWrapper; first | (rw [if_pos (by decide +kernel)]; kernel_rfl) | (rw [if_neg (by decide +kernel)]; exact ⟨rfl, rfl⟩))
    (fun os started H enc _ => lifted os started H enc)

/-- ████ THE STATEMENT ████ -/
theorem proved : Rows.FnRankInverseSaid :=
  over
#print axioms proved
end Go.Proofs.Qxb6602192a.fnRankInverse
