import Derived.Test.Qxb6602199aDoorAppends
import Derived.Test.Qxb6602199aDoorSmall
namespace Go.Proofs.Qxb6602199aDoor
open Go.RowKit

theorem intText_nonneg (u : Nat) : intText u = enc u := by
  unfold intText enc
  rw [Lib.itoa_nonneg]

set_option maxHeartbeats 1600000 in
theorem order_any (n m : Int) (hn0 : -9223372036854775808 ≤ n) (hn1 : n ≤ 9223372036854775807) (hm0 : -9223372036854775808 ≤ m) (hm1 : m ≤ 9223372036854775807) (w : World) (htab : Tab w.heap.size w) :
    Calls Tryd.prog 6 #[.int .i64 n, .int .i64 m] w fun e w' => e = .returned (.bool true) ∧ Below w.heap.size w w' := by
  by_cases g0 : n < 0
  · go_enter Tryd.func6, Tryd.ntmps6
    go_wp2
    go_ret
    exact ⟨rfl, Below.refl _ _⟩
  by_cases g1 : m < 0
  · go_enter Tryd.func6, Tryd.ntmps6
    go_wp2
    go_ret
    exact ⟨rfl, Below.refl _ _⟩
  obtain ⟨u, rfl⟩ : ∃ u : Nat, n = u := ⟨n.toNat, by omega⟩
  obtain ⟨v, rfl⟩ : ∃ v : Nat, m = v := ⟨m.toNat, by omega⟩
  have lu := Lib.itoa_length_le u hn0 hn1
  have lv := Lib.itoa_length_le v hm0 hm1
  have ht1 : Tab w.heap.size w := htab
  have HT : Hid (Tab w.heap.size w) := htab
  clear htab ht1
  go_enter Tryd.func6, Tryd.ntmps6
  go_wp2_with fail
  refine (zzAppendInt_any w.heap.size 0 u hn0 hn1 (.slice none 0 0) [] w (World.ownsRow_nil _ _ _ _) (Nat.le_refl _) (by omega) HT.out).mono ?_
  rintro e w1 ⟨v1, rfl, hown1, hb1⟩
  obtain ⟨r1, c1, hv1, R1, _⟩ := Row.of_owns hown1
  subst hv1
  rw [List.nil_append, intText_nonneg] at R1 ⊢
  have HL1 : Hid ((enc u).length ≤ 30) := by show (enc u).length ≤ 30; rw [← intText_nonneg]; simp [intText]; omega
  clear hown1
  go_wp2_with fail
  refine (zzAppendInt_any w1.heap.size 0 v hm0 hm1 (.slice none 0 0) [] w1 (World.ownsRow_nil _ _ _ _) (Nat.le_refl _) (by omega) ((HT.out.on hb1).anew)).mono ?_
  rintro e w2 ⟨v2, rfl, hown2, hb2⟩
  obtain ⟨r2, c2, hv2, R2, _⟩ := Row.of_owns hown2
  subst hv2
  rw [List.nil_append, intText_nonneg] at R2 ⊢
  have HL2 : Hid ((enc v).length ≤ 30) := by show (enc v).length ≤ 30; rw [← intText_nonneg]; simp [intText]; omega
  clear hown2
  have R1' := R1.below hb2 (Nat.le_refl _)
  have hbb := hb1.trans (hb2.mono hb1.size)
  clear R1 hb1 hb2 lu lv
  have Q1 : Hid (decide (enc u = enc v) = decide (u = v)) := by show decide (enc u = enc v) = decide (u = v); simp [enc_inj]
  have Q2 : Hid (slex (enc u) (enc v) = decide (u < v)) := slex_enc u v
  go_wp2_with fail
  refine (bytesEqual_any r1 r2 c1 c2 (enc u) (enc v) w2 (Nat.le_trans HL1.out (by omega)) (Nat.le_trans HL2.out (by omega)) R1' R2).mono ?_
  rintro e w3 ⟨rfl, nq, rfl⟩
  rw [Q1.out]
  have R1q := R1'.drewN nq
  have R2q := R2.drewN nq
  clear R1' R2
  by_cases e : u = v
  · subst e
    rw [decide_eq_true rfl]
    go_wp2_with fail
    refine (shortlexLess_any r1 r2 c1 c2 (enc u) (enc u) _ (Nat.le_trans HL1.out (by omega)) (Nat.le_trans HL2.out (by omega)) R1q R2q).mono ?_
    rintro e w4 ⟨rfl, nq', rfl⟩
    rw [Q2.out]
    have hbw := below_drewN hbb (nq + nq')
    go_wp2
    go_ret
    exact ⟨by simp, hbw⟩
  · rw [decide_eq_false e]
    have he : ((u : Int) == (v : Int)) = false := by simp; omega
    go_wp2_with fail
    refine (shortlexLess_any r1 r2 c1 c2 (enc u) (enc v) _ (Nat.le_trans HL1.out (by omega)) (Nat.le_trans HL2.out (by omega)) R1q R2q).mono ?_
    rintro e w4 ⟨rfl, nq', rfl⟩
    rw [Q2.out]
    have hbw := below_drewN hbb (nq + nq')
    go_wp2
    go_ret
    exact ⟨by simp, hbw⟩
end Go.Proofs.Qxb6602199aDoor
