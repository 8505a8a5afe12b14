import Derived.Test.Qxb6602245aClone
namespace Go.Proofs.Qxb6602245a
open Go.RowKit

theorem up64 {a : Nat} (h : a < 4294967296) : a < 18446744073709551616 := Nat.lt_of_lt_of_le h (by omega)
set_option maxRecDepth 100000 in
theorem or64 (V x : Nat) (h : V * 256 + x < 4294967296) (hx : x < 256) : bits .or .u64 ((V : Int) * 256) (x : Int) = ((V * 256 + x : Nat) : Int) := by
  have e : (V : Int) * 256 = ((V * 256 : Nat) : Int) := by omega
  have h1 : V * 256 < 4294967296 := by omega
  have h2 : x < 4294967296 := by omega
  rw [e, u64_or_nat (V * 256) x (up64 h1) (up64 h2), nat_join 8 _ _ (by omega) hx]
set_option maxRecDepth 100000 in
theorem or_hi (V x : Nat) (hV : V < 4294967296) (hx : x < 4294967296) : bits .or .u64 (((V : Int) * 4294967296)) (x : Int) = ((V * 4294967296 + x : Nat) : Int) := by
  have h1 : V * 4294967296 < 18446744073709551616 := by omega
  have e : ((V : Int) * 4294967296) = ((V * 4294967296 : Nat) : Int) := by omega
  rw [e, u64_or_nat (V * 4294967296) x h1 (up64 hx), nat_join 32 _ _ (by omega) hx]
theorem shl_pow (x m : Nat) (hx : x < 4294967296) (hm : m ≤ 4) : IntKind.u64.wrap ((x : Int) * 2 ^ (8 * m)) = ((x * 256 ^ m : Nat) : Int) := by
  rw [IntKind.wrap_u64]
  rcases (show m = 0 ∨ m = 1 ∨ m = 2 ∨ m = 3 ∨ m = 4 by omega) with rfl | rfl | rfl | rfl | rfl <;> simp <;> omega
theorem ones_pow (m : Nat) (hm : m ≤ 4) : IntKind.u64.wrap (IntKind.u64.wrap (2 ^ (8 * m)) - 1) = ((256 ^ m - 1 : Nat) : Int) := by
  rw [IntKind.wrap_u64, IntKind.wrap_u64]
  rcases (show m = 0 ∨ m = 1 ∨ m = 2 ∨ m = 3 ∨ m = 4 by omega) with rfl | rfl | rfl | rfl | rfl <;> simp
theorem pow_le (m : Nat) (hm : m ≤ 4) : 256 ^ m ≤ 4294967296 ∧ 0 < 256 ^ m := by
  rcases (show m = 0 ∨ m = 1 ∨ m = 2 ∨ m = 3 ∨ m = 4 by omega) with rfl | rfl | rfl | rfl | rfl <;> simp
set_option maxRecDepth 100000 in
theorem fin_low {lo V l2 m : Nat} (hlo : lo < 4294967296) (hm : m ≤ 4) (hV : V < 4294967296) (hl : l2 < 4294967296) (h : lo * 256 ^ m ≤ V * 4294967296 + l2) :
    IntKind.u64.wrap ((lo : Int) * 2 ^ (8 * m)) ≤ bits .or .u64 (((V : Int) * 4294967296)) (l2 : Int) := by
  rw [shl_pow lo m hlo hm, or_hi V l2 hV hl]
  exact Int.ofNat_le.2 h
set_option maxRecDepth 100000 in
theorem fin_high {hi V h2 m : Nat} (hhi : hi < 4294967296) (hm : m ≤ 4) (hV : V < 4294967296) (hl : h2 < 4294967296) (h : V * 4294967296 + h2 + 1 ≤ (hi + 1) * 256 ^ m) :
    bits .or .u64 (((V : Int) * 4294967296)) (h2 : Int) ≤ bits .or .u64 (IntKind.u64.wrap ((hi : Int) * 2 ^ (8 * m))) (IntKind.u64.wrap (IntKind.u64.wrap (2 ^ (8 * m)) - 1)) := by
  have hp := pow_le m hm
  have hb : hi * 256 ^ m ≤ 4294967295 * 4294967296 := Nat.mul_le_mul (by omega) hp.1
  rw [shl_pow hi m hhi hm, ones_pow m hm, or_hi V h2 hV hl, u64_or_nat _ _ (by omega) (by omega), nat_join (8 * m) _ _ ?_ ?_]
  · rw [Nat.add_mul, Nat.one_mul] at h
    have key : ∀ A P C : Nat, 0 < P → C + 1 ≤ A + P → C ≤ A + (P - 1) := by omega
    exact Int.ofNat_le.2 (key _ _ _ hp.2 h)
  · rw [show (2 : Nat) ^ (8 * m) = 256 ^ m by rw [Nat.pow_mul]]
    exact Nat.mul_mod_left _ _
  · rw [show (2 : Nat) ^ (8 * m) = 256 ^ m by rw [Nat.pow_mul]]
    omega

set_option maxHeartbeats 1600000 in
set_option maxRecDepth 100000 in
theorem narrow_any (lo hi p : Nat) (y : Int) (ao : Option Addr) (n cap : Nat) (l : List UInt8) (w : World) (hlo : lo < 4294967296) (hh : hi < 4294967296) (hp32 : p < 4294967296) (hn : l.length = n) (hm : n ≤ maxLen) (hrow : Row w ao (Lib.byteCells l)) (hnil : ao = none → n = 0 ∧ cap = 0) :
    Calls Try.prog 7 #[.int .u32 lo, .int .u32 hi, .slice ao n cap, .int .i64 y, .int .u32 p] w fun e w' => e = .returned (.bool true) ∧ Below w.heap.size w w' := by
  have HZ : Hid (Calls Try.prog 19 #[.int .u32 lo, .int .u32 hi, .slice ao n cap, .int .i64 y, .int .u32 p] w fun e w' => SomeBool e ∧ w' = w) := zzBytesNarrow_any lo hi ao n cap y p w hm
  unfold maxLen at hm
  by_cases g : 1048576 < n
  · go_enter Try.func7, Try.ntmps7
    go_wp2_with fail
    refine HZ.out.mono ?_
    rintro e w' ⟨⟨b, rfl⟩, rfl⟩
    cases b
    · go_wp2
      go_ret
      exact ⟨rfl, Below.refl _ _⟩
    · go_wp2
      go_ret
      exact ⟨rfl, Below.refl _ _⟩
  by_cases glh : ¬ lo < hi
  · go_enter Try.func7, Try.ntmps7
    go_wp2_with fail
    refine HZ.out.mono ?_
    rintro e w' ⟨⟨b, rfl⟩, rfl⟩
    cases b
    · go_wp2
      go_ret
      exact ⟨rfl, Below.refl _ _⟩
    · go_wp2
      go_ret
      exact ⟨rfl, Below.refl _ _⟩
  by_cases gp : 65535 < p
  · go_enter Try.func7, Try.ntmps7
    go_wp2_with fail
    refine HZ.out.mono ?_
    rintro e w' ⟨⟨b, rfl⟩, rfl⟩
    cases b
    · go_wp2
      go_ret
      exact ⟨rfl, Below.refl _ _⟩
    · go_wp2
      go_ret
      exact ⟨rfl, Below.refl _ _⟩
  have hlh : lo < hi := by omega
  have hp : p ≤ 65535 := by omega
  clear glh gp
  have HN : Hid (l.length = n) := hn
  have HO : Hid (ao = none → n = 0 ∧ cap = 0) := hnil
  clear hn hnil
  go_enter Try.func7, Try.ntmps7
  go_wp2_with fail
  refine HZ.out.mono ?_
  rintro e w' ⟨⟨b, rfl⟩, rfl⟩
  cases b
  · go_wp2
    go_ret
    exact ⟨rfl, Below.refl _ _⟩
  go_wp2_with fail
  refine (cloneU8_any ao n cap l _ HN.out (by omega) hrow HO.out).mono ?_
  rintro e w1 ⟨r, rfl, hrn, hih, R1, b1⟩
  clear HZ hrow HO
  go_wp2_with fail
  refine (cloneU8_any r n n l w1 HN.out (by omega) R1 (fun h => ⟨hrn h, hrn h⟩)).mono ?_
  rintro e w2 ⟨rb, rfl, hrnb, hihb, R2, b2⟩
  have ho : Outs w2.heap.size w2 (.slice r n n) l := by
    have := outs_of_clone (l := l) (by rw [HN.out]; exact hrn) hih R1 b2
    rwa [HN.out] at this
  have hbw2 := b1.trans (b2.mono b1.size)
  have HRN : Hid (NilOk r n) := hrn
  clear R1 b1 b2 hrn hih hrnb hihb
  go_wp2_with fail
  refine (zzEncode_any w2.heap.size lo hi p y _ l w2 hlh hh hp (Nat.le_refl _) ho (by rw [HN.out]; omega)).mono ?_
  rintro e w3 ⟨v', rfl, ho3, b3⟩
  have R3 := R2.below b3 (Nat.le_refl _)
  have hbel := hbw2.trans (b3.mono hbw2.size)
  clear R2 b3 hbw2 ho
  generalize hR : Coder.enc lo hi p (y != 0) = R at ho3 ⊢
  have HR : Hid (Coder.enc lo hi p (y != 0) = R) := hR
  clear hR
  obtain ⟨bs, l2, h2⟩ := R
  dsimp only at ho3 ⊢
  obtain ⟨m, hm'⟩ : ∃ m, m = bs.length := ⟨_, rfl⟩
  have HM : Hid (m = bs.length) := hm'
  obtain ⟨ro, co, hv, RO⟩ := ho3.row
  have hlen : (l ++ bs).length = n + m := by rw [List.length_append, HN.out, hm']
  rw [hlen] at hv
  subst hv
  clear hlen hm' ho3
  have hm4 : m ≤ 4 := by
    have := Coder.norm_len 4 (Coder.lo1 lo hi p (y != 0)) (Coder.hi1 lo hi p (y != 0))
    have e := HR.out
    unfold Coder.enc at e
    rw [e] at this
    rw [HM.out]
    exact this
  have EF := Coder.enc_facts hlh hh hp HR.out
  obtain ⟨_, q1, q2, q3, q4, q5⟩ := EF
  have HQ4 : Hid (lo * 256 ^ bs.length ≤ Coder.num bs * 4294967296 + l2) := q4
  have HQ5 : Hid (Coder.num bs * 4294967296 + h2 + 1 ≤ (hi + 1) * 256 ^ bs.length) := q5
  obtain ⟨X, hX⟩ : ∃ X : Int, X = ((h2 ^^^ l2 : Nat) : Int) := ⟨_, rfl⟩
  have hxo : bits .xor .u32 (h2 : Int) (l2 : Int) = X := by rw [hX]; exact u32_xor_nat h2 l2 q2 (by omega)
  have hXl : ¬ X < 16777216 := fun h => q3 (by omega)
  clear q3 q4 q5 hX
  go_wp2
  go_loopw [15] (fun ii wr => ∃ k : Nat, k ≤ n ∧ ii = .int .i64 k ∧ ∃ nq, wr = w3.drewN nq) (fun ii _ => n - (intOf ii).toNat)
  case atStart => exact ⟨0, Nat.zero_le _, rfl, 0, rfl⟩
  case round =>
    obtain ⟨k, hk, rfl, nq, rfl⟩ := hrel
    by_cases hlt : k < n
    · obtain ⟨c, hc⟩ : ∃ c, l[k]? = some c := ⟨l[k]'(by rw [HN.out]; exact hlt), List.getElem?_eq_getElem _⟩
      obtain ⟨bb, oo, e1⟩ := R3.shape (by rw [HN.out]; omega)
      obtain ⟨bo, oof, e2⟩ := RO.shape (by rw [List.length_append, HN.out]; omega)
      subst e1 e2
      have x1 := R3.byte hc
      have x2 := RO.byte (k := k) (c := c) (by rw [List.getElem?_append_left (by rw [HN.out]; exact hlt)]; exact hc)
      clear hc
      go_wp2
      go_quiet (fail)
      go_wp2
      go_roundw
      case rel => exact ⟨k + 1, by omega, by go_num, _, rfl⟩
      case measure => simp [intOf]; omega
    · go_wp2
      go_loopw [17, 18] (fun bv ii wr => ∃ (j V : Nat), j ≤ m ∧ ii = .int .i64 j ∧ bv = .int .u64 V ∧ Hid (V = Coder.num (bs.take j)) ∧ wr = w3.drewN nq) (fun _ ii _ => m - (intOf ii).toNat)
      case atStart => exact ⟨0, 0, Nat.zero_le _, rfl, rfl, rfl, rfl⟩
      case round =>
        obtain ⟨j, V, hj, rfl, rfl, HV, rfl⟩ := hrel
        by_cases hjl : j < m
        · obtain ⟨c, hc⟩ : ∃ c, bs[j]? = some c := ⟨bs[j]'(by rw [← HM.out]; exact hjl), List.getElem?_eq_getElem _⟩
          obtain ⟨bo, oof, e2⟩ := RO.shape (by rw [List.length_append, HN.out, ← HM.out]; omega)
          subst e2
          have x2 := RO.byte (k := n + j) (c := c) (by rw [List.getElem?_append_right (by rw [HN.out]; omega), HN.out]; simpa using hc)
          have hs := Coder.num_take_succ bs j c hc
          have hV1 := Coder.num_take_lt bs (j + 1) (by omega)
          rw [hs, ← HV.out] at hV1
          rw [← HV.out] at hs
          have HS : Hid (Coder.num (bs.take (j + 1)) = V * 256 + c.toNat) := hs
          have hcl := c.toNat_lt
          obtain ⟨x, hx⟩ : ∃ x, x = c.toNat := ⟨_, rfl⟩
          rw [← hx] at x2 hV1 HS hcl
          have hor : bits .or .u64 ((V : Int) * 256) (x : Int) = ((V * 256 + x : Nat) : Int) := or64 V x hV1 hcl
          clear hc hs hx
          go_wp2
          go_roundw
          case rel => exact ⟨j + 1, V * 256 + x, by omega, by go_num, by go_num, HS.out.symm, by trivial⟩
          case measure => simp [intOf]; omega
        · have hje : j = m := by omega
          subst hje
          have hVn : V = Coder.num bs := by
            have := HV.out
            rwa [List.take_of_length_le (by rw [← HM.out]; exact Nat.le_refl _)] at this
          have hVl : V < 4294967296 := by
            have := Coder.num_take_lt bs j hm4
            rwa [← HV.out] at this
          have T1 := fin_low (l2 := l2) hlo hm4 hVl (by omega) (by rw [hVn, HM.out]; exact HQ4.out)
          have T2 := fin_high (h2 := h2) hh hm4 hVl q2 (by rw [hVn, HM.out]; exact HQ5.out)
          clear hVn
          go_wp2
          go_ret
          exact ⟨by simp, below_drewN hbel _⟩
end Go.Proofs.Qxb6602245a
