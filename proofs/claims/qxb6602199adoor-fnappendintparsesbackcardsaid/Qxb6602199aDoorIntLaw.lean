import Derived.Test.Qxb6602199aDoorClone
namespace Go.Proofs.Qxb6602199aDoor
open Go.RowKit

theorem text_neg (u : Nat) (h : 0 < u) : intText (-(u : Int)) = 105 :: 45 :: (Lib.decDigits u ++ [101]) := by
  unfold intText
  rw [Lib.itoa_neg u h]
  rfl
theorem text_pos (u : Nat) : intText (u : Int) = 105 :: (Lib.decDigits u ++ [101]) := by
  unfold intText
  rw [Lib.itoa_nonneg]

set_option maxHeartbeats 1600000 in
set_option maxRecDepth 100000 in
theorem int_any (ao : Option Addr) (n cap : Nat) (l : List UInt8) (i : Int) (w : World) (hn : l.length = n) (hm : n ≤ maxLen) (hrow : Row w ao (Lib.byteCells l)) (hnil : ao = none → n = 0 ∧ cap = 0)
    (h0 : -9223372036854775808 ≤ i) (h1 : i ≤ 9223372036854775807) (htab : Tab w.heap.size w) :
    Calls Tryd.prog 5 #[.slice ao n cap, .int .i64 i] w fun e w' => e = .returned (.bool true) ∧ Below w.heap.size w w' := by
  have HZ : Hid (Calls Tryd.prog 12 #[.slice ao n cap, .int .i64 i] w fun e w' => SomeBool e ∧ w' = w) := zzBytesInt_any ao n cap i w hm
  unfold maxLen at hm
  by_cases g : 1048576 < n
  · go_enter Tryd.func5, Tryd.ntmps5
    go_wp2_with fail
    refine HZ.out.mono ?_
    rintro e w' ⟨⟨b, rfl⟩, rfl⟩
    cases b
    · go_wp2
      go_ret
      exact ⟨rfl, Below.refl _ _⟩
    · go_wp2
      go_ret
      exact ⟨rfl, Below.refl _ _⟩
  have HN : Hid (l.length = n) := hn
  have HO : Hid (ao = none → n = 0 ∧ cap = 0) := hnil
  have HT : Hid (Tab w.heap.size w) := htab
  clear hn hnil htab
  go_enter Tryd.func5, Tryd.ntmps5
  go_wp2_with fail
  refine HZ.out.mono ?_
  rintro e w' ⟨⟨b, rfl⟩, rfl⟩
  cases b
  · go_wp2
    go_ret
    exact ⟨rfl, Below.refl _ _⟩
  go_wp2_with fail
  refine (cloneBytes_any ao n cap l _ HN.out (by omega) hrow HO.out).mono ?_
  rintro e w1 ⟨r, rfl, hrn, R1, b1⟩
  clear HZ hrow HO
  go_wp2_with fail
  refine (zzAppendInt_full n i h0 h1 r l w1 HN.out R1 hrn (by omega) ((HT.out.on b1).anew)).mono ?_
  rintro e w2 ⟨v2, rfl, hown2, b2⟩
  have R2 := R1.below b2 (Nat.le_refl _)
  have hbel := b1.trans (b2.mono b1.size)
  clear R1 b1 b2 HT
  obtain ⟨T, hT⟩ : ∃ T, T = intText i := ⟨_, rfl⟩
  rw [← hT] at hown2
  have HI : Hid (T = intText i) := hT
  clear hT
  have hTl : T.length ≤ 30 := by rw [HI.out]; have := Lib.itoa_length_le i h0 h1; simp [intText]; omega
  have hT3 : 2 ≤ T.length := by rw [HI.out]; simp [intText]
  obtain ⟨m, hm'⟩ : ∃ m, m = T.length := ⟨_, rfl⟩
  have HM : Hid (m = T.length) := hm'
  rw [← hm'] at hTl hT3
  have hlen : (l ++ T).length = n + m := by rw [List.length_append, HN.out, hm']
  rw [hlen] at hown2
  clear hm' hlen
  obtain ⟨g1, cp, hv, hcp1, hcp2⟩ : ∃ g1 cp, v2 = .slice (some ⟨g1, 0, none⟩) (n + m) cp ∧ n + m ≤ cp ∧ cp ≤ 9223372036854775807 := by
    rcases hown2.2 with ⟨_, h⟩ | ⟨g, cap, cur, e, _, _, h1, h2, _⟩
    · omega
    · exact ⟨g, cap, e, h1, h2⟩
  subst hv
  have O2 : Row w2 (some ⟨g1, 0, none⟩) (Lib.byteCells (l ++ T)) := by
    obtain ⟨r, c, e, h, _⟩ := Row.of_owns hown2
    cases e
    exact h
  clear hown2
  go_wp2
  go_loopw [6] (fun ii wr => ∃ k : Nat, k ≤ n ∧ ii = .int .i64 k ∧ ∃ nq, wr = w2.drewN nq) (fun ii _ => n - (intOf ii).toNat)
  case atStart => exact ⟨0, Nat.zero_le _, rfl, 0, rfl⟩
  case round =>
    obtain ⟨k, hk, rfl, nq, rfl⟩ := hrel
    by_cases hlt : k < n
    · obtain ⟨c, hc⟩ : ∃ c, l[k]? = some c := ⟨l[k]'(by rw [HN.out]; exact hlt), List.getElem?_eq_getElem _⟩
      obtain ⟨bb, oo, e1⟩ := R2.shape (by rw [HN.out]; omega)
      subst e1
      have x1 := R2.byte hc
      have x2 := O2.byte (k := k) (c := c) (by rw [List.getElem?_append_left (by rw [HN.out]; exact hlt)]; exact hc)
      rw [Nat.zero_add] at x2
      clear hc
      go_wp2
      go_quiet (fail)
      go_wp2
      go_roundw
      case rel => exact ⟨k + 1, by omega, by go_num, _, rfl⟩
      case measure => simp [intOf]; omega
    · have hk' : k = n := by omega
      subst hk'
      have hT : ∀ j c, T[j]? = some c → w2.cell? ⟨g1, k + j, none⟩ = some (.int .u8 c.toNat) := fun j c hj => by
        have := O2.byte (k := k + j) (c := c) (by rw [List.getElem?_append_right (by rw [HN.out]; omega), HN.out]; simpa using hj)
        rwa [Nat.zero_add] at this
      clear O2 R2 hrn
      by_cases hi : i < 0
      · obtain ⟨u, rfl⟩ : ∃ u : Nat, i = -(u : Int) := ⟨(-i).toNat, by omega⟩
        have hu0 : 0 < u := by omega
        obtain ⟨D, hD⟩ : ∃ D, D = Lib.decDigits u := ⟨_, rfl⟩
        have HTD : Hid (T = 105 :: 45 :: (D ++ [101])) := by rw [hD]; exact HI.out.trans (text_neg u hu0)
        have HD : Hid (D = Lib.decDigits u) := hD
        clear hD
        obtain ⟨q, hq⟩ : ∃ q, D.length = q + 1 := ⟨D.length - 1, by have := dec_pos u; rw [← HD.out] at this; omega⟩
        have HQ : Hid (D.length = q + 1) := hq
        have hq19 : q + 1 ≤ 19 := by rw [← hq, HD.out]; exact dec_len19 u (by omega)
        have hmq : m = q + 4 := by rw [HM.out, HTD.out]; simp [hq]
        subst hmq
        clear hq
        have t0 : w2.cell? ⟨g1, k, none⟩ = some (.int .u8 105) := hT 0 105 (by rw [HTD.out]; rfl)
        have t1 : w2.cell? ⟨g1, k + 1, none⟩ = some (.int .u8 45) := hT 1 45 (by rw [HTD.out]; rfl)
        have te : w2.cell? ⟨g1, k + (q + 3), none⟩ = some (.int .u8 101) := hT (q + 3) 101 (by rw [HTD.out, List.getElem?_cons_succ, List.getElem?_cons_succ, List.getElem?_append_right (by rw [HQ.out]; exact Nat.le_refl _), HQ.out]; simp)
        have hd : ∀ j c, D[j]? = some c → w2.cell? ⟨g1, k + (2 + j), none⟩ = some (.int .u8 c.toNat) := fun j c hj => hT (2 + j) c (by rw [HTD.out, Nat.add_comm, List.getElem?_cons_succ, List.getElem?_cons_succ, List.getElem?_append_left (List.getElem?_eq_some_iff.1 hj).1]; exact hj)
        have HX : Hid (∀ j c, D[j]? = some c → w2.cell? ⟨g1, k + (2 + j), none⟩ = some (.int .u8 c.toNat)) := hd
        clear hT
        obtain ⟨c0, hc0⟩ : ∃ c0, D[0]? = some c0 := ⟨D[0]'(by rw [HQ.out]; omega), List.getElem?_eq_getElem _⟩
        have d0 := hd 0 c0 hc0
        clear hd
        rw [show k + (2 + 0) = k + 1 + 1 from rfl] at d0
        have hdig : isDig c0 := dec_digs u c0 (by rw [← HD.out]; exact List.mem_of_getElem? hc0)
        have hlead : c0.toNat ≠ 48 := fun h => by
          obtain ⟨c, r, e, hc, _⟩ := dec_head u hu0
          rw [HD.out, e] at hc0
          simp at hc0
          subst hc0
          omega
        clear hc0
        obtain ⟨x0, hx0⟩ : ∃ x0, x0 = c0.toNat := ⟨_, rfl⟩
        unfold isDig at hdig
        rw [← hx0] at d0 hdig hlead
        clear hx0
        obtain ⟨x1, x2⟩ := hdig
        have hm45 : ((x0 : Int) == 45) = false := by rw [beq_eq_false_iff_ne]; omega
        have hfin : val D = u := by rw [HD.out]; exact val_dec u
        have HF : Hid (val D = u) := hfin
        clear hfin
        have HDG : Hid (∀ c ∈ D, isDig c) := by intro c hc; rw [HD.out] at hc; exact dec_digs u c hc
        have hq0 : (((q : Int) + 1) == 0) = false := by rw [beq_eq_false_iff_ne]; omega
        have z1 : ((x0 : Int) == 48) = false := by rw [beq_eq_false_iff_ne]; omega
        clear hlead
        all_goals
          go_wp2
          rw [show q + 4 - 1 - 1 = q + 2 from rfl]
          go_loopw [10, 11] (fun mg ii wr => ∃ (j V : Nat), j ≤ q + 1 ∧ ii = .int .i64 j ∧ mg = .int .u64 V ∧ Hid (V = val (D.take j)) ∧ wr = w2.drewN nq) (fun _ ii _ => q + 1 - (intOf ii).toNat)
          case atStart => exact ⟨0, 0, Nat.zero_le _, rfl, rfl, rfl, rfl⟩
          case round =>
            obtain ⟨j, V, hj, rfl, rfl, HV, rfl⟩ := hrel
            by_cases hjl : j < q + 1
            · obtain ⟨c, hc⟩ : ∃ c, D[j]? = some c := ⟨D[j]'(by rw [HQ.out]; exact hjl), List.getElem?_eq_getElem _⟩
              have dj := HX.out j c hc
              rw [show k + (2 + j) = k + 1 + 1 + j by omega] at dj
              have hdg := HDG.out c (List.mem_of_getElem? hc)
              have hvs := val_take_succ D j c hc
              have hvl : val (D.take (j + 1)) ≤ 9223372036854775808 := by have := val_take_le D (j + 1); rw [HF.out] at this; omega
              clear hc
              unfold isDig at hdg
              obtain ⟨x, hx⟩ : ∃ x, x = c.toNat := ⟨_, rfl⟩
              rw [← hx] at dj hdg hvs
              clear hx
              rw [← HV.out] at hvs
              obtain ⟨V', hV'⟩ : ∃ V', V' = val (D.take (j + 1)) := ⟨_, rfl⟩
              rw [← hV'] at hvs hvl
              have HV' : Hid (V' = val (D.take (j + 1))) := hV'
              have HS : Hid (V' = V * 10 + (x - 48)) := hvs
              have hvb : V * 10 + (x - 48) ≤ 9223372036854775808 := by omega
              clear hV' hvs hvl
              obtain ⟨y1, y2⟩ := hdg
              go_wp2
              go_roundw
              case rel => exact ⟨j + 1, V', by omega, by go_num, by rw [HS.out]; go_num, HV', by trivial⟩
              case measure => simp [intOf]; omega
            · have hje : j = q + 1 := by omega
              subst hje
              have hVu : V = u := by
                have := HV.out
                rw [List.take_of_length_le (by rw [HQ.out]; exact Nat.le_refl _), HF.out] at this
                exact this
              subst hVu
              go_wp2
              go_ret
              exact ⟨by simp; rw [IntKind.wrap_u64, IntKind.wrap_u64]; omega, below_drewN hbel _⟩
      · obtain ⟨u, rfl⟩ : ∃ u : Nat, i = u := ⟨i.toNat, by omega⟩
        obtain ⟨D, hD⟩ : ∃ D, D = Lib.decDigits u := ⟨_, rfl⟩
        have HTD : Hid (T = 105 :: (D ++ [101])) := by rw [hD]; exact HI.out.trans (text_pos u)
        have HD : Hid (D = Lib.decDigits u) := hD
        clear hD
        obtain ⟨q, hq⟩ : ∃ q, D.length = q + 1 := ⟨D.length - 1, by have := dec_pos u; rw [← HD.out] at this; omega⟩
        have HQ : Hid (D.length = q + 1) := hq
        have hq19 : q + 1 ≤ 19 := by rw [← hq, HD.out]; exact dec_len19 u (by omega)
        have hmq : m = q + 3 := by rw [HM.out, HTD.out]; simp [hq]
        subst hmq
        clear hq
        have t0 : w2.cell? ⟨g1, k, none⟩ = some (.int .u8 105) := hT 0 105 (by rw [HTD.out]; rfl)
        have te : w2.cell? ⟨g1, k + (q + 2), none⟩ = some (.int .u8 101) := hT (q + 2) 101 (by rw [HTD.out, List.getElem?_cons_succ, List.getElem?_append_right (by rw [HQ.out]; exact Nat.le_refl _), HQ.out]; simp)
        have hd : ∀ j c, D[j]? = some c → w2.cell? ⟨g1, k + (1 + j), none⟩ = some (.int .u8 c.toNat) := fun j c hj => hT (1 + j) c (by rw [HTD.out, Nat.add_comm, List.getElem?_cons_succ, List.getElem?_append_left (List.getElem?_eq_some_iff.1 hj).1]; exact hj)
        have HX : Hid (∀ j c, D[j]? = some c → w2.cell? ⟨g1, k + (1 + j), none⟩ = some (.int .u8 c.toNat)) := hd
        clear hT
        obtain ⟨c0, hc0⟩ : ∃ c0, D[0]? = some c0 := ⟨D[0]'(by rw [HQ.out]; omega), List.getElem?_eq_getElem _⟩
        have d0 := hd 0 c0 hc0
        clear hd
        rw [show k + (1 + 0) = k + 1 from rfl] at d0
        have hdig : isDig c0 := dec_digs u c0 (by rw [← HD.out]; exact List.mem_of_getElem? hc0)
        have hlead : c0.toNat = 48 → q = 0 := fun h => by
          by_cases hu : u = 0
          · subst hu
            have := HQ.out
            rw [HD.out, dec_zero] at this
            simp at this
            omega
          · obtain ⟨c, r, e, hc, _⟩ := dec_head u (by omega)
            rw [HD.out, e] at hc0
            simp at hc0
            subst hc0
            omega
        clear hc0
        obtain ⟨x0, hx0⟩ : ∃ x0, x0 = c0.toNat := ⟨_, rfl⟩
        unfold isDig at hdig
        rw [← hx0] at d0 hdig hlead
        clear hx0
        obtain ⟨x1, x2⟩ := hdig
        have hm45 : ((x0 : Int) == 45) = false := by rw [beq_eq_false_iff_ne]; omega
        have hfin : val D = u := by rw [HD.out]; exact val_dec u
        have HF : Hid (val D = u) := hfin
        clear hfin
        have HDG : Hid (∀ c ∈ D, isDig c) := by intro c hc; rw [HD.out] at hc; exact dec_digs u c hc
        have hq0 : (((q : Int) + 1) == 0) = false := by rw [beq_eq_false_iff_ne]; omega
        have hz : (((x0 : Int) == 48) = true ∧ q ≤ 0) ∨ ((x0 : Int) == 48) = false := by
          by_cases z : x0 = 48
          · exact .inl ⟨by rw [beq_iff_eq]; omega, by have := hlead z; omega⟩
          · exact .inr (by rw [beq_eq_false_iff_ne]; omega)
        clear hlead
        rcases hz with ⟨z1, z2⟩ | z1
        all_goals
          go_wp2
          go_loopw [10, 11] (fun mg ii wr => ∃ (j V : Nat), j ≤ q + 1 ∧ ii = .int .i64 j ∧ mg = .int .u64 V ∧ Hid (V = val (D.take j)) ∧ wr = w2.drewN nq) (fun _ ii _ => q + 1 - (intOf ii).toNat)
          case atStart => exact ⟨0, 0, Nat.zero_le _, rfl, rfl, rfl, rfl⟩
          case round =>
            obtain ⟨j, V, hj, rfl, rfl, HV, rfl⟩ := hrel
            by_cases hjl : j < q + 1
            · obtain ⟨c, hc⟩ : ∃ c, D[j]? = some c := ⟨D[j]'(by rw [HQ.out]; exact hjl), List.getElem?_eq_getElem _⟩
              have dj := HX.out j c hc
              rw [← Nat.add_assoc] at dj
              have hdg := HDG.out c (List.mem_of_getElem? hc)
              have hvs := val_take_succ D j c hc
              have hvl : val (D.take (j + 1)) ≤ 9223372036854775807 := by have := val_take_le D (j + 1); rw [HF.out] at this; omega
              clear hc
              unfold isDig at hdg
              obtain ⟨x, hx⟩ : ∃ x, x = c.toNat := ⟨_, rfl⟩
              rw [← hx] at dj hdg hvs
              clear hx
              rw [← HV.out] at hvs
              obtain ⟨V', hV'⟩ : ∃ V', V' = val (D.take (j + 1)) := ⟨_, rfl⟩
              rw [← hV'] at hvs hvl
              have HV' : Hid (V' = val (D.take (j + 1))) := hV'
              have HS : Hid (V' = V * 10 + (x - 48)) := hvs
              have hvb : V * 10 + (x - 48) ≤ 9223372036854775807 := by omega
              clear hV' hvs hvl
              obtain ⟨y1, y2⟩ := hdg
              go_wp2
              go_roundw
              case rel => exact ⟨j + 1, V', by omega, by go_num, by rw [HS.out]; go_num, HV', by trivial⟩
              case measure => simp [intOf]; omega
            · have hje : j = q + 1 := by omega
              subst hje
              have hVu : V = u := by
                have := HV.out
                rw [List.take_of_length_le (by rw [HQ.out]; exact Nat.le_refl _), HF.out] at this
                exact this
              subst hVu
              go_wp2
              go_ret
              exact ⟨by simp, below_drewN hbel _⟩
end Go.Proofs.Qxb6602199aDoor
