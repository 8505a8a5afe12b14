import Derived.Test.Qxb6602199aDoorStrFull
namespace Go.Proofs.Qxb6602199aDoor
open Go.RowKit

set_option maxHeartbeats 1600000 in
set_option maxRecDepth 100000 in
theorem str_any (ao : Option Addr) (n cap : Nat) (l : List UInt8) (s : ByteArray) (w : World) (hn : l.length = n) (hm : n ≤ maxLen) (hrow : Row w ao (Lib.byteCells l)) (hnil : ao = none → n = 0 ∧ cap = 0)
    (hs : s.size ≤ maxLen) (htab : Tab w.heap.size w) :
    Calls Tryd.prog 3 #[.slice ao n cap, .string s] w fun e w' => e = .returned (.bool true) ∧ Below w.heap.size w w' := by
  have HZ : Hid (Calls Tryd.prog 7 #[.slice ao n cap, .string s] w fun e w' => SomeBool e ∧ w' = w) := zzBytesStr_any ao n cap s w hm hs
  unfold maxLen at hm hs
  by_cases g : 524288 < n
  · go_enter Tryd.func3, Tryd.ntmps3
    go_wp2_with fail
    refine HZ.out.mono ?_
    rintro e w' ⟨⟨b, rfl⟩, rfl⟩
    cases b
    · go_wp2
      go_ret
      exact ⟨rfl, Below.refl _ _⟩
    · go_wp2
      go_ret
      exact ⟨rfl, Below.refl _ _⟩
  by_cases gs : 524288 < s.size
  · go_enter Tryd.func3, Tryd.ntmps3
    go_wp2_with fail
    refine HZ.out.mono ?_
    rintro e w' ⟨⟨b, rfl⟩, rfl⟩
    cases b
    · go_wp2
      go_ret
      exact ⟨rfl, Below.refl _ _⟩
    · go_wp2
      go_ret
      exact ⟨rfl, Below.refl _ _⟩
  have HN : Hid (l.length = n) := hn
  have HO : Hid (ao = none → n = 0 ∧ cap = 0) := hnil
  have HT : Hid (Tab w.heap.size w) := htab
  clear hn hnil htab
  go_enter Tryd.func3, Tryd.ntmps3
  go_wp2_with fail
  refine HZ.out.mono ?_
  rintro e w' ⟨⟨b, rfl⟩, rfl⟩
  cases b
  · go_wp2
    go_ret
    exact ⟨rfl, Below.refl _ _⟩
  go_wp2_with fail
  refine (cloneBytes_any ao n cap l _ HN.out (by omega) hrow HO.out).mono ?_
  rintro e w1 ⟨r, rfl, hrn, R1, b1⟩
  clear HZ hrow HO
  go_wp2_with fail
  refine (zzAppendString_full n s (by omega) r l w1 HN.out R1 hrn (by omega) ((HT.out.on b1).anew)).mono ?_
  rintro e w2 ⟨v2, rfl, hown2, b2⟩
  have R2 := R1.below b2 (Nat.le_refl _)
  have hbel := b1.trans (b2.mono b1.size)
  clear R1 b1 b2 HT
  obtain ⟨T, hT⟩ : ∃ T, T = strTxt s := ⟨_, rfl⟩
  rw [← hT] at hown2
  have HI : Hid (T = strTxt s) := hT
  clear hT
  have HSL : Hid (s.data.toList.length = s.size) := by show s.data.toList.length = s.size; simp
  obtain ⟨D, hD⟩ : ∃ D, D = Lib.decDigits s.size := ⟨_, rfl⟩
  have HD : Hid (D = Lib.decDigits s.size) := hD
  have hTD : T = D ++ 58 :: s.data.toList := by rw [HI.out, hD]; rfl
  obtain ⟨q, hq⟩ : ∃ q, D.length = q + 1 := ⟨D.length - 1, by have := dec_pos s.size; rw [← hD] at this; omega⟩
  have HQ : Hid (D.length = q + 1) := hq
  have hq6 : q + 1 ≤ 6 := by rw [← hq, hD]; exact dec_len6 s.size (by omega)
  have hTl : T.length = q + 2 + s.size := by rw [hTD, List.length_append, List.length_cons, hq, HSL.out]; omega
  have HTD : Hid (T = D ++ 58 :: s.data.toList) := hTD
  clear hD hTD hq
  obtain ⟨m, hm'⟩ : ∃ m, m = T.length := ⟨_, rfl⟩
  have HM : Hid (m = T.length) := hm'
  rw [← hm'] at hTl
  have hlen : (l ++ T).length = n + m := by rw [List.length_append, HN.out, hm']
  rw [hlen] at hown2
  clear hm' hlen
  subst hTl
  obtain ⟨g1, cp, hv, hcp1, hcp2⟩ : ∃ g1 cp, v2 = .slice (some ⟨g1, 0, none⟩) (n + (q + 2 + s.size)) cp ∧ n + (q + 2 + s.size) ≤ cp ∧ cp ≤ 9223372036854775807 := by
    rcases hown2.2 with ⟨_, h⟩ | ⟨g, cap, cur, e, _, _, h1, h2, _⟩
    · omega
    · exact ⟨g, cap, e, h1, h2⟩
  subst hv
  have O2 : Row w2 (some ⟨g1, 0, none⟩) (Lib.byteCells (l ++ T)) := by
    obtain ⟨r, c, e, h, _⟩ := Row.of_owns hown2
    cases e
    exact h
  clear hown2
  go_wp2
  go_loopw [6] (fun ii wr => ∃ k : Nat, k ≤ n ∧ ii = .int .i64 k ∧ ∃ nq, wr = w2.drewN nq) (fun ii _ => n - (intOf ii).toNat)
  case atStart => exact ⟨0, Nat.zero_le _, rfl, 0, rfl⟩
  case round =>
    obtain ⟨k, hk, rfl, nq, rfl⟩ := hrel
    by_cases hlt : k < n
    · obtain ⟨c, hc⟩ : ∃ c, l[k]? = some c := ⟨l[k]'(by rw [HN.out]; exact hlt), List.getElem?_eq_getElem _⟩
      obtain ⟨bb, oo, e1⟩ := R2.shape (by rw [HN.out]; omega)
      subst e1
      have x1 := R2.byte hc
      have x2 := O2.byte (k := k) (c := c) (by rw [List.getElem?_append_left (by rw [HN.out]; exact hlt)]; exact hc)
      rw [Nat.zero_add] at x2
      clear hc
      go_wp2
      go_quiet (fail)
      go_wp2
      go_roundw
      case rel => exact ⟨k + 1, by omega, by go_num, _, rfl⟩
      case measure => simp [intOf]; omega
    · have hk' : k = n := by omega
      subst hk'
      have hT : ∀ j c, T[j]? = some c → w2.cell? ⟨g1, k + j, none⟩ = some (.int .u8 c.toNat) := fun j c hj => by
        have := O2.byte (k := k + j) (c := c) (by rw [List.getElem?_append_right (by rw [HN.out]; omega), HN.out]; simpa using hj)
        rwa [Nat.zero_add] at this
      clear O2 R2 hrn
      have HX : Hid (∀ j c, D[j]? = some c → w2.cell? ⟨g1, k + j, none⟩ = some (.int .u8 c.toNat)) := fun j c hj => hT j c (by rw [HTD.out, List.getElem?_append_left (List.getElem?_eq_some_iff.1 hj).1]; exact hj)
      have tc : w2.cell? ⟨g1, k + (q + 1), none⟩ = some (.int .u8 58) := hT (q + 1) 58 (by rw [HTD.out, List.getElem?_append_right (by rw [HQ.out]; exact Nat.le_refl _), HQ.out]; simp)
      have HS : Hid (∀ j c, s.data.toList[j]? = some c → w2.cell? ⟨g1, k + (q + 2 + j), none⟩ = some (.int .u8 c.toNat)) := fun j c hj => hT (q + 2 + j) c (by rw [HTD.out, List.getElem?_append_right (by rw [HQ.out]; omega), HQ.out, show q + 2 + j - (q + 1) = j + 1 by omega, List.getElem?_cons_succ]; exact hj)
      clear hT
      have HF : Hid (val D = s.size) := by show val D = s.size; rw [HD.out]; exact val_dec _
      have HDG : Hid (∀ c ∈ D, isDig c) := by intro c hc; rw [HD.out] at hc; exact dec_digs _ c hc
      obtain ⟨c0, hc0⟩ : ∃ c0, D[0]? = some c0 := ⟨D[0]'(by rw [HQ.out]; omega), List.getElem?_eq_getElem _⟩
      have d0 : w2.cell? ⟨g1, k, none⟩ = some (.int .u8 c0.toNat) := HX.out 0 c0 hc0
      have hlead : c0.toNat = 48 → q = 0 := fun h => by
        by_cases hu : s.size = 0
        · have := HQ.out
          rw [HD.out, hu, dec_zero] at this
          simp at this
          omega
        · obtain ⟨c, r, e, hc, _⟩ := dec_head s.size (by omega)
          rw [HD.out, e] at hc0
          simp at hc0
          subst hc0
          omega
      clear hc0
      obtain ⟨x0, hx0⟩ : ∃ x0, x0 = c0.toNat := ⟨_, rfl⟩
      rw [← hx0] at d0 hlead
      clear hx0
      have hq0 : (((q : Int) + 1) == 0) = false := by rw [beq_eq_false_iff_ne]; omega
      have hz : (((x0 : Int) == 48) = true ∧ q ≤ 0) ∨ ((x0 : Int) == 48) = false := by
        by_cases z : x0 = 48
        · exact .inl ⟨by rw [beq_iff_eq]; omega, by have := hlead z; omega⟩
        · exact .inr (by rw [beq_eq_false_iff_ne]; omega)
      clear hlead
      go_wp2
      go_loopw [8] (fun kk wr => ∃ j : Nat, j ≤ q + 1 ∧ kk = .int .i64 j ∧ wr = w2.drewN nq) (fun kk _ => q + 1 - (intOf kk).toNat)
      case atStart => exact ⟨0, Nat.zero_le _, rfl, rfl⟩
      case round =>
        obtain ⟨j, hj, rfl, rfl⟩ := hrel
        by_cases hjl : j < q + 1
        · obtain ⟨c, hc⟩ : ∃ c, D[j]? = some c := ⟨D[j]'(by rw [HQ.out]; exact hjl), List.getElem?_eq_getElem _⟩
          have dj := HX.out j c hc
          have hdg := HDG.out c (List.mem_of_getElem? hc)
          clear hc
          unfold isDig at hdg
          obtain ⟨x, hx⟩ : ∃ x, x = c.toNat := ⟨_, rfl⟩
          rw [← hx] at dj hdg
          clear hx
          obtain ⟨y1, y2⟩ := hdg
          go_wp2
          go_roundw
          case rel => exact ⟨j + 1, by omega, by go_num, by trivial⟩
          case measure => simp [intOf]; omega
        · have hje : j = q + 1 := by omega
          subst hje
          rcases hz with ⟨z1, z2⟩ | z1
          all_goals
            go_wp2
            go_loopw [9, 10] (fun mg ii wr => ∃ (j V : Nat), j ≤ q + 1 ∧ ii = .int .i64 j ∧ mg = .int .i64 V ∧ Hid (V = val (D.take j)) ∧ wr = w2.drewN nq) (fun _ ii _ => q + 1 - (intOf ii).toNat)
            case atStart => exact ⟨0, 0, Nat.zero_le _, rfl, rfl, rfl, rfl⟩
            case round =>
              obtain ⟨j, V, hj, rfl, rfl, HV, rfl⟩ := hrel
              by_cases hjl : j < q + 1
              · obtain ⟨c, hc⟩ : ∃ c, D[j]? = some c := ⟨D[j]'(by rw [HQ.out]; exact hjl), List.getElem?_eq_getElem _⟩
                have dj := HX.out j c hc
                have hdg := HDG.out c (List.mem_of_getElem? hc)
                have hvs := val_take_succ D j c hc
                have hvl : val (D.take (j + 1)) ≤ 524288 := by have := val_take_le D (j + 1); rw [HF.out] at this; omega
                clear hc
                unfold isDig at hdg
                obtain ⟨x, hx⟩ : ∃ x, x = c.toNat := ⟨_, rfl⟩
                rw [← hx] at dj hdg hvs
                clear hx
                rw [← HV.out] at hvs
                obtain ⟨V', hV'⟩ : ∃ V', V' = val (D.take (j + 1)) := ⟨_, rfl⟩
                rw [← hV'] at hvs hvl
                have HV' : Hid (V' = val (D.take (j + 1))) := hV'
                have HVS : Hid (V' = V * 10 + (x - 48)) := hvs
                have hvb : V * 10 + (x - 48) ≤ 524288 := by omega
                clear hV' hvs hvl
                obtain ⟨y1, y2⟩ := hdg
                go_wp2
                go_roundw
                case rel => exact ⟨j + 1, V', by omega, by go_num, by rw [HVS.out]; go_num, HV', by trivial⟩
                case measure => simp [intOf]; omega
              · have hje : j = q + 1 := by omega
                subst hje
                have hVu : V = s.size := by
                  have := HV.out
                  rw [List.take_of_length_le (by rw [HQ.out]; exact Nat.le_refl _), HF.out] at this
                  exact this
                subst hVu
                have hrest : (((q + 2 + s.size - (q + 2) : Nat) : Int) != (s.size : Int)) = false := by rw [bne_eq_false_iff_eq]; omega
                by_cases hs0 : s.size ≤ 0
                · go_wp2
                  all_goals
                    refine wp_loop_rounds 1 ?_
                    rw [rounds_succ]
                    go_wp2
                    go_ret
                    exact ⟨rfl, below_drewN hbel _⟩
                · go_wp2
                  go_loopw [12] (fun ii wr => ∃ j : Nat, j ≤ s.size ∧ ii = .int .i64 j ∧ ∃ nq', wr = w2.drewN nq') (fun ii _ => s.size - (intOf ii).toNat)
                  case atStart => exact ⟨0, Nat.zero_le _, rfl, nq, rfl⟩
                  case round =>
                    obtain ⟨j, hj, rfl, nq', rfl⟩ := hrel
                    by_cases hjl : j < s.size
                    · obtain ⟨c, hc⟩ : ∃ c, s.data.toList[j]? = some c := ⟨s.data.toList[j]'(by rw [HSL.out]; exact hjl), List.getElem?_eq_getElem _⟩
                      have sj := HS.out j c hc
                      rw [show k + (q + 2 + j) = k + (q + 1 + 1) + j by omega] at sj
                      have hsc : s[j] = c := by
                        have e : s.data.toList[j]'(by rw [HSL.out]; exact hjl) = c := Option.some.inj ((List.getElem?_eq_getElem _).symm.trans hc)
                        rw [← e]
                        rfl
                      rw [← hsc] at sj
                      clear hsc hc
                      go_wp2
                      go_quiet (fail)
                      go_wp2
                      go_roundw
                      case rel => exact ⟨j + 1, by omega, by go_num, _, rfl⟩
                      case measure => simp [intOf]; omega
                    · go_wp2
                      go_ret
                      exact ⟨rfl, below_drewN hbel _⟩
end Go.Proofs.Qxb6602199aDoor
