import Derived.Test.Qxb6602192aZZDistinct
import Derived.Test.Qxb6602192aGates
import Derived.BigQuiet
import Derived.WalkSmall
import Derived.Deep.QuietTactic
namespace Go.Proofs.Qxb6602192a
open Go.RowKit Go.Maps

def mkL (zs ys : List Int) (ss : List ByteArray) : List Pr := zs.zip (ys.zip ss)
theorem mkL_length {zs ys : List Int} {ss : List ByteArray} {n : Nat} (h0 : zs.length = n) (h1 : ys.length = n) (h2 : ss.length = n) : (mkL zs ys ss).length = n := by
  simp [mkL, h0, h1, h2]
theorem mkL_map0 {zs ys : List Int} {ss : List ByteArray} {n : Nat} (h0 : zs.length = n) (h1 : ys.length = n) (h2 : ss.length = n) (f : Int → Value) : ((mkL zs ys ss).map fun p => f p.1) = zs.map f := by
  have : (mkL zs ys ss).map (fun p => p.1) = zs := List.map_fst_zip (by simp [h0, h1, h2])
  have h : ((mkL zs ys ss).map fun p => f p.1) = ((mkL zs ys ss).map (fun p => p.1)).map f := by rw [List.map_map]; rfl
  rw [h, this]
theorem mkL_map1 {zs ys : List Int} {ss : List ByteArray} {n : Nat} (h0 : zs.length = n) (h1 : ys.length = n) (h2 : ss.length = n) (f : Int → Value) : ((mkL zs ys ss).map fun p => f p.2.1) = ys.map f := by
  have e : (mkL zs ys ss).map (fun p => p.2) = ys.zip ss := List.map_snd_zip (by simp [h0, h1, h2])
  have : (ys.zip ss).map (fun p => p.1) = ys := List.map_fst_zip (by simp [h1, h2])
  have h : ((mkL zs ys ss).map fun p => f p.2.1) = (((mkL zs ys ss).map (fun p => p.2)).map (fun p => p.1)).map f := by rw [List.map_map, List.map_map]; rfl
  rw [h, e, this]
theorem mkL_map2 {zs ys : List Int} {ss : List ByteArray} {n : Nat} (h0 : zs.length = n) (h1 : ys.length = n) (h2 : ss.length = n) (f : ByteArray → Value) : ((mkL zs ys ss).map fun p => f p.2.2) = ss.map f := by
  have e : (mkL zs ys ss).map (fun p => p.2) = ys.zip ss := List.map_snd_zip (by simp [h0, h1, h2])
  have : (ys.zip ss).map (fun p => p.2) = ss := List.map_snd_zip (by simp [h1, h2])
  have h : ((mkL zs ys ss).map fun p => f p.2.2) = (((mkL zs ys ss).map (fun p => p.2)).map (fun p => p.2)).map f := by rw [List.map_map, List.map_map]; rfl
  rw [h, e, this]
theorem mkL_ok {zs ys : List Int} {ss : List ByteArray} (w0 : ∀ z ∈ zs, (Lit.int .u64 z).wf = true) (w1 : ∀ z ∈ ys, (Lit.int .u64 z).wf = true) (w2 : ∀ s ∈ ss, s.size ≤ maxLen) : ∀ p ∈ mkL zs ys ss, okP p := by
  rintro ⟨a, b, c⟩ hp
  have h1 := List.of_mem_zip hp
  have h2 := List.of_mem_zip h1.2
  exact ⟨w0 _ h1.1, w1 _ h2.1, w2 _ h2.2⟩

/-- The six rows that the law's loops read. -/
structure Six (w : World) (r0 r1 r2 : Option Addr) (g1 g2 g3 : Nat) (L V : List Pr) : Prop where
  a0 : Row w r0 (L.map fun p => .int .u64 p.1)
  a1 : Row w r1 (L.map fun p => .int .u64 p.2.1)
  a2 : Row w r2 (L.map fun p => .string p.2.2)
  b0 : Row w (some ⟨g1, 0, none⟩) (V.map fun p => .int .u64 p.1)
  b1 : Row w (some ⟨g2, 0, none⟩) (V.map fun p => .int .u64 p.2.1)
  b2 : Row w (some ⟨g3, 0, none⟩) (V.map fun p => .string p.2.2)

theorem Six.drewN {w : World} {r0 r1 r2 : Option Addr} {g1 g2 g3 : Nat} {L V : List Pr} (h : Six w r0 r1 r2 g1 g2 g3 L V) (n : Nat) : Six (w.drewN n) r0 r1 r2 g1 g2 g3 L V := ⟨h.a0, h.a1, h.a2, h.b0, h.b1, h.b2⟩
/-- No first occurrence: an earlier one is equal. -/
theorem len_old {L : List Pr} {i j : Nat} {p : Pr} (hi : L[i]? = some p) (hj : L[j]? = some p) (h : j < i) : (U L (i + 1)).length = (U L i).length := by
  rw [U_old hi ((U_mem L i p).2 ⟨j, h, hj⟩)]
theorem not_mem {L : List Pr} {i : Nat} {p : Pr} (h : ∀ t, t < i → L[t]? ≠ some p) : p ∉ U L i := fun hm => by
  obtain ⟨j, hj, e⟩ := (U_mem L i p).1 hm
  exact h j hj e
theorem len_new {L : List Pr} {i : Nat} {p : Pr} (hi : L[i]? = some p) (h : ∀ t, t < i → L[t]? ≠ some p) : (U L (i + 1)).length = (U L i).length + 1 := by
  rw [U_new hi (not_mem h)]
  simp
theorem ne_snoc {L : List Pr} {j : Nat} {p q : Pr} (h : ∀ t, t < j → L[t]? ≠ some p) (hq : L[j]? = some q) (hne : q ≠ p) : ∀ t, t < j + 1 → L[t]? ≠ some p := fun t ht e => by
  by_cases h1 : t < j
  · exact h t h1 e
  · have : t = j := by omega
    subst this
    rw [hq] at e
    exact hne (Option.some.inj e)

set_option maxHeartbeats 1600000 in
set_option maxRecDepth 100000 in
theorem law_any (a0 a1 a2 : Option Addr) (n0 n1 n2 c0 c1 c2 : Nat) (zs ys : List Int) (ss : List ByteArray) (w : World)
    (l0 : zs.length = n0) (l1 : ys.length = n1) (l2 : ss.length = n2) (m0 : n0 ≤ maxLen) (m1 : n1 ≤ maxLen) (m2 : n2 ≤ maxLen)
    (w0 : ∀ z ∈ zs, (Lit.int .u64 z).wf = true) (w1 : ∀ z ∈ ys, (Lit.int .u64 z).wf = true) (w2 : ∀ s ∈ ss, s.size ≤ maxLen)
    (r0 : Row w a0 (zs.map (.int .u64))) (r1 : Row w a1 (ys.map (.int .u64))) (r2 : Row w a2 (ss.map .string)) (e0 : a0 = none → n0 = 0) (e1 : a1 = none → n1 = 0) (e2 : a2 = none → n2 = 0) :
    Calls Try.prog 5 #[.slice a0 n0 c0, .slice a1 n1 c1, .slice a2 n2 c2] w fun e w' => e = .returned (.bool true) ∧ Below w.heap.size w w' := by
  have hz := zzBytes_any a0 a1 a2 n0 n1 n2 c0 c1 c2 ss w l2 m0 m1 m2 w2 r2
  by_cases g : 4096 < n0 ∨ 4096 < n1 ∨ 4096 < n2
  · unfold maxLen at *
    go_enter Try.func5, Try.ntmps5
    go_wp2_with fail
    refine hz.mono ?_
    rintro e w' ⟨⟨b, rfl⟩, rfl⟩
    cases b
    · go_wp2
      go_ret
      exact ⟨rfl, Below.refl _ _⟩
    by_cases g0 : 4096 < n0
    · go_wp2
      go_ret
      exact ⟨rfl, Below.refl _ _⟩
    by_cases g1 : 4096 < n1
    · go_wp2
      go_ret
      exact ⟨rfl, Below.refl _ _⟩
    have g2 : 4096 < n2 := by omega
    go_wp2
    go_ret
    exact ⟨rfl, Below.refl _ _⟩
  have g0 : n0 ≤ 4096 := by omega
  have g1 : n1 ≤ 4096 := by omega
  have g2 : n2 ≤ 4096 := by omega
  clear g
  have hy := bytesOK_any a0 a1 a2 n0 n1 n2 c0 c1 c2 ss w l2 g0 g1 g2 w2 r2
  have hs := shapeOK_any a0 a1 a2 n0 n1 n2 c0 c1 c2 w
  have HZ : Hid (Calls Try.prog 12 #[.slice a0 n0 c0, .slice a1 n1 c1, .slice a2 n2 c2] w fun e w' => SomeBool e ∧ w' = w) := hz
  have HY : Hid (Calls Try.prog 13 #[.slice a0 n0 c0, .slice a1 n1 c1, .slice a2 n2 c2] w fun e w' => SomeBool e ∧ w' = w) := hy
  have HS : Hid (Calls Try.prog 14 #[.slice a0 n0 c0, .slice a1 n1 c1, .slice a2 n2 c2] w fun e w' => e = .returned (.bool (decide (n1 = n0 ∧ n2 = n0))) ∧ w' = w) := hs
  clear hz hy hs
  go_enter Try.func5, Try.ntmps5
  go_wp2_with fail
  refine HZ.out.mono ?_
  rintro e w' ⟨⟨b, rfl⟩, rfl⟩
  cases b
  · go_wp2
    go_ret
    exact ⟨rfl, Below.refl _ _⟩
  go_wp2_with fail
  refine HY.out.mono ?_
  rintro e w' ⟨⟨b, rfl⟩, rfl⟩
  cases b
  · go_wp2
    go_ret
    exact ⟨rfl, Below.refl _ _⟩
  go_wp2_with fail
  refine HS.out.mono ?_
  rintro e w' ⟨rfl, rfl⟩
  by_cases hsh : n1 = n0 ∧ n2 = n0
  · rw [decide_eq_true hsh]
    obtain ⟨h1, h2⟩ := hsh
    subst h1
    subst h2
    go_wp2_with fail
    refine (cloneU64_any a0 n2 c0 zs _ l0 (by omega) r0 e0).mono ?_
    rintro e u0 ⟨v0, rfl, o0, b0⟩
    obtain ⟨q0, d0, hv, R0, _⟩ := Row.of_owns o0
    subst hv
    clear o0 e0 m0 m1 m2 g1 g2
    go_wp2_with fail
    refine (cloneU64_any a1 n2 c1 ys _ l1 (by omega) (r1.below b0 (Nat.le_refl _)) e1).mono ?_
    rintro e u1 ⟨v1, rfl, o1, b1⟩
    obtain ⟨q1, d1, hv, R1, _⟩ := Row.of_owns o1
    subst hv
    clear o1 e1
    go_wp2_with fail
    refine (cloneStr_any a2 n2 c2 ss _ l2 (by omega) ((r2.below b0 (Nat.le_refl _)).below b1 (Nat.le_refl _)) e2).mono ?_
    rintro e u2 ⟨v2, rfl, o2, b2⟩
    obtain ⟨q2, d2, hv, R2, _⟩ := Row.of_owns o2
    subst hv
    clear o2 e2
    have hL := mkL_length l0 l1 l2
    have K0 := mkL_map0 l0 l1 l2 (.int .u64)
    have K1 := mkL_map1 l0 l1 l2 (.int .u64)
    have K2 := mkL_map2 l0 l1 l2 .string
    have hok := mkL_ok w0 w1 w2
    have A0 := (R0.below b1 (Nat.le_refl _)).below b2 (Nat.le_refl _)
    have A1 := R1.below b2 (Nat.le_refl _)
    rw [← K0] at A0
    rw [← K1] at A1
    rw [← K2] at R2
    have hbw := (b0.trans (b1.mono b0.size)).trans (b2.mono (Nat.le_trans b0.size b1.size))
    clear K0 K1 K2 R0 R1 b0 b1 b2 w0 w1 w2 r0 r1 r2 l0 l1 l2 HZ HY HS
    generalize mkL zs ys ss = L at hL hok A0 A1 R2
    go_wp2_with fail
    refine (zzdistinct_any q0 q1 q2 n2 d0 d1 d2 L _ hL g0 A0 A1 R2 hok).mono ?_
    rintro e u3 ⟨g1, g2, g3, rfl, B0, B1, B2, b3⟩
    have six : Six u3 q0 q1 q2 g1 g2 g3 L (U L n2) := ⟨A0.below b3 (Nat.le_refl _), A1.below b3 (Nat.le_refl _), R2.below b3 (Nat.le_refl _), B0, B1, B2⟩
    have hbel := hbw.trans (b3.mono hbw.size)
    clear B0 B1 B2 b3 hbw A0 A1 R2 hok
    obtain ⟨m, hm⟩ : ∃ m, m = (U L n2).length := ⟨_, rfl⟩
    rw [← hm]
    have HM : Hid (m = (U L n2).length) := hm
    have hm4 : m ≤ 4096 := by have := U_len L n2; omega
    clear hm
    go_wp2
    go_loopw [11, 12] (fun kk ii wr => ∃ i : Nat, i ≤ n2 ∧ ii = .int .i64 i ∧ kk = .int .i64 ((U L i).length : Nat) ∧ Six wr q0 q1 q2 g1 g2 g3 L (U L n2) ∧ Below w'.heap.size w' wr)
      (fun _ ii _ => n2 - (intOf ii).toNat)
    case atStart => exact ⟨0, Nat.zero_le _, rfl, rfl, six, hbel⟩
    case round =>
      obtain ⟨i, hi, rfl, rfl, six, hbel⟩ := hrel
      by_cases hlt : i < n2
      · obtain ⟨p, hp⟩ : ∃ p, L[i]? = some p := ⟨L[i], List.getElem?_eq_getElem _⟩
        have HP : Hid (L[i]? = some p) := hp
        clear hp
        go_wp2
        obtain ⟨wq, hwq⟩ : ∃ wq, wq = wr := ⟨wr, rfl⟩
        subst hwq
        go_loopw [13, 14] (fun ss jj wr => ∃ j : Nat, j ≤ i ∧ jj = .int .i64 j ∧ ss = .bool false ∧ Hid (∀ t, t < j → L[t]? ≠ some p) ∧ Six wr q0 q1 q2 g1 g2 g3 L (U L n2) ∧ Below w'.heap.size w' wr)
          (fun _ jj _ => i - (intOf jj).toNat)
        case atStart => exact ⟨0, Nat.zero_le _, rfl, rfl, fun t ht => by omega, six, hbel⟩
        case round =>
          obtain ⟨j, hj, rfl, rfl, HN, six, hbel⟩ := hrel
          by_cases hjl : j < i
          · obtain ⟨q, hq⟩ : ∃ q, L[j]? = some q := ⟨L[j], List.getElem?_eq_getElem _⟩
            obtain ⟨bb0, oo0, ea0, _, k0⟩ := six.a0.split (by simp; omega)
            obtain ⟨bb1, oo1, ea1, _, k1⟩ := six.a1.split (by simp; omega)
            obtain ⟨bb2, oo2, ea2, _, k2⟩ := six.a2.split (by simp; omega)
            have hpe : L[i] = p := Option.some.inj ((List.getElem?_eq_getElem (by omega)).symm.trans HP.out)
            have hqe : L[j] = q := Option.some.inj ((List.getElem?_eq_getElem (by omega)).symm.trans hq)
            have x0 : wr.cell? ⟨bb0, oo0 + i, none⟩ = some (.int .u64 p.1) := by rw [k0 i (by simp; omega)]; simp [hpe]
            have x1 : wr.cell? ⟨bb1, oo1 + i, none⟩ = some (.int .u64 p.2.1) := by rw [k1 i (by simp; omega)]; simp [hpe]
            have x2 : wr.cell? ⟨bb2, oo2 + i, none⟩ = some (.string p.2.2) := by rw [k2 i (by simp; omega)]; simp [hpe]
            have y0 : wr.cell? ⟨bb0, oo0 + j, none⟩ = some (.int .u64 q.1) := by rw [k0 j (by simp; omega)]; simp [hqe]
            have y1 : wr.cell? ⟨bb1, oo1 + j, none⟩ = some (.int .u64 q.2.1) := by rw [k1 j (by simp; omega)]; simp [hqe]
            have y2 : wr.cell? ⟨bb2, oo2 + j, none⟩ = some (.string q.2.2) := by rw [k2 j (by simp; omega)]; simp [hqe]
            have HQ : Hid (L[j]? = some q) := hq
            clear k0 k1 k2 hpe hqe hq
            subst ea0 ea1 ea2
            have HX : Hid (Six wr (some ⟨bb0, oo0, none⟩) (some ⟨bb1, oo1, none⟩) (some ⟨bb2, oo2, none⟩) g1 g2 g3 L (U L n2)) := six
            clear six
            obtain ⟨p0, p1, p2⟩ := p
            obtain ⟨t0, t1, t2⟩ := q
            dsimp only at x0 x1 x2 y0 y1 y2
            by_cases z0 : t0 = p0
            · subst z0
              by_cases z1 : t1 = p1
              · subst z1
                by_cases z2 : t2 = p2
                · subst z2
                  go_wp2
                  go_quiet (fail)
                  go_wp2
                  go_roundw
                  case rel => exact ⟨i + 1, by omega, by go_num, by rw [len_old HP.out HQ.out hjl], HX.out.drewN _, below_drewN hbel _⟩
                  case measure => simp [intOf]; omega
                · have z2' : (t2.toList == p2.toList) = false := by
                    rw [beq_eq_false_iff_ne, ByteArray.toList_eq, ByteArray.toList_eq]
                    intro e
                    apply z2
                    cases t2; cases p2
                    simpa using e
                  go_wp2
                  go_quiet (fail)
                  go_wp2
                  go_roundw
                  case rel => exact ⟨j + 1, by omega, by go_num, rfl, ne_snoc HN HQ.out (by simp [z2]), HX.out.drewN _, below_drewN hbel _⟩
                  case measure => simp [intOf]; omega
              · have z1' : (t1 == p1) = false := by simpa using z1
                go_wp2
                go_quiet (fail)
                go_wp2
                go_roundw
                case rel => exact ⟨j + 1, by omega, by go_num, rfl, ne_snoc HN HQ.out (by simp [z1]), HX.out.drewN _, below_drewN hbel _⟩
                case measure => simp [intOf]; omega
            · have z0' : (t0 == p0) = false := by simpa using z0
              go_wp2
              go_quiet (fail)
              go_wp2
              go_roundw
              case rel => exact ⟨j + 1, by omega, by go_num, rfl, ne_snoc HN HQ.out (by simp [z0]), HX.out.drewN _, below_drewN hbel _⟩
              case measure => simp [intOf]; omega
          · have : j = i := by omega
            subst this
            have hlen := len_new HP.out HN.out
            have HA : Hid ((U L n2)[(U L j).length]? = some p) := U_at hlt HP.out (not_mem HN.out)
            have hkm : (U L j).length < m := by rw [HM.out]; exact (List.getElem?_eq_some_iff.1 HA.out).1
            have HL : Hid ((U L (j + 1)).length = (U L j).length + 1) := hlen
            clear hlen
            generalize hkk : (U L j).length = kk at HA hkm HL ⊢
            have HK : Hid ((U L j).length = kk) := hkk
            clear hkk
            obtain ⟨bb0, oo0, ea0, _, k0⟩ := six.a0.split (by simp; omega)
            obtain ⟨bb1, oo1, ea1, _, k1⟩ := six.a1.split (by simp; omega)
            obtain ⟨bb2, oo2, ea2, _, k2⟩ := six.a2.split (by simp; omega)
            have hpe : L[j] = p := Option.some.inj ((List.getElem?_eq_getElem (by omega)).symm.trans HP.out)
            have x0 : wr.cell? ⟨bb0, oo0 + j, none⟩ = some (.int .u64 p.1) := by rw [k0 j (by simp; omega)]; simp [hpe]
            have x1 : wr.cell? ⟨bb1, oo1 + j, none⟩ = some (.int .u64 p.2.1) := by rw [k1 j (by simp; omega)]; simp [hpe]
            have x2 : wr.cell? ⟨bb2, oo2 + j, none⟩ = some (.string p.2.2) := by rw [k2 j (by simp; omega)]; simp [hpe]
            have at0 : ∀ {g : Nat} {f : Pr → Value}, Row wr (some ⟨g, 0, none⟩) ((U L n2).map f) → wr.cell? ⟨g, kk, none⟩ = some (f p) := fun {g f} h => by
              obtain ⟨b, o, e, hc⟩ := h kk (f p) (by simp [HA.out])
              cases e
              simpa using hc
            have y0 := at0 six.b0
            have y1 := at0 six.b1
            have y2 := at0 six.b2
            clear k0 k1 k2 hpe at0
            subst ea0 ea1 ea2
            have HX : Hid (Six wr (some ⟨bb0, oo0, none⟩) (some ⟨bb1, oo1, none⟩) (some ⟨bb2, oo2, none⟩) g1 g2 g3 L (U L n2)) := six
            clear six
            go_wp2
            go_quiet (fail)
            go_wp2
            go_roundw
            case rel => exact ⟨j + 1, by omega, by go_num, by rw [HL.out]; go_num, HX.out.drewN _, below_drewN hbel _⟩
            case measure => simp [intOf]; omega
      · have : i = n2 := by omega
        subst this
        have hmm : ((U L i).length : Int) = m := by rw [← HM.out]
        rw [hmm]
        clear hmm
        go_wp2
        go_ret
        exact ⟨by simp, hbel⟩
  · rw [decide_eq_false hsh]
    go_wp2
    go_ret
    exact ⟨rfl, Below.refl _ _⟩
end Go.Proofs.Qxb6602192a
