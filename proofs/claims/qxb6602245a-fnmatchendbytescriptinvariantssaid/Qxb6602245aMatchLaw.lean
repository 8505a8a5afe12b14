import Derived.Test.Qxb6602245aZZMatch
import Derived.Test.Qxb6602245aMatchGates
namespace Go.Proofs.Qxb6602245a
open Go.RowKit

theorem owns_below {B n I r c : Nat} {w w' : World} {xs : List Value} (h : w.ownsRow B 24 1 (.slice (some ⟨I, 0, none⟩) r c) n xs) (hb : Below w.heap.size w w') : w'.ownsRow B 24 1 (.slice (some ⟨I, 0, none⟩) r c) n xs :=
  h.kept (row := none) ⟨hb.os, hb.tape, hb.output, hb.size, fun k hk _ => hb.block k hk⟩ (.inr (by simp [Value.ownBlock]))
theorem Row.grown {w w' : World} {J I : Nat} {xs : List Value} (h : Row w (some ⟨J, 0, none⟩) xs) (hg : w.grownBy w' (some I)) (hne : J ≠ I) : Row w' (some ⟨J, 0, none⟩) xs := by
  intro j u hj
  obtain ⟨b, off, e, hc⟩ := h j u hj
  cases e
  exact ⟨J, 0, rfl, hg.cell hc (fun e => hne (by simpa using e))⟩

/-- The script's loop, at its head. -/
def MatRel (w : World) (I J K ni n nh pos length : Nat) (bit : Int) (l : List UInt8) (s21 s22 s23 s24 s25 s26 s27 s28 : Value) (wr : World) : Prop :=
  ∃ (s p ln off : Nat) (a : Int) (xs : List Nat), s ≤ nh ∧ s28 = .int .i64 s ∧ s21 = .slice (some ⟨I, 0, none⟩) ni ni ∧ s22 = .slice (some ⟨J, 0, none⟩) n n ∧ s23 = .int .u32 p ∧ s24 = .int .u32 ln ∧ s25 = .int .u32 off ∧ s26 = .int .u32 bit ∧ s27 = .int .u64 a ∧
    Hid (p % n = (pos + s) % n) ∧ p < 4294967296 ∧ ln < 4294967296 ∧ off < 4294967296 ∧ Hid (length ≤ 255 → ln ≤ 255) ∧ Hid (xs.length = ni) ∧ Hid (∀ x ∈ xs, x < 4294967296) ∧ Hid (wr.ownsRow w.heap.size 24 1 (.slice (some ⟨I, 0, none⟩) ni ni) ni (words xs)) ∧ Hid (Row wr (some ⟨J, 0, none⟩) (Lib.byteCells l)) ∧ Hid (Row wr (some ⟨K, 0, none⟩) (Lib.byteCells l)) ∧ Hid (Below w.heap.size w wr) ∧ Hid (K < wr.heap.size)

set_option maxHeartbeats 3200000 in
set_option maxRecDepth 100000 in
theorem match_any (ai ab ah : Option Addr) (ni ci n cb nh ch pos length off : Nat) (bit at_ : Int) (xs : List Nat) (l : List UInt8) (hs : List Nat) (w : World)
    (hpos : pos < 4294967296) (hlen : length < 4294967296) (hoff : off < 4294967296)
    (hxl : xs.length = ni) (hmi : ni ≤ maxLen) (hri : Row w ai (words xs)) (hx32 : ∀ x ∈ xs, x < 4294967296) (hni0 : ai = none → ni = 0)
    (hl : l.length = n) (hmb : n ≤ maxLen) (hrb : Row w ab (Lib.byteCells l)) (hnb0 : ab = none → n = 0)
    (hhl : hs.length = nh) (hmh : nh ≤ maxLen) (hrh : Row w ah (words hs)) (hh32 : ∀ x ∈ hs, x < 4294967296) :
    Calls Try.prog 5 #[.slice ai ni ci, .slice ab n cb, .int .u32 pos, .int .u32 length, .int .u32 off, .int .u32 bit, .int .u64 at_, .slice ah nh ch] w fun e w' => e = .returned (.bool true) ∧ Below w.heap.size w w' := by
  have HZ : Hid (Calls Try.prog 13 #[.slice ai ni ci, .slice ab n cb, .int .u32 pos, .int .u32 length, .int .u32 off, .int .u32 bit, .int .u64 at_, .slice ah nh ch] w fun e w' => SomeBool e ∧ w' = w) := zzBytesMatch_any ai ab ah ni n nh ci cb ch pos length off bit at_ w hmi hmb hmh
  unfold maxLen at hmi hmb hmh
  by_cases g1 : 65536 < ni
  · go_enter Try.func5, Try.ntmps5
    go_wp2_with fail
    refine HZ.out.mono ?_
    rintro e w' ⟨⟨b, rfl⟩, rfl⟩
    cases b <;>
    · go_wp2
      go_ret
      exact ⟨rfl, Below.refl _ _⟩
  by_cases g2 : 262144 < n
  · go_enter Try.func5, Try.ntmps5
    go_wp2_with fail
    refine HZ.out.mono ?_
    rintro e w' ⟨⟨b, rfl⟩, rfl⟩
    cases b <;>
    · go_wp2
      go_ret
      exact ⟨rfl, Below.refl _ _⟩
  by_cases g3 : 32768 < nh
  · go_enter Try.func5, Try.ntmps5
    go_wp2_with fail
    refine HZ.out.mono ?_
    rintro e w' ⟨⟨b, rfl⟩, rfl⟩
    cases b <;>
    · go_wp2
      go_ret
      exact ⟨rfl, Below.refl _ _⟩
  have HXL : Hid (xs.length = ni) := hxl
  have HX32 : Hid (∀ x ∈ xs, x < 4294967296) := hx32
  have HNI0 : Hid (ai = none → ni = 0) := hni0
  have HL : Hid (l.length = n) := hl
  have HNB0 : Hid (ab = none → n = 0) := hnb0
  have HHL : Hid (hs.length = nh) := hhl
  have HH32 : Hid (∀ x ∈ hs, x < 4294967296) := hh32
  clear hxl hx32 hni0 hl hnb0 hhl hh32
  go_enter Try.func5, Try.ntmps5
  go_wp2_with fail
  refine HZ.out.mono ?_
  rintro e wz ⟨⟨b, rfl⟩, hw⟩
  rw [hw]
  clear hw wz
  cases b
  · go_wp2
    go_ret
    exact ⟨rfl, Below.refl _ _⟩
  clear HZ
  go_wp2_with fail
  refine (isPow2_any ni w (by omega)).mono ?_
  rintro e wz ⟨b, rfl, hb, hw⟩
  rw [hw]
  clear hw wz
  cases b
  · go_wp2
    go_ret
    exact ⟨rfl, Below.refl _ _⟩
  obtain ⟨b, hnib⟩ := hb rfl
  have HNI : Hid (ni = 2 ^ b) := hnib
  clear hnib hb
  go_wp2_with fail
  refine (isPow2_any n w (by omega)).mono ?_
  rintro e wz ⟨b2, rfl, hb, hw⟩
  rw [hw]
  clear hw wz
  cases b2
  · go_wp2
    go_ret
    exact ⟨rfl, Below.refl _ _⟩
  obtain ⟨a, hna⟩ := hb rfl
  have HN : Hid (n = 2 ^ a) := hna
  clear hna hb
  have ni0 : 0 < ni := by rw [HNI.out]; exact Nat.two_pow_pos b
  have n0 : 0 < n := by rw [HN.out]; exact Nat.two_pow_pos a
  obtain ⟨xi, hxi⟩ : ∃ x, ai = some x := by
    cases ai with
    | none => have := HNI0.out rfl; omega
    | some x => exact ⟨x, rfl⟩
  subst hxi
  obtain ⟨xb, hxb⟩ : ∃ x, ab = some x := by
    cases ab with
    | none => have := HNB0.out rfl; omega
    | some x => exact ⟨x, rfl⟩
  subst hxb
  go_wp2_with fail
  refine (cloneU32_new xi ni ci xs w HXL.out (by omega) hri).mono ?_
  rintro e w1 ⟨rfl, O1, b1, s1⟩
  go_wp2_with fail
  refine (cloneU8_new xb n cb l w1 HL.out (by omega) (hrb.below b1 (Nat.le_refl _))).mono ?_
  rintro e w2 ⟨rfl, R2, b2, s2⟩
  go_wp2_with fail
  refine (cloneU8_new _ n n l w2 HL.out (by omega) R2).mono ?_
  rintro e w3 ⟨rfl, R3, b3, s3⟩
  have HO3 : Hid (w3.ownsRow w.heap.size 24 1 (.slice (some ⟨w.heap.size, 0, none⟩) ni ni) ni (words xs)) := owns_below (owns_below O1 b2) b3
  have HJ3 : Hid (Row w3 (some ⟨w1.heap.size, 0, none⟩) (Lib.byteCells l)) := R2.below b3 (Nat.le_refl _)
  have HK3 : Hid (Row w3 (some ⟨w2.heap.size, 0, none⟩) (Lib.byteCells l)) := R3
  have HB3 : Hid (Below w.heap.size w w3) := (b1.trans (b2.mono b1.size)).trans (b3.mono (Nat.le_trans b1.size b2.size))
  clear O1 R2 R3 b1 b2 b3 hri hrb
  obtain ⟨I, hI⟩ : ∃ I, I = w.heap.size := ⟨_, rfl⟩
  have HIQ : Hid (I = w.heap.size) := hI
  obtain ⟨J, hJ⟩ : ∃ J, J = w1.heap.size := ⟨_, rfl⟩
  obtain ⟨K, hK⟩ : ∃ K, K = w2.heap.size := ⟨_, rfl⟩
  have HO4 : Hid (w3.ownsRow w.heap.size 24 1 (.slice (some ⟨I, 0, none⟩) ni ni) ni (words xs)) := by rw [hI]; exact HO3
  rw [← hJ] at HJ3
  rw [← hK] at HK3
  have hIJ : I < J := by omega
  have hJK : J < K := by omega
  have HKS : Hid (K < w3.heap.size) := by show K < _; omega
  rw [← hI, ← hJ, ← hK]
  clear HO3 hI hJ hK s1 s2 s3
  obtain ⟨sb, hsb⟩ : ∃ sb : Bool, decide ((length : Int) ≤ 255) = sb := ⟨_, rfl⟩
  have HSB : Hid (decide ((length : Int) ≤ 255) = sb) := hsb
  go_wp2
  have d1 : decide ((65536 : Int) < (ni : Int)) = false := decide_eq_false (by omega)
  have d2 : decide ((262144 : Int) < (n : Int)) = false := decide_eq_false (by omega)
  have d3 : decide ((32768 : Int) < (nh : Int)) = false := decide_eq_false (by omega)
  rw [d1, d2, d3]
  clear d1 d2 d3 hsb
  go_loopw [21, 22, 23, 24, 25, 26, 27, 28] (MatRel w I J K ni n nh pos length bit l) (fun _ _ _ _ _ _ _ ii _ => nh - (intOf ii).toNat)
  case atStart => exact ⟨0, pos, length, off, at_, xs, Nat.zero_le _, rfl, rfl, rfl, rfl, rfl, rfl, rfl, rfl, rfl, hpos, hlen, hoff, fun h => h, HXL, HX32, HO4, HJ3, HK3, HB3, HKS⟩
  case round =>
    clear HO4 HJ3 HK3 HB3 HKS HXL HX32
    obtain ⟨s, p, ln, off1, a1, xs, hsn, rfl, rfl, rfl, rfl, rfl, rfl, rfl, rfl, HPM, hp32, hln32, hoff32, HSANE, HXL, HX32, HO, HJ, HK, HB, HKS⟩ := hrel
    by_cases hlt : s < nh
    · obtain ⟨h, hh⟩ : ∃ h, hs[s]? = some h := ⟨hs[s]'(by rw [HHL.out]; exact hlt), List.getElem?_eq_getElem _⟩
      have hh32 : h < 4294967296 := HH32.out h (List.mem_of_getElem? hh)
      obtain ⟨bh, oh, eh⟩ := hrh.wshape (by rw [HHL.out]; omega)
      subst eh
      have x1 := (hrh.below HB.out (Nat.le_refl _)).word hh
      obtain ⟨wt, hwt⟩ : ∃ wt, wt = wr := ⟨_, rfl⟩
      subst hwt
      go_wp2_with fail
      refine (zzMatch_any I J w.heap.size n ni a b p ln off1 h bit a1 xs l wt HO.out (by have := HKS.out; omega) HJ.out (by have := HKS.out; omega) HL.out HN.out HNI.out (by omega) (by omega) hln32 hoff32 hh32 HXL.out HX32.out).mono ?_
      rintro e w5 ⟨p2, ln2, off2, rfl, hS, hO5, hG⟩
      have HS : Hid (Match.Step n l p ln off1 p2 ln2 off2) := hS
      have hp2n : p2 < n := by rw [hS.pos]; exact Nat.mod_lt _ n0
      have hl232 := hS.len32
      have ho232 := hS.off32
      have hpm : p2 = (pos + s + 1) % n := by
        rw [hS.pos, Nat.add_mod, HPM.out, ← Nat.add_mod]
      have HPM2 : Hid (p2 % n = (pos + (s + 1)) % n) := by
        show p2 % n = _
        rw [hpm, Nat.mod_mod, Nat.add_assoc]
      have HO5 : Hid (w5.ownsRow w.heap.size 24 1 (.slice (some ⟨I, 0, none⟩) ni ni) ni (words (xs.set (h % ni) p2))) := hO5
      have HJ5 : Hid (Row w5 (some ⟨J, 0, none⟩) (Lib.byteCells l)) := HJ.out.grown hG (by omega)
      have HK5 : Hid (Row w5 (some ⟨K, 0, none⟩) (Lib.byteCells l)) := HK.out.grown hG (by omega)
      have HB5 : Hid (Below w.heap.size w w5) := HB.out.grown hG (by have := HB.out.size; omega) (fun k hk => by cases hk; rw [HIQ.out]; exact Nat.le_refl _)
      have HKS5 : Hid (K < w5.heap.size) := Nat.lt_of_lt_of_le HKS.out hG.size
      have HXL5 : Hid ((xs.set (h % ni) p2).length = ni) := by show (xs.set (h % ni) p2).length = ni; rw [List.length_set]; exact HXL.out
      have HX5 : Hid (∀ x ∈ xs.set (h % ni) p2, x < 4294967296) := by
        intro x hx
        rcases List.mem_or_eq_of_mem_set hx with hx | rfl
        · exact HX32.out x hx
        · omega
      have HSANE5 : Hid (length ≤ 255 → ln2 ≤ 255) := by
        intro hle
        by_cases z : ln = 0
        · exact (hS.fresh z).1
        · exact (hS.held z).2.2 (HSANE.out hle)
      obtain ⟨q, hq⟩ : ∃ q, q = h % ni := ⟨_, rfl⟩
      have hqn : q < ni := by rw [hq]; exact Nat.mod_lt _ ni0
      have y1 := hO5.cellAt q (by rw [Nat.mul_one]; exact hqn)
      rw [words_get (z := p2) (by rw [← hq, List.getElem?_set_self (by rw [HXL.out]; exact hqn)])] at y1
      have x5 := (hrh.below HB5.out (Nat.le_refl _)).word hh
      have hqw : (h : Int) % (ni : Int) = (q : Int) := by rw [hq]; exact (Int.natCast_emod _ _).symm
      have hpw : ((pos : Int) + s + 1) % (n : Int) = (p2 : Int) := by
        rw [hpm, Int.natCast_emod]
        congr 1
      clear hS hO5 hG hh x1 hq hpm HO HJ HK HB HKS HXL HX32 HSANE HPM
      have hsane : sb = true → ¬ 255 < ln2 := by
        intro e
        have h1 := HSB.out
        rw [e] at h1
        have := HSANE5.out (by have := of_decide_eq_true h1; omega)
        omega
      by_cases hz : ln = 0
      · subst hz
        obtain ⟨h255, hfr⟩ := HS.out.fresh rfl
        by_cases hz2 : ln2 = 0
        · subst hz2
          clear hfr
          cases sb
          all_goals
            clear hsane
            go_wp2
            exact ⟨⟨s + 1, p2, 0, off2, 0, xs.set (h % ni) p2, by omega, by go_num, rfl, rfl, rfl, rfl, rfl, rfl, rfl, HPM2, by omega, hl232, ho232, HSANE5, HXL5, HX5, HO5, HJ5, HK5, HB5, HKS5⟩, by simp [intOf]; omega⟩
        · obtain ⟨hr0, hmatch⟩ := hfr hz2
          have HMA : Hid (∀ k, k < ln2 → l[Match.back n p2 k]? = l[Match.mate n p2 k off2]?) := hmatch
          obtain ⟨r, hr⟩ : ∃ r, r = off2 % n := ⟨_, rfl⟩
          have hrw : (off2 : Int) % (n : Int) = (r : Int) := by rw [hr]; exact (Int.natCast_emod _ _).symm
          have hr1 : ¬ r = 0 := by rw [hr]; exact hr0
          have hrn : r < n := by rw [hr]; exact Nat.mod_lt _ n0
          have HRE : Hid (r = off2 % n) := hr
          clear hfr hmatch hr hr0
          have hrb : ((r : Int) == 0) = false := by rw [beq_eq_false_iff_ne]; omega
          have hzb : ((ln2 : Int) != 0) = true := by rw [bne_iff_ne]; omega
          have hdb : decide ((255 : Int) < (ln2 : Int)) = false := decide_eq_false (by omega)
          cases sb
          all_goals
            clear hsane
            go_wp2
            go_loopw [31] (fun ii wr => ∃ k : Nat, k ≤ ln2 ∧ ii = .int .u64 k ∧ ∃ nq, wr = w5.drewN nq) (fun ii _ => ln2 - (intOf ii).toNat)
            case atStart => exact ⟨0, Nat.zero_le _, rfl, 0, rfl⟩
            case round =>
              obtain ⟨k, hk, rfl, nq, rfl⟩ := hrel
              by_cases hkl : k < ln2
              · obtain ⟨i1, hi1⟩ : ∃ i1, i1 = Match.back n p2 k := ⟨_, rfl⟩
                obtain ⟨i2, hi2⟩ : ∃ i2, i2 = Match.mate n p2 k off2 := ⟨_, rfl⟩
                have hi1n : i1 < n := by rw [hi1]; exact Match.back_lt n0
                have hi2n : i2 < n := by rw [hi2]; exact Match.mate_lt n0
                have h1w : ((p2 : Int) + 256 * n - 1 - k) % (n : Int) = (i1 : Int) := by
                  rw [hi1, Match.back, Int.natCast_emod]
                  congr 1
                  omega
                have h2w : ((i1 : Int) + n - r) % (n : Int) = (i2 : Int) := by
                  rw [hi2, Match.mate, Int.natCast_emod, ← hi1, ← HRE.out]
                  congr 1
                  omega
                obtain ⟨c, hc⟩ : ∃ c, l[i1]? = some c := ⟨l[i1]'(by rw [HL.out]; exact hi1n), List.getElem?_eq_getElem _⟩
                have hc2 : l[i2]? = some c := by
                  have := HMA.out k hkl
                  rw [← hi1, ← hi2, hc] at this
                  exact this.symm
                have z1 := HK5.out.byte hc
                have z2 := HK5.out.byte hc2
                rw [Nat.zero_add] at z1 z2
                clear hc hc2 hi1 hi2
                go_wp2
                go_quiet (fail)
                go_wp2
                go_roundw
                case rel => exact ⟨k + 1, by omega, by go_num, _, rfl⟩
                case measure => simp [intOf]; omega
              · go_wp2
                exact ⟨⟨s + 1, p2, ln2, off2, 0, xs.set (h % ni) p2, by omega, by go_num, rfl, rfl, rfl, rfl, rfl, rfl, rfl, HPM2, by omega, hl232, ho232, HSANE5, HXL5, HX5, HO5, HJ5, HK5, below_drewN HB5.out _, HKS5⟩, by simp [intOf]; omega⟩
      · have hheld := HS.out.held hz
        obtain ⟨e1, e2, _⟩ := hheld
        subst e1
        cases sb
        · clear hsane
          go_wp2
          exact ⟨⟨s + 1, p2, ln2, off2, 0, xs.set (h % ni) p2, by omega, by go_num, rfl, rfl, rfl, rfl, rfl, rfl, rfl, HPM2, by omega, hl232, ho232, HSANE5, HXL5, HX5, HO5, HJ5, HK5, HB5, HKS5⟩, by simp [intOf]; omega⟩
        · have hs255 := hsane rfl
          clear hsane
          go_wp2
          exact ⟨⟨s + 1, p2, ln2, off2, 0, xs.set (h % ni) p2, by omega, by go_num, rfl, rfl, rfl, rfl, rfl, rfl, rfl, HPM2, by omega, hl232, ho232, HSANE5, HXL5, HX5, HO5, HJ5, HK5, HB5, HKS5⟩, by simp [intOf]; omega⟩
    · have hse : s = nh := by omega
      subst hse
      go_wp2_with fail
      refine (equalU8_same _ _ n n n l wr HL.out (by omega) HJ.out HK.out).mono ?_
      rintro e w6 ⟨rfl, b6⟩
      go_wp2
      go_ret
      exact ⟨rfl, HB.out.trans (b6.mono HB.out.size)⟩
end Go.Proofs.Qxb6602245a
