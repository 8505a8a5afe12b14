import Derived.Test.Qxb6602245aClone
import Derived.Test.Qxb6602245aTripPlain
import Derived.Test.Qxb6602245aWords
import Derived.Deep.Cut
import Derived.Deep.DeepCutAuto
import Derived.Deep.RegionWith
namespace Go.Proofs.Qxb6602245a
open Go.RowKit

/-- The script: each bit with its chance. -/
def script (ys : List Int) (ps : List Nat) : List (Bool × Nat) := (ys.zip ps).map fun x => (x.1 != 0, x.2)
theorem script_len (ys : List Int) (ps : List Nat) : (script ys ps).length = min ys.length ps.length := by simp [script]
theorem script_at {ys : List Int} {ps : List Nat} {k : Nat} {y : Int} {p : Nat} (hy : ys[k]? = some y) (hp : ps[k]? = some p) : (script ys ps)[k]? = some (y != 0, p) := by
  simp [script, List.getElem?_zip_eq_some, hy, hp]
theorem script_good {ys : List Int} {ps : List Nat} (h : ∀ j p, j < min ys.length ps.length → ps[j]? = some p → p ≤ 65535) : Coder.Good (script ys ps) := by
  intro x hx
  obtain ⟨j, hj, rfl⟩ := List.getElem_of_mem hx
  rw [script_len] at hj
  have := h j ps[j] hj (List.getElem?_eq_getElem _)
  simpa [script] using this

/-- The decoder's loop, at its head. -/
def DecRel (lo hi : Nat) (S : List (Bool × Nat)) (st : List UInt8) (E : Nat) (w : World) (i : Nat) (s22 s23 s24 s26 ii : Value) (wr : World) : Prop :=
  ∃ (t a1 b1 V off nx : Nat), t ≤ i ∧ ii = .int .i64 t ∧ s22 = .int .u32 a1 ∧ s23 = .int .u32 b1 ∧ s24 = .int .u32 V ∧ s26 = .int .i64 nx ∧ Hid (nx = off + 4) ∧ Hid (V = Coder.win (st.drop off)) ∧ Hid (Coder.At lo hi S t a1 b1 off) ∧ Hid (Row wr (some ⟨E, 0, none⟩) (Lib.byteCells st)) ∧ Hid (Below w.heap.size w wr)

set_option maxHeartbeats 3200000 in
set_option maxRecDepth 100000 in
theorem trip_any (lo hi : Nat) (ao ay ap : Option Addr) (n0 c0 ny cy np cp : Nat) (l : List UInt8) (ys : List Int) (ps : List Nat) (w : World) (hh : hi < 4294967296)
    (hn : l.length = n0) (hm : n0 ≤ maxLen) (hrow : Row w ao (Lib.byteCells l)) (hnil : ao = none → n0 = 0 ∧ c0 = 0)
    (hny : ys.length = ny) (hmy : ny ≤ maxLen) (hry : Row w ay (ints ys)) (hnp : ps.length = np) (hmp : np ≤ maxLen) (hrp : Row w ap (words ps)) (hp32 : ∀ p ∈ ps, p < 4294967296) :
    Calls Try.prog 6 #[.int .u32 lo, .int .u32 hi, .slice ao n0 c0, .slice ay ny cy, .slice ap np cp] w fun e w' => e = .returned (.bool true) ∧ Below w.heap.size w w' := by
  have HZ : Hid (Calls Try.prog 17 #[.int .u32 lo, .int .u32 hi, .slice ao n0 c0, .slice ay ny cy, .slice ap np cp] w fun e w' => SomeBool e ∧ w' = w) := zzBytesTrip_any lo hi ao ay ap n0 ny np c0 cy cp w hm hmy hmp
  unfold maxLen at hm hmy hmp
  by_cases g : 262144 < n0
  · go_enter Try.func6, Try.ntmps6
    go_wp2_with fail
    refine HZ.out.mono ?_
    rintro e w' ⟨⟨b, rfl⟩, rfl⟩
    cases b <;>
    · go_wp2
      go_ret
      exact ⟨rfl, Below.refl _ _⟩
  by_cases gy : 32768 < ny
  · go_enter Try.func6, Try.ntmps6
    go_wp2_with fail
    refine HZ.out.mono ?_
    rintro e w' ⟨⟨b, rfl⟩, rfl⟩
    cases b <;>
    · go_wp2
      go_ret
      exact ⟨rfl, Below.refl _ _⟩
  by_cases gp : 32768 < np
  · go_enter Try.func6, Try.ntmps6
    go_wp2_with fail
    refine HZ.out.mono ?_
    rintro e w' ⟨⟨b, rfl⟩, rfl⟩
    cases b <;>
    · go_wp2
      go_ret
      exact ⟨rfl, Below.refl _ _⟩
  by_cases glh : ¬ lo < hi
  · go_enter Try.func6, Try.ntmps6
    go_wp2_with fail
    refine HZ.out.mono ?_
    rintro e w' ⟨⟨b, rfl⟩, rfl⟩
    cases b <;>
    · go_wp2
      go_ret
      exact ⟨rfl, Below.refl _ _⟩
  have hlh : lo < hi := by omega
  clear glh
  have HN : Hid (l.length = n0) := hn
  have HY : Hid (ys.length = ny) := hny
  have HP : Hid (ps.length = np) := hnp
  have HO : Hid (ao = none → n0 = 0 ∧ c0 = 0) := hnil
  have HP32 : Hid (∀ p ∈ ps, p < 4294967296) := hp32
  clear hn hnil hny hnp hp32
  go_enter Try.func6, Try.ntmps6
  go_wp2_with fail
  refine HZ.out.mono ?_
  rintro e wz ⟨⟨b, rfl⟩, hw⟩
  rw [hw]
  clear hw wz
  cases b
  · go_wp2
    go_ret
    exact ⟨rfl, Below.refl _ _⟩
  clear HZ
  go_upto_if 54 with fail
  go_cut [11] from 30 (fun s w' => ∃ n : Nat, n = min ny np ∧ s = .int .i64 n ∧ w' = w)
  case first =>
    by_cases h : np < ny
    · go_wp2
      go_meet
      case rel => exact ⟨np, by omega, rfl, rfl⟩
    · go_wp2
      go_meet
      case rel => exact ⟨ny, by omega, rfl, rfl⟩
  case rest =>
    obtain ⟨n, hnm, rfl, hwc⟩ := hcut
    rw [hwc]
    clear hwc wc
    have hnny : n ≤ ny := by omega
    have hnnp : n ≤ np := by omega
    have hn15 : n ≤ 32768 := by omega
    have HNM : Hid (n = min ny np) := hnm
    clear hnm
    go_wp2
    go_loopw [12] (fun ii wr => ∃ k : Nat, k ≤ n ∧ ii = .int .i64 k ∧ Hid (∀ j p, j < k → ps[j]? = some p → p ≤ 65535) ∧ wr = w) (fun ii _ => n - (intOf ii).toNat)
    case atStart => exact ⟨0, Nat.zero_le _, rfl, fun j p h => absurd h (Nat.not_lt_zero _), rfl⟩
    case round =>
      obtain ⟨k, hk, rfl, HK, hwr⟩ := hrel
      rw [hwr]
      clear hwr wr
      by_cases hlt : k < n
      · obtain ⟨p, hp⟩ : ∃ p, ps[k]? = some p := ⟨ps[k]'(by rw [HP.out]; omega), List.getElem?_eq_getElem _⟩
        obtain ⟨bp, op, ep⟩ := hrp.wshape (by rw [HP.out]; omega)
        subst ep
        have x1 := hrp.word hp
        have HPK : Hid (ps[k]? = some p) := hp
        clear hp
        by_cases hpl : 65535 < p
        · go_wp2
          go_ret
          exact ⟨rfl, Below.refl _ _⟩
        · go_wp2
          go_roundw
          case rel =>
            refine ⟨k + 1, by omega, by go_num, fun j q hj hq => ?_, by trivial⟩
            by_cases e : j = k
            · subst e
              rw [HPK.out] at hq
              cases hq
              omega
            · exact HK.out j q (by omega) hq
          case measure => simp [intOf]; omega
      · have hkn : k = n := by omega
        subst hkn
        have hgood : Coder.Good (script ys ps) := script_good (fun j p hj hp => HK.out j p (by rw [HY.out, HP.out, ← HNM.out] at hj; exact hj) hp)
        have HSL : Hid ((script ys ps).length = k) := by show (script ys ps).length = k; rw [script_len, HY.out, HP.out]; exact HNM.out.symm
        clear HK
        go_wp2_with fail
        refine (cloneU8_any ao n0 c0 l _ HN.out (by omega) hrow HO.out).mono ?_
        rintro e w1 ⟨r, rfl, hrn, hih, R1, b1⟩
        clear hrow HO
        go_wp2_with fail
        refine (cloneU8_any r n0 n0 l w1 HN.out (by omega) R1 (fun h => ⟨hrn h, hrn h⟩)).mono ?_
        rintro e w2 ⟨rb, rfl, hrnb, hihb, R2, b2⟩
        have ho : Outs w2.heap.size w2 (.slice r n0 n0) l := by
          have := outs_of_clone (l := l) (by rw [HN.out]; exact hrn) hih R1 b2
          rwa [HN.out] at this
        have hbw2 := b1.trans (b2.mono b1.size)
        have HBW : Hid (Below w.heap.size w w2) := hbw2
        clear R1 b1 b2 hrn hih hrnb hihb hlt hbw2
        obtain ⟨B, hBdef⟩ : ∃ B, B = w2.heap.size := ⟨_, rfl⟩
        have HB : Hid (B = w2.heap.size) := hBdef
        rw [← hBdef] at ho
        clear hBdef
        obtain ⟨S, hSdef⟩ : ∃ S, S = script ys ps := ⟨_, rfl⟩
        have HS : Hid (S = script ys ps) := hSdef
        rw [← hSdef] at hgood HSL
        clear hSdef
        go_wp2
        go_loopw [14, 15, 16, 17] (fun s14 s15 s16 ii wr => ∃ (i a b : Nat) (bs : List UInt8), i ≤ k ∧ ii = .int .i64 i ∧ s14 = .int .u32 a ∧ s15 = .int .u32 b ∧ Hid (Coder.run lo hi (S.take i) = (bs, a, b)) ∧ Hid (Outs B wr s16 (l ++ bs)) ∧ Hid (Below B w2 wr)) (fun _ _ _ ii _ => k - (intOf ii).toNat)
        case atStart => exact ⟨0, lo, hi, [], Nat.zero_le _, rfl, rfl, rfl, rfl, by show Outs _ _ _ _; rw [List.append_nil]; exact ho, Below.refl _ _⟩
        case round =>
          obtain ⟨i, a, b, bs, hik, rfl, rfl, rfl, HR, HOS, HBE⟩ := hrel
          have hrok : a < b ∧ b < 4294967296 ∧ bs.length ≤ 4 * i := by
            have := Coder.run_ok (S.take i) lo hi hlh hh (fun x hx => hgood x (List.mem_of_mem_take hx))
            rw [HR.out] at this
            refine ⟨this.1, this.2.1, Nat.le_trans this.2.2 ?_⟩
            rw [List.length_take]
            omega
          obtain ⟨hab, hb32, hbl⟩ := hrok
          by_cases hlt : i < k
          · obtain ⟨p, hp⟩ : ∃ p, ps[i]? = some p := ⟨ps[i]'(by rw [HP.out]; omega), List.getElem?_eq_getElem _⟩
            obtain ⟨y, hy⟩ : ∃ y, ys[i]? = some y := ⟨ys[i]'(by rw [HY.out]; omega), List.getElem?_eq_getElem _⟩
            have hwq : Below w.heap.size w wr := HBW.out.trans (HBE.out.mono (by rw [HB.out]; exact HBW.out.size))
            obtain ⟨bp, op, ep⟩ := hrp.wshape (by rw [HP.out]; omega)
            obtain ⟨by', oy, ey⟩ := hry.ishape (by rw [HY.out]; omega)
            subst ep ey
            have x1 := (hrp.below hwq (Nat.le_refl _)).word hp
            have x2 := (hry.below hwq (Nat.le_refl _)).int hy
            have hSi : S[i]? = some (y != 0, p) := by rw [HS.out]; exact script_at hy hp
            have hp16 : p ≤ 65535 := hgood _ (List.mem_of_getElem? hSi)
            have hstep := Coder.run_take_succ S lo hi i _ hSi
            rw [HR.out] at hstep
            dsimp only at hstep
            obtain ⟨R, hRd⟩ : ∃ R, R = Coder.enc a b p (y != 0) := ⟨_, rfl⟩
            rw [← hRd] at hstep
            obtain ⟨bn, l2, h2⟩ := R
            dsimp only at hstep
            have HST : Hid (Coder.run lo hi (S.take (i + 1)) = (bs ++ bn, l2, h2)) := hstep
            have hBr : B ≤ wr.heap.size := by rw [HB.out]; exact HBE.out.size
            have hL : (l ++ bs).length ≤ 2000000 := by rw [List.length_append, HN.out]; omega
            have HC : Hid (∀ w', Outs B w' u16 (l ++ bs) → B ≤ w'.heap.size → Calls Try.prog 18 #[.int .u32 a, .int .u32 b, u16, .int .i64 y, .int .u32 p] w' fun e w'' => ∃ v', e = .returned (.tuple #[.int .u32 l2, .int .u32 h2, v']) ∧ Hid (Outs B w'' v' (l ++ bs ++ bn)) ∧ Hid (Below B w' w'')) := by
              intro w' h1 h3
              have := zzEncode_any B a b p y u16 (l ++ bs) w' hab hb32 hp16 h3 h1 hL
              rw [← hRd] at this
              exact this
            clear hp hy hSi hstep hRd hL
            go_wp2
            go_region_with (go_at_call 18; refine (HC.out _ (HOS.out.drewN 1) hBr).mono ?_; rintro e w4 ⟨v', rfl, H1, H2⟩)
            all_goals
              go_wp2
              have HB4 : Below B wr w4 := ((Below.refl _ _).drew).trans H2.out
              go_roundw
              case rel => exact ⟨i + 1, l2, h2, bs ++ bn, by omega, by go_num, rfl, rfl, HST, by show Outs _ _ _ _; rw [← List.append_assoc]; exact H1.out, HBE.out.trans HB4⟩
              case measure => simp [intOf]; omega
          · have hie : i = k := by omega
            subst hie
            have HRF : Hid (Coder.run lo hi S = (bs, a, b)) := by
              have := HR.out
              rwa [List.take_of_length_le (by rw [HSL.out]; exact Nat.le_refl _)] at this
            obtain ⟨wq, hwq⟩ : ∃ wq, wq = wr := ⟨_, rfl⟩
            subst hwq
            have R3 := R2.below HBE.out (by rw [HB.out]; exact Nat.le_refl _)
            have HBX : Hid (Below w.heap.size w wq) := HBW.out.trans (HBE.out.mono (by rw [HB.out]; exact HBW.out.size))
            obtain ⟨m, hm'⟩ : ∃ m, m = bs.length := ⟨_, rfl⟩
            have HM : Hid (m = bs.length) := hm'
            rw [← hm'] at hbl
            clear hm'
            obtain ⟨ro, co, hv, RO⟩ := HOS.out.row
            obtain ⟨N, hN⟩ : ∃ N, N = (l ++ bs).length := ⟨_, rfl⟩
            rw [← hN] at hv
            have hNm : N = n0 + m := by rw [hN, List.length_append, HN.out, HM.out]
            subst hv
            clear hN hlt R2 HOS HBE HR HBW
            have hNi : (N : Int) - (n0 : Int) = (m : Int) := by omega
            have hN0 : ¬ N < n0 := by omega
            have HNm : Hid (N = n0 + m) := hNm
            clear hNm
            go_wp2
            go_loopw [18] (fun ii wr => ∃ k : Nat, k ≤ n0 ∧ ii = .int .i64 k ∧ ∃ nq, wr = wq.drewN nq) (fun ii _ => n0 - (intOf ii).toNat)
            case atStart => exact ⟨0, Nat.zero_le _, rfl, 0, rfl⟩
            case round =>
              obtain ⟨q, hq, rfl, nq, rfl⟩ := hrel
              by_cases hlt : q < n0
              · obtain ⟨c, hc⟩ : ∃ c, l[q]? = some c := ⟨l[q]'(by rw [HN.out]; exact hlt), List.getElem?_eq_getElem _⟩
                obtain ⟨bb, oo, e1⟩ := R3.shape (by rw [HN.out]; omega)
                obtain ⟨bo, oof, e2⟩ := RO.shape (by rw [List.length_append, HN.out]; omega)
                subst e1 e2
                have x1 := R3.byte hc
                have x2 := RO.byte (k := q) (c := c) (by rw [List.getElem?_append_left (by rw [HN.out]; exact hlt)]; exact hc)
                clear hc
                have hqN : q < N := by omega
                go_wp2
                go_quiet (fail)
                go_wp2
                go_roundw
                case rel => exact ⟨q + 1, by omega, by go_num, _, rfl⟩
                case measure => simp [intOf]; omega
              · have R4 := R3.drewN nq
                have RO4 := RO.drewN nq
                have HBX4 : Hid (Below w.heap.size w (wq.drewN nq)) := below_drewN HBX.out nq
                obtain ⟨wx, hwx⟩ : ∃ wx, wx = wq.drewN nq := ⟨_, rfl⟩
                rw [← hwx] at R4 RO4 HBX4 ⊢
                clear hwx R3 RO HBX
                obtain ⟨i0, hi0, hz0, hz1, hz2⟩ := info_parts Try.info5
                go_wp2_with (at_make; (refine wpList_make_full _ rfl _ _ 22 rfl wx.heap.size 5 i0 (.int .u8 0) 1 Try.underlying22 hi0 hz0 hz1 _ _ _ _ (m + 4) rfl rfl (by omega) (by omega) ?b2 ?b3 (Nat.le_refl _) ?_))
                case b2 => rw [hz2]; omega
                case b3 => unfold maxLen; omega
                intro w5 hown5 hgrow5
                have hbx5 : Below wx.heap.size wx w5 := (Below.refl _ _).grown hgrow5 (Nat.le_refl _) (fun k h => by cases h)
                have RO5 := RO4.below hbx5 (Nat.le_refl _)
                have HB5 : Hid (Below w.heap.size w w5) := HBX4.out.trans (hbx5.mono HBX4.out.size)
                clear hgrow5 R4
                obtain ⟨E, hE⟩ : ∃ E, E = wx.heap.size := ⟨_, rfl⟩
                rw [← hE] at hown5 hbx5 ⊢
                have HEQ : Hid (E = wx.heap.size) := hE
                clear hE
                go_wp2
                go_loopw [21] (fun ii wr => ∃ (q : Nat) (xs : List Value), q ≤ m ∧ ii = .int .i64 q ∧ Hid (xs.take q = (Lib.byteCells bs).take q) ∧ wr.ownsRow E 5 1 (.slice (some ⟨E, 0, none⟩) (m + 4) (m + 4)) (m + 4) xs ∧ Hid (Below E wx wr)) (fun ii _ => m - (intOf ii).toNat)
                case atStart => exact ⟨0, _, Nat.zero_le _, rfl, by show List.take 0 _ = List.take 0 _; rw [List.take_zero, List.take_zero], hown5, hbx5⟩
                case round =>
                  obtain ⟨q, xs, hq, rfl, HTK, hown, HNX⟩ := hrel
                  have hxl : xs.length = m + 4 := by have := hown.1; omega
                  by_cases hlt : q < m
                  · obtain ⟨c, hc⟩ : ∃ c, bs[q]? = some c := ⟨bs[q]'(by rw [← HM.out]; exact hlt), List.getElem?_eq_getElem _⟩
                    obtain ⟨bo, oof, e2⟩ := RO4.shape (by rw [List.length_append, HN.out, ← HM.out]; omega)
                    subst e2
                    have x2 := (RO4.below HNX.out (by rw [HEQ.out]; exact Nat.le_refl _)).byte (k := n0 + q) (c := c) (by rw [List.getElem?_append_right (by rw [HN.out]; omega), HN.out]; simpa using hc)
                    have hcx := hown.cellAt q (by omega)
                    rw [List.getElem?_eq_getElem (by omega)] at hcx
                    have hfz := hown.frozenAt q
                    have HSS := hown.stored q (.int .u8 c.toNat)
                    have HT : Hid ((xs.set q (.int .u8 c.toNat)).take (q + 1) = (Lib.byteCells bs).take (q + 1)) := take_set_snoc HTK.out (by omega) (by rw [bc_get, hc]; rfl)
                    have hnq : n0 + q < N := by rw [HNm.out]; omega
                    have hq4 : q < m + 4 := by omega
                    clear hown hc
                    go_wp2
                    go_roundw
                    case rel => exact ⟨q + 1, _, by omega, by go_num, HT, HSS.1, HNX.out.setCell (Nat.le_refl _) _⟩
                    case measure => simp [intOf]; omega
                  · have hqe : q = m := by omega
                    subst hqe
                    obtain ⟨d0, hd0⟩ : ∃ d, d = UInt8.ofNat (a / 16777216) := ⟨_, rfl⟩
                    obtain ⟨d1, hd1⟩ : ∃ d, d = UInt8.ofNat (a / 65536) := ⟨_, rfl⟩
                    obtain ⟨d2, hd2⟩ : ∃ d, d = UInt8.ofNat (a / 256) := ⟨_, rfl⟩
                    obtain ⟨d3, hd3⟩ : ∃ d, d = UInt8.ofNat a := ⟨_, rfl⟩
                    have t0 : IntKind.u8.wrap ((a : Int) / 16777216) = (d0.toNat : Int) := by rw [hd0, UInt8.toNat_ofNat', IntKind.wrap_u8']; omega
                    have t1 : IntKind.u8.wrap ((a : Int) / 65536) = (d1.toNat : Int) := by rw [hd1, UInt8.toNat_ofNat', IntKind.wrap_u8']; omega
                    have t2 : IntKind.u8.wrap ((a : Int) / 256) = (d2.toNat : Int) := by rw [hd2, UInt8.toNat_ofNat', IntKind.wrap_u8']; omega
                    have t3 : IntKind.u8.wrap (a : Int) = (d3.toNat : Int) := by rw [hd3, UInt8.toNat_ofNat', IntKind.wrap_u8']; omega
                    have HBE32 : Hid (Coder.be32 a = [d0, d1, d2, d3]) := by show Coder.be32 a = _; rw [hd0, hd1, hd2, hd3]; rfl
                    clear hd0 hd1 hd2 hd3
                    have hq0 : q < q + 4 := by omega
                    have hq1 : q + 1 < q + 4 := by omega
                    have hq2 : q + 2 < q + 4 := by omega
                    have hq3 : q + 3 < q + 4 := by omega
                    have k0 := hown.cellAt q (by omega)
                    rw [List.getElem?_eq_getElem (by omega)] at k0
                    have f0 := hown.frozenAt q
                    have o1 := (hown.stored q (.int .u8 d0.toNat)).1
                    have k1 := o1.cellAt (q + 1) (by omega)
                    rw [List.getElem?_eq_getElem (by rw [List.length_set]; omega)] at k1
                    have f1 := o1.frozenAt (q + 1)
                    have o2 := (o1.stored (q + 1) (.int .u8 d1.toNat)).1
                    have k2 := o2.cellAt (q + 2) (by omega)
                    rw [List.getElem?_eq_getElem (by rw [List.length_set, List.length_set]; omega)] at k2
                    have f2 := o2.frozenAt (q + 2)
                    have o3 := (o2.stored (q + 2) (.int .u8 d2.toNat)).1
                    have k3 := o3.cellAt (q + 3) (by omega)
                    rw [List.getElem?_eq_getElem (by rw [List.length_set, List.length_set, List.length_set]; omega)] at k3
                    have f3 := o3.frozenAt (q + 3)
                    have HO4 := (o3.stored (q + 3) (.int .u8 d3.toNat)).1
                    clear hown o1 o2 o3
                    obtain ⟨st, hst⟩ : ∃ st, st = bs ++ Coder.be32 a := ⟨_, rfl⟩
                    have HXS : Hid ((((xs.set q (.int .u8 d0.toNat)).set (q + 1) (.int .u8 d1.toNat)).set (q + 2) (.int .u8 d2.toNat)).set (q + 3) (.int .u8 d3.toNat) = Lib.byteCells st) := by
                      show _ = Lib.byteCells st
                      rw [four_set hxl (HTK.out.trans (List.take_of_length_le (by rw [bc_len, ← HM.out]; exact Nat.le_refl _))), hst, HBE32.out]
                      simp [Lib.byteCells]
                    rw [HXS.out] at HO4
                    have HLEFT : Hid (st = Coder.left lo hi S) := by show st = _; rw [hst]; unfold Coder.left; rw [HRF.out]
                    have HSTL : Hid (st.length = q + 4) := by show st.length = q + 4; rw [hst, List.length_append, ← HM.out]; rfl
                    have HRL : Hid ((Coder.run lo hi S).1.length = q) := by show (Coder.run lo hi S).1.length = q; rw [HRF.out]; exact HM.out.symm
                    clear hst HXS HTK
                    have HBL : Hid (Below w.heap.size w wr) := HBX4.out.trans (HNX.out.mono (by rw [HEQ.out]; exact HBX4.out.size))
                    have hwE : w.heap.size ≤ E := by rw [HEQ.out]; exact HBX4.out.size
                    have HR4 : Hid (Row ((((wr.setCell ⟨E, q, none⟩ (.int .u8 d0.toNat)).setCell ⟨E, q + 1, none⟩ (.int .u8 d1.toNat)).setCell ⟨E, q + 2, none⟩ (.int .u8 d2.toNat)).setCell ⟨E, q + 3, none⟩ (.int .u8 d3.toNat)) (some ⟨E, 0, none⟩) (Lib.byteCells st)) := by
                      obtain ⟨r', c', er, RR, _⟩ := Row.of_owns HO4
                      cases er
                      exact RR
                    have HB4 : Hid (Below w.heap.size w ((((wr.setCell ⟨E, q, none⟩ (.int .u8 d0.toNat)).setCell ⟨E, q + 1, none⟩ (.int .u8 d1.toNat)).setCell ⟨E, q + 2, none⟩ (.int .u8 d2.toNat)).setCell ⟨E, q + 3, none⟩ (.int .u8 d3.toNat))) := (((HBL.out.setCell hwE _).setCell hwE _).setCell hwE _).setCell hwE _
                    clear HO4
                    go_wp2
                    clear t0 t1 t2 t3 k0 k1 k2 k3 f0 f1 f2 f3 HBL
                    go_loopw [24, 25] (fun cv ii wr => ∃ (j V : Nat), j ≤ 4 ∧ ii = .int .i64 j ∧ cv = .int .u32 V ∧ Hid (V = Coder.num (st.take j)) ∧ Hid (Row wr (some ⟨E, 0, none⟩) (Lib.byteCells st)) ∧ Hid (Below w.heap.size w wr)) (fun _ ii _ => 4 - (intOf ii).toNat)
                    case atStart => exact ⟨0, 0, Nat.zero_le _, rfl, rfl, by show 0 = Coder.num (List.take 0 st); rw [List.take_zero]; rfl, HR4, HB4⟩
                    case round =>
                      obtain ⟨j, V, hj, rfl, rfl, HV, HRW, HBL⟩ := hrel
                      by_cases hjl : j < 4
                      · obtain ⟨c, hc⟩ : ∃ c, st[j]? = some c := ⟨st[j]'(by rw [HSTL.out]; omega), List.getElem?_eq_getElem _⟩
                        have x2 := HRW.out.byte hc
                        rw [Nat.zero_add] at x2
                        have hs := Coder.num_take_succ st j c hc
                        have hV1 := Coder.num_take_lt st (j + 1) (by omega)
                        rw [← HV.out] at hs
                        rw [hs] at hV1
                        obtain ⟨x, hx⟩ : ∃ x, x = c.toNat := ⟨_, rfl⟩
                        have hcl := c.toNat_lt
                        rw [← hx] at x2 hs hV1 hcl
                        have hor := or32 V x hcl
                        obtain ⟨U, hU⟩ : ∃ U, U = V * 256 % 4294967296 + x := ⟨_, rfl⟩
                        have HUS : Hid (U = Coder.num (st.take (j + 1))) := by show U = _; rw [hs, hU]; omega
                        rw [← hU] at hor
                        have hj4 : j < q + 4 := by omega
                        clear hc hs hx hV1 hU
                        go_wp2
                        go_roundw
                        case rel => exact ⟨j + 1, U, by omega, by go_num, rfl, HUS, HRW, HBL⟩
                        case measure => simp [intOf]; omega
                      · have hje : j = 4 := by omega
                        subst hje
                        have HV0 : Hid (V = Coder.win (st.drop 0)) := HV
                        clear HV
                        go_wp2
                        go_loopw [22, 23, 24, 26, 27] (DecRel lo hi S st E w i) (fun _ _ _ _ ii _ => i - (intOf ii).toNat)
                        case atStart => exact ⟨0, lo, hi, V, 0, 4, Nat.zero_le _, rfl, rfl, rfl, rfl, rfl, rfl, HV0, Coder.At.start _ _ _, HRW, HBL⟩
                        case round =>
                          clear HRW HBL HV0
                          obtain ⟨t, a1, b1, V, off, nx, hti, rfl, rfl, rfl, rfl, rfl, HNX4, HV4, HAT, HRW, HBL⟩ := hrel
                          obtain ⟨wt, hwt⟩ : ∃ wt, wt = wr := ⟨_, rfl⟩
                          subst hwt
                          have hgd := HAT.out.good hlh hh hgood
                          obtain ⟨hab1, hb1⟩ := hgd
                          by_cases hlt : t < i
                          · obtain ⟨p, hp⟩ : ∃ p, ps[t]? = some p := ⟨ps[t]'(by rw [HP.out]; omega), List.getElem?_eq_getElem _⟩
                            obtain ⟨y, hy⟩ : ∃ y, ys[t]? = some y := ⟨ys[t]'(by rw [HY.out]; omega), List.getElem?_eq_getElem _⟩
                            obtain ⟨bp, op, ep⟩ := hrp.wshape (by rw [HP.out]; omega)
                            obtain ⟨by', oy, ey⟩ := hry.ishape (by rw [HY.out]; omega)
                            subst ep ey
                            have x1 := (hrp.below HBL.out (Nat.le_refl _)).word hp
                            have x2 := (hry.below HBL.out (Nat.le_refl _)).int hy
                            have hSi : S[t]? = some (y != 0, p) := by rw [HS.out]; exact script_at hy hp
                            have hp16 : p ≤ 65535 := hgood _ (List.mem_of_getElem? hSi)
                            have F := HAT.out.facts hlh hh hgood hSi
                            rw [← HLEFT.out, ← HV4.out] at F
                            have hmid : (a1 : Int) + IntKind.u64.wrap (((b1 : Int) - a1) * p) / 65536 % 4294967296 = ((Coder.mid a1 b1 p : Nat) : Int) := mid_walk2 hab1 hb1 hp16
                            have hmb := Coder.mid_bounds hab1 hp16
                            obtain ⟨M, hM⟩ : ∃ M, M = Coder.mid a1 b1 p := ⟨_, rfl⟩
                            have HMM : Hid (M = Coder.mid a1 b1 p) := hM
                            rw [← hM] at F hmid hmb
                            clear hM
                            obtain ⟨hmb1, hmb2⟩ := hmb
                            obtain ⟨F1, F2, F3⟩ := F
                            obtain ⟨R, hRd⟩ : ∃ R, R = Coder.enc a1 b1 p (y != 0) := ⟨_, rfl⟩
                            obtain ⟨bn, a2, b2⟩ := R
                            have HNEXT : Hid (Coder.At lo hi S (t + 1) a2 b2 (off + bn.length)) := HAT.out.next hSi hRd.symm
                            have hoff : off + bn.length ≤ q := by have := HNEXT.out.le; rwa [HRL.out] at this
                            clear hp hy hSi
                            cases hyb : (y != 0) with
                            | true =>
                                have HEN : Hid ((bn, a2, b2) = Coder.norm 4 (a1) (M)) := by
                                  show (bn, a2, b2) = _
                                  rw [hRd, hyb, HMM.out]
                                  rfl
                                have hVM : V ≤ M := F3.2 hyb
                                clear F3 hRd
                                go_wp2
                                go_loopw [22, 23, 24, 26] (fun s22 s23 s24 s26 wr => ∃ (f a3 b3 V3 nx3 : Nat) (bs3 : List UInt8), bs3.length + f = 4 ∧ a3 ≤ b3 ∧ b3 < 4294967296 ∧ s22 = .int .u32 a3 ∧ s23 = .int .u32 b3 ∧ s24 = .int .u32 V3 ∧ s26 = .int .i64 nx3 ∧ Hid (nx3 = off + bs3.length + 4) ∧ Hid (V3 = Coder.win (st.drop (off + bs3.length))) ∧ Hid (Coder.Stops f a3 b3) ∧ Hid ((bn, a2, b2) = (bs3 ++ (Coder.norm f a3 b3).1, (Coder.norm f a3 b3).2)) ∧ Hid (Row wr (some ⟨E, 0, none⟩) (Lib.byteCells st)) ∧ Hid (Below w.heap.size w wr)) (fun _ _ _ s26 _ => q + 5 - (intOf s26).toNat)
                                case atStart => exact ⟨4, a1, M, V, nx, [], rfl, by omega, by omega, rfl, rfl, rfl, rfl, HNX4, HV4, Coder.stops4 _ _, HEN, HRW, HBL⟩
                                case round =>
                                  obtain ⟨f, a3, b3, V3, nx3, bs3, hbf, hab3, hb3, rfl, rfl, rfl, rfl, HNX3, HV3, HST3, HR3, HRW3, HBL3⟩ := hrel
                                  obtain ⟨X, hX⟩ : ∃ X : Int, X = ((b3 ^^^ a3 : Nat) : Int) := ⟨_, rfl⟩
                                  have hxo : bits .xor .u32 (b3 : Int) (a3 : Int) = X := by rw [hX]; exact u32_xor_nat b3 a3 hb3 (by omega)
                                  by_cases ht : Coder.top b3 = Coder.top a3
                                  · have hXl : X < 16777216 := by have := Coder.xor_top.2 ht; omega
                                    obtain ⟨f', hl', hs1, hs2, hst', hR', hlen⟩ := Coder.norm_step HR3.out ht HST3.out hbf hab3
                                    have hnx : nx3 < q + 4 := by rw [HNX3.out]; dsimp only at hlen; omega
                                    obtain ⟨c, hc⟩ : ∃ c, st[nx3]? = some c := ⟨st[nx3]'(by rw [HSTL.out]; exact hnx), List.getElem?_eq_getElem _⟩
                                    have x2 := HRW3.out.byte hc
                                    rw [Nat.zero_add] at x2
                                    have hwn := Coder.win_next (s := st) (q := off + bs3.length) (c := c) (by rw [← HNX3.out]; exact hc)
                                    rw [← HV3.out] at hwn
                                    obtain ⟨x, hx⟩ : ∃ x, x = c.toNat := ⟨_, rfl⟩
                                    have hcl := c.toNat_lt
                                    rw [← hx] at x2 hwn hcl
                                    have hor := or32 V3 x hcl
                                    obtain ⟨U, hU⟩ : ∃ U, U = V3 * 256 % 4294967296 + x := ⟨_, rfl⟩
                                    rw [← hU] at hor hwn
                                    have HUW : Hid (U = Coder.win (st.drop (off + (bs3 ++ [Coder.byteOf b3]).length))) := by show U = _; rw [List.length_append, List.length_singleton, ← Nat.add_assoc]; exact hwn.symm
                                    have HN3 : Hid (nx3 + 1 = off + (bs3 ++ [Coder.byteOf b3]).length + 4) := by show nx3 + 1 = _; rw [List.length_append, List.length_singleton, HNX3.out]; omega
                                    have HL' : Hid ((bs3 ++ [Coder.byteOf b3]).length + f' = 4) := hl'
                                    have HST' : Hid (Coder.Stops f' (Coder.stepLo a3) (Coder.stepHi b3)) := hst'
                                    have HR' : Hid ((bn, a2, b2) = ((bs3 ++ [Coder.byteOf b3]) ++ (Coder.norm f' (Coder.stepLo a3) (Coder.stepHi b3)).1, (Coder.norm f' (Coder.stepLo a3) (Coder.stepHi b3)).2)) := hR'
                                    have HS1 : Hid (Coder.stepLo a3 ≤ Coder.stepHi b3) := hs1
                                    have HS2 : Hid (Coder.stepHi b3 < 4294967296) := hs2
                                    obtain ⟨A, hAd⟩ : ∃ A, A = a3 * 256 % 4294967296 := ⟨_, rfl⟩
                                    have haw : (a3 : Int) * 256 % 4294967296 = (A : Int) := by omega
                                    have hbw : bits .or .u32 ((b3 : Int) * 256 % 4294967296) 255 = ((Coder.stepHi b3 : Nat) : Int) := or_walk b3
                                    have hA : (((A : Int) == 0) = true ∧ Hid (Coder.stepLo a3 = 1)) ∨ (((A : Int) == 0) = false ∧ Hid (Coder.stepLo a3 = A)) := by
                                      by_cases z : A = 0
                                      · exact .inl ⟨by simp [z], by show Coder.stepLo a3 = 1; unfold Coder.stepLo; rw [if_pos (by omega)]⟩
                                      · exact .inr ⟨by rw [beq_eq_false_iff_ne]; omega, by show Coder.stepLo a3 = A; unfold Coder.stepLo; rw [if_neg (by omega), hAd]⟩
                                    clear hAd hX hU hwn hc hx hl' hs1 hs2 hst' hR' hlen
                                    rcases hA with ⟨hA0, hA1⟩ | ⟨hA0, hA1⟩
                                    all_goals
                                      rw [hA1.out] at HST' HR' HS1
                                      go_wp2
                                      go_roundw
                                      case rel => exact ⟨f', _, Coder.stepHi b3, U, nx3 + 1, bs3 ++ [Coder.byteOf b3], HL'.out, HS1.out, HS2.out, by first | rfl | rw [haw], rfl, rfl, by go_num, HN3, HUW, HST', HR', HRW3, HBL3⟩
                                      case measure => simp [intOf]; omega
                                  · have hXl : ¬ X < 16777216 := fun h => ht (Coder.xor_top.1 (by omega))
                                    clear hX
                                    have hR2 : (bn, a2, b2) = (bs3, a3, b3) := by
                                      rw [HR3.out, Coder.norm_stop ht]
                                      simp
                                    obtain ⟨e1, e2, e3⟩ : bn = bs3 ∧ a2 = a3 ∧ b2 = b3 := by simpa using hR2
                                    have HAT3 : Hid (Coder.At lo hi S (t + 1) a3 b3 (off + bs3.length)) := by
                                      have := HNEXT.out
                                      rwa [e1, e2, e3] at this
                                    clear hR2 e1 e2 e3
                                    go_wp2
                                    exact ⟨⟨_, _, _, _, _, _, ⟨t + 1, a3, b3, V3, off + bs3.length, nx3, by omega, by go_num, rfl, rfl, rfl, rfl, HNX3, HV3, HAT3, HRW3, HBL3⟩, rfl, rfl, rfl, rfl, rfl, rfl⟩, by simp [intOf]; omega⟩
                            | false =>
                                have HEN : Hid ((bn, a2, b2) = Coder.norm 4 (M + 1) (b1)) := by
                                  show (bn, a2, b2) = _
                                  rw [hRd, hyb, HMM.out]
                                  rfl
                                have hVM : ¬ V ≤ M := fun h => by have := F3.1 h; rw [hyb] at this; cases this
                                clear F3 hRd
                                go_wp2
                                go_loopw [22, 23, 24, 26] (fun s22 s23 s24 s26 wr => ∃ (f a3 b3 V3 nx3 : Nat) (bs3 : List UInt8), bs3.length + f = 4 ∧ a3 ≤ b3 ∧ b3 < 4294967296 ∧ s22 = .int .u32 a3 ∧ s23 = .int .u32 b3 ∧ s24 = .int .u32 V3 ∧ s26 = .int .i64 nx3 ∧ Hid (nx3 = off + bs3.length + 4) ∧ Hid (V3 = Coder.win (st.drop (off + bs3.length))) ∧ Hid (Coder.Stops f a3 b3) ∧ Hid ((bn, a2, b2) = (bs3 ++ (Coder.norm f a3 b3).1, (Coder.norm f a3 b3).2)) ∧ Hid (Row wr (some ⟨E, 0, none⟩) (Lib.byteCells st)) ∧ Hid (Below w.heap.size w wr)) (fun _ _ _ s26 _ => q + 5 - (intOf s26).toNat)
                                case atStart => exact ⟨4, M + 1, b1, V, nx, [], rfl, by omega, by omega, by go_num, rfl, rfl, rfl, HNX4, HV4, Coder.stops4 _ _, HEN, HRW, HBL⟩
                                case round =>
                                  obtain ⟨f, a3, b3, V3, nx3, bs3, hbf, hab3, hb3, rfl, rfl, rfl, rfl, HNX3, HV3, HST3, HR3, HRW3, HBL3⟩ := hrel
                                  obtain ⟨X, hX⟩ : ∃ X : Int, X = ((b3 ^^^ a3 : Nat) : Int) := ⟨_, rfl⟩
                                  have hxo : bits .xor .u32 (b3 : Int) (a3 : Int) = X := by rw [hX]; exact u32_xor_nat b3 a3 hb3 (by omega)
                                  by_cases ht : Coder.top b3 = Coder.top a3
                                  · have hXl : X < 16777216 := by have := Coder.xor_top.2 ht; omega
                                    obtain ⟨f', hl', hs1, hs2, hst', hR', hlen⟩ := Coder.norm_step HR3.out ht HST3.out hbf hab3
                                    have hnx : nx3 < q + 4 := by rw [HNX3.out]; dsimp only at hlen; omega
                                    obtain ⟨c, hc⟩ : ∃ c, st[nx3]? = some c := ⟨st[nx3]'(by rw [HSTL.out]; exact hnx), List.getElem?_eq_getElem _⟩
                                    have x2 := HRW3.out.byte hc
                                    rw [Nat.zero_add] at x2
                                    have hwn := Coder.win_next (s := st) (q := off + bs3.length) (c := c) (by rw [← HNX3.out]; exact hc)
                                    rw [← HV3.out] at hwn
                                    obtain ⟨x, hx⟩ : ∃ x, x = c.toNat := ⟨_, rfl⟩
                                    have hcl := c.toNat_lt
                                    rw [← hx] at x2 hwn hcl
                                    have hor := or32 V3 x hcl
                                    obtain ⟨U, hU⟩ : ∃ U, U = V3 * 256 % 4294967296 + x := ⟨_, rfl⟩
                                    rw [← hU] at hor hwn
                                    have HUW : Hid (U = Coder.win (st.drop (off + (bs3 ++ [Coder.byteOf b3]).length))) := by show U = _; rw [List.length_append, List.length_singleton, ← Nat.add_assoc]; exact hwn.symm
                                    have HN3 : Hid (nx3 + 1 = off + (bs3 ++ [Coder.byteOf b3]).length + 4) := by show nx3 + 1 = _; rw [List.length_append, List.length_singleton, HNX3.out]; omega
                                    have HL' : Hid ((bs3 ++ [Coder.byteOf b3]).length + f' = 4) := hl'
                                    have HST' : Hid (Coder.Stops f' (Coder.stepLo a3) (Coder.stepHi b3)) := hst'
                                    have HR' : Hid ((bn, a2, b2) = ((bs3 ++ [Coder.byteOf b3]) ++ (Coder.norm f' (Coder.stepLo a3) (Coder.stepHi b3)).1, (Coder.norm f' (Coder.stepLo a3) (Coder.stepHi b3)).2)) := hR'
                                    have HS1 : Hid (Coder.stepLo a3 ≤ Coder.stepHi b3) := hs1
                                    have HS2 : Hid (Coder.stepHi b3 < 4294967296) := hs2
                                    obtain ⟨A, hAd⟩ : ∃ A, A = a3 * 256 % 4294967296 := ⟨_, rfl⟩
                                    have haw : (a3 : Int) * 256 % 4294967296 = (A : Int) := by omega
                                    have hbw : bits .or .u32 ((b3 : Int) * 256 % 4294967296) 255 = ((Coder.stepHi b3 : Nat) : Int) := or_walk b3
                                    have hA : (((A : Int) == 0) = true ∧ Hid (Coder.stepLo a3 = 1)) ∨ (((A : Int) == 0) = false ∧ Hid (Coder.stepLo a3 = A)) := by
                                      by_cases z : A = 0
                                      · exact .inl ⟨by simp [z], by show Coder.stepLo a3 = 1; unfold Coder.stepLo; rw [if_pos (by omega)]⟩
                                      · exact .inr ⟨by rw [beq_eq_false_iff_ne]; omega, by show Coder.stepLo a3 = A; unfold Coder.stepLo; rw [if_neg (by omega), hAd]⟩
                                    clear hAd hX hU hwn hc hx hl' hs1 hs2 hst' hR' hlen
                                    rcases hA with ⟨hA0, hA1⟩ | ⟨hA0, hA1⟩
                                    all_goals
                                      rw [hA1.out] at HST' HR' HS1
                                      go_wp2
                                      go_roundw
                                      case rel => exact ⟨f', _, Coder.stepHi b3, U, nx3 + 1, bs3 ++ [Coder.byteOf b3], HL'.out, HS1.out, HS2.out, by first | rfl | rw [haw], rfl, rfl, by go_num, HN3, HUW, HST', HR', HRW3, HBL3⟩
                                      case measure => simp [intOf]; omega
                                  · have hXl : ¬ X < 16777216 := fun h => ht (Coder.xor_top.1 (by omega))
                                    clear hX
                                    have hR2 : (bn, a2, b2) = (bs3, a3, b3) := by
                                      rw [HR3.out, Coder.norm_stop ht]
                                      simp
                                    obtain ⟨e1, e2, e3⟩ : bn = bs3 ∧ a2 = a3 ∧ b2 = b3 := by simpa using hR2
                                    have HAT3 : Hid (Coder.At lo hi S (t + 1) a3 b3 (off + bs3.length)) := by
                                      have := HNEXT.out
                                      rwa [e1, e2, e3] at this
                                    clear hR2 e1 e2 e3
                                    go_wp2
                                    exact ⟨⟨_, _, _, _, _, _, ⟨t + 1, a3, b3, V3, off + bs3.length, nx3, by omega, by go_num, rfl, rfl, rfl, rfl, HNX3, HV3, HAT3, HRW3, HBL3⟩, rfl, rfl, rfl, rfl, rfl, rfl⟩, by simp [intOf]; omega⟩
                          · have hte : t = i := by omega
                            subst hte
                            obtain ⟨z1, z2⟩ := (show Coder.At lo hi S S.length a1 b1 off by rw [HSL.out]; exact HAT.out).last
                            rw [HRL.out] at z2
                            rw [HRF.out] at z1
                            have z3 : a = a1 ∧ b = b1 := by simpa using z1
                            obtain ⟨rfl, rfl⟩ := z3
                            have hnxe : nx = q + 4 := by rw [HNX4.out, z2]
                            clear z1 z2
                            subst hnxe
                            go_wp2
                            go_ret
                            exact ⟨by simp, HBL.out⟩
end Go.Proofs.Qxb6602245a
