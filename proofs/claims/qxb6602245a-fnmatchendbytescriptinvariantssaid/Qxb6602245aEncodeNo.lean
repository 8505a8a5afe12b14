import Derived.Test.Qxb6602245aEncode
namespace Go.Proofs.Qxb6602245a
open Go.RowKit

set_option maxHeartbeats 1600000 in
set_option maxRecDepth 100000 in
theorem encode_no (E B lo hi p : Nat) (y : Int) (hy : (y != 0) = false) (v : Value) (l : List UInt8) (w : World) (hlh : lo < hi) (hh : hi < 4294967296) (hp : p ≤ 65535)
    (hE : w.heap[E]? = some (.cells #[.int .u32 lo, .int .u32 hi, v] 52 (0, 0))) (hB : B ≤ E) (ho : Outs B w v l) (hl : l.length ≤ 2000000) :
    Calls Try.prog 22 #[.pointer (some ⟨E, 0, none⟩), .int .i64 y, .int .u32 p] w fun e w' => e = .returned (.tuple #[]) ∧ ∃ v',
      w'.heap[E]? = some (.cells #[.int .u32 (Coder.enc lo hi p false).2.1, .int .u32 (Coder.enc lo hi p false).2.2, v'] 52 (0, 0)) ∧ Outs B w' v' (l ++ (Coder.enc lo hi p false).1) ∧ Below B w w' := by
  obtain ⟨i0, hi0, hz0, hz1, hz2⟩ := info_parts Try.info5
  have c0 := cell_of_row w E 0 _ 52 (0, 0) hE
  have c1 := cell_of_row w E 1 _ 52 (0, 0) hE
  have f0 := frozen_of_row w E 0 _ 52 hE
  have f1 := frozen_of_row w E 1 _ 52 hE
  simp at c0 c1
  have HE : Hid (w.heap[E]? = some (.cells #[.int .u32 lo, .int .u32 hi, v] 52 (0, 0))) := hE
  clear hE
  have hmid : ((lo : Int) + IntKind.u64.wrap (((hi : Int) - lo) * p) / 65536 % 4294967296) % 4294967296 = ((Coder.mid lo hi p : Nat) : Int) := mid_walk hlh hh hp
  have hmb := Coder.mid_bounds hlh hp
  have HM : Hid (((lo : Int) + IntKind.u64.wrap (((hi : Int) - lo) * p) / 65536 % 4294967296) % 4294967296 = ((Coder.mid lo hi p : Nat) : Int)) := hmid
  clear hmid
  obtain ⟨M, hM⟩ : ∃ M, M = Coder.mid lo hi p := ⟨_, rfl⟩
  have HMM : Hid (M = Coder.mid lo hi p) := hM
  rw [← hM] at hmb
  clear hM
  obtain ⟨hmb1, hmb2⟩ := hmb
  have hcs := Coder.narrow false hlh hp
  have HL1 : Hid (Coder.lo1 lo hi p false = M + 1) := by first | exact rfl | (rw [HMM.out]; exact rfl)
  have HH1 : Hid (Coder.hi1 lo hi p false = hi) := by first | exact rfl | (rw [HMM.out]; exact rfl)
  have HEN : Hid (Coder.enc lo hi p false = Coder.norm 4 (Coder.lo1 lo hi p false) (Coder.hi1 lo hi p false)) := rfl
  generalize Coder.lo1 lo hi p false = L1 at hcs HL1 HEN
  generalize Coder.hi1 lo hi p false = H1 at hcs HH1 HEN
  generalize hen : Coder.enc lo hi p false = R at HEN ⊢
  clear hen
  obtain ⟨n1, n2, n3⟩ := hcs
  have hBs : B ≤ w.heap.size := by
    have := (Array.getElem?_eq_some_iff.1 HE.out).1
    omega
  go_enter Try.func22, Try.ntmps22
  go_wp2
  go_quiet (fail)
  rw [HM.out, ← HMM.out]
  · go_wp2
    go_loopw [47] (fun _ wr => ∃ (f a b : Nat) (bs : List UInt8) (v' : Value), bs.length + f = 4 ∧ a ≤ b ∧ b < 4294967296 ∧ Hid (Coder.Stops f a b) ∧ Hid (R = (bs ++ (Coder.norm f a b).1, (Coder.norm f a b).2)) ∧
        wr.heap[E]? = some (.cells #[.int .u32 a, .int .u32 b, v'] 52 (0, 0)) ∧ Outs B wr v' (l ++ bs) ∧ Below B w wr) (fun _ wr => l.length + 5 - outLen wr E)
    case atStart =>
      refine ⟨4, L1, H1, [], v, rfl, n2, by omega, Coder.stops4 _ _, by rw [HEN.out]; exact rfl, ?_, ?_, ?_⟩
      · rw [HL1.out, HH1.out]
        exact heap_setCell_same (w.drewN _) E 0 _ 52 _ HE.out
      · rw [List.append_nil]
        exact (ho.drewN _).setCell hB (ho.ne hB HE.out) _
      · exact (below_drewN (Below.refl _ _) _).setCell hB _
    case round =>
      obtain ⟨f, a, b, bs, v', hbf, hab, hb32, HST, HR, hEr, hor, hnx⟩ := hrel
      have c0 := cell_of_row wr E 0 _ 52 (0, 0) hEr
      have c1 := cell_of_row wr E 1 _ 52 (0, 0) hEr
      have c2 := cell_of_row wr E 2 _ 52 (0, 0) hEr
      have f0 := frozen_of_row wr E 0 _ 52 hEr
      have f1 := frozen_of_row wr E 1 _ 52 hEr
      have f2 := frozen_of_row wr E 2 _ 52 hEr
      simp at c0 c1 c2
      have HEr : Hid (wr.heap[E]? = some (.cells #[.int .u32 a, .int .u32 b, v'] 52 (0, 0))) := hEr
      have HOR : Hid (Outs B wr v' (l ++ bs)) := hor
      clear hEr hor
      obtain ⟨X, hX⟩ : ∃ X : Int, X = ((b ^^^ a : Nat) : Int) := ⟨_, rfl⟩
      have hxo : bits .xor .u32 (b : Int) (a : Int) = X := by rw [hX]; exact u32_xor_nat b a hb32 (by omega)
      obtain ⟨c, hc⟩ : ∃ c, c = Coder.byteOf b := ⟨_, rfl⟩
      have hby : IntKind.u8.wrap ((b : Int) / 16777216) = (c.toNat : Int) := by rw [hc, Coder.byteOf_toNat hb32, IntKind.wrap_u8']; unfold Coder.top; omega
      have HC : Hid (c = Coder.byteOf b) := hc
      clear hc
      have hEl : E < wr.heap.size := (Array.getElem?_eq_some_iff.1 HEr.out).1
      have ca2 : ∀ n o, ((wr.drewN n).alloc o).cell? ⟨E, 2, none⟩ = some v' := fun n o => by rw [World.cell?_alloc_past _ _ _ (by simpa using hEl)]; exact c2
      have hBr : B ≤ wr.heap.size := Nat.le_trans hBs hnx.size
      have hlb : (l ++ bs).length ≤ 4000000 := by rw [List.length_append]; omega
      obtain ⟨A, hAd⟩ : ∃ A, A = a * 256 % 4294967296 := ⟨_, rfl⟩
      have haw : (a : Int) * 256 % 4294967296 = (A : Int) := by omega
      have hbw : bits .or .u32 ((b : Int) * 256 % 4294967296) 255 = ((Coder.stepHi b : Nat) : Int) := or_walk b
      have hA : (((A : Int) == 0) = true ∧ Hid (Coder.stepLo a = 1)) ∨ (((A : Int) == 0) = false ∧ Hid (Coder.stepLo a = A)) := by
        by_cases z : A = 0
        · exact .inl ⟨by simp [z], by show Coder.stepLo a = 1; unfold Coder.stepLo; rw [if_pos (by omega)]⟩
        · exact .inr ⟨by rw [beq_eq_false_iff_ne]; omega, by show Coder.stepLo a = A; unfold Coder.stepLo; rw [if_neg (by omega), hAd]⟩
      clear hAd
      by_cases ht : Coder.top b = Coder.top a
      · have hXl : X < 16777216 := by have := Coder.xor_top.2 ht; omega
        clear hX
        go_wp2
        go_quiet (fail)
        go_wp2
        rcases hA with ⟨hA0, hA1⟩ | ⟨hA0, hA1⟩
        · go_region_law (refine step_append_outs rfl (.tmp 52) (.tmp 59) 22 rfl B i0 Try.underlying22 hi0 hz0 hz1 hz2 v' (l ++ bs) rfl ((HOR.out.drewN _).alloc hBr _) ⟨wr.heap.size, 0, none⟩ 1 c rfl (cell_one_new _ _ _) hlb (le_alloc hBr) ?_; intro v2 w2 row hown2 hgrow2 hrow2; obtain ⟨N2, HN2, hown3⟩ := hide_len hown2; clear hown2; obtain ⟨g2, cp2, hv2⟩ := owns_form hown3; subst hv2; have hE2 := block_kept (HEr.out) hgrow2 (by intro hk; exact (HOR.out.ne hB HEr.out) (hrow2 E hk).2); have k0 := cell_of_row w2 E 0 _ 52 (0, 0) hE2; have k1 := cell_of_row w2 E 1 _ 52 (0, 0) hE2; have k2 := cell_of_row w2 E 2 _ 52 (0, 0) hE2; have q0 := frozen_of_row w2 E 0 _ 52 hE2; have q1 := frozen_of_row w2 E 1 _ 52 hE2; have q2 := frozen_of_row w2 E 2 _ 52 hE2; simp at k0 k1 k2)
          all_goals
            have hb2 : Below B w w2 := (((below_drewN hnx _).alloc hBr _)).grown hgrow2 (le_alloc hBr) (fun k hk => (hrow2 k hk).1)
            clear hgrow2 hrow2 ca2 c0 c1 c2 f0 f1 f2
            go_wp2
            have hN3 : N2 = (l ++ (bs ++ [c])).length := by rw [HN2.out, List.append_assoc]
            rw [List.append_assoc] at hown3
            have NX := next_rel HEr.out HOR.out ht HST.out HR.out HC.out hab hbf
            obtain ⟨f', hll, hs1, hs2, hst, hR2, hlen⟩ := NX
            have RX := ret_world2 hB hb2 hE2 hown3 hN3 (.int .u32 ((Coder.stepHi b : Nat) : Int)) (.int .u32 (A : Int)) (.int .u32 1)
            rw [hA1.out] at hs1 hst hR2
            have hL1 := outLen_of RX.1 RX.2.1
            go_roundw
            case rel => exact ⟨f', _, _, bs ++ [c], _, hll, hs1, hs2, hst, hR2, RX.1, RX.2.1, RX.2.2⟩
            case measure => rw [hL1]; exact hlen
        · go_region_law (refine step_append_outs rfl (.tmp 52) (.tmp 59) 22 rfl B i0 Try.underlying22 hi0 hz0 hz1 hz2 v' (l ++ bs) rfl ((HOR.out.drewN _).alloc hBr _) ⟨wr.heap.size, 0, none⟩ 1 c rfl (cell_one_new _ _ _) hlb (le_alloc hBr) ?_; intro v2 w2 row hown2 hgrow2 hrow2; obtain ⟨N2, HN2, hown3⟩ := hide_len hown2; clear hown2; obtain ⟨g2, cp2, hv2⟩ := owns_form hown3; subst hv2; have hE2 := block_kept (HEr.out) hgrow2 (by intro hk; exact (HOR.out.ne hB HEr.out) (hrow2 E hk).2); have k0 := cell_of_row w2 E 0 _ 52 (0, 0) hE2; have k1 := cell_of_row w2 E 1 _ 52 (0, 0) hE2; have k2 := cell_of_row w2 E 2 _ 52 (0, 0) hE2; have q0 := frozen_of_row w2 E 0 _ 52 hE2; have q1 := frozen_of_row w2 E 1 _ 52 hE2; have q2 := frozen_of_row w2 E 2 _ 52 hE2; simp at k0 k1 k2)
          all_goals
            have hb2 : Below B w w2 := (((below_drewN hnx _).alloc hBr _)).grown hgrow2 (le_alloc hBr) (fun k hk => (hrow2 k hk).1)
            clear hgrow2 hrow2 ca2 c0 c1 c2 f0 f1 f2
            go_wp2
            have hN3 : N2 = (l ++ (bs ++ [c])).length := by rw [HN2.out, List.append_assoc]
            rw [List.append_assoc] at hown3
            have NX := next_rel HEr.out HOR.out ht HST.out HR.out HC.out hab hbf
            obtain ⟨f', hll, hs1, hs2, hst, hR2, hlen⟩ := NX
            have RX := ret_world hB hb2 hE2 hown3 hN3 (.int .u32 ((Coder.stepHi b : Nat) : Int)) (.int .u32 (A : Int))
            rw [hA1.out] at hs1 hst hR2
            have hL1 := outLen_of RX.1 RX.2.1
            go_roundw
            case rel => exact ⟨f', _, _, bs ++ [c], _, hll, hs1, hs2, hst, hR2, RX.1, RX.2.1, RX.2.2⟩
            case measure => rw [hL1]; exact hlen
      · have hXl : ¬ X < 16777216 := fun h => ht (Coder.xor_top.1 (by omega))
        clear hX
        go_wp2
        go_quiet (fail)
        go_wp2
        have hR2 : R = (bs, a, b) := by
          rw [HR.out, Coder.norm_stop ht]
          simp
        go_end0
        rw [hR2]
        exact ⟨rfl, v', HEr.out, HOR.out.drewN _, below_drewN hnx _⟩
end Go.Proofs.Qxb6602245a
