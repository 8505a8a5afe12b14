import Derived.Test.Qxb6602245aEndByte
namespace Go.Proofs.Qxb6602245a
open Go.RowKit

theorem row_setE {w : World} {J E : Nat} {xs : List Value} (h : Row w (some ⟨J, 0, none⟩) xs) (hJE : J ≠ E) (j : Nat) (u : Value) : Row (w.setCell ⟨E, j, none⟩ u) (some ⟨J, 0, none⟩) xs := by
  intro i v hi
  obtain ⟨b, off, e, hc⟩ := h i v hi
  cases e
  exact ⟨J, 0, rfl, (World.cell?_of_block (w := w) (a := ⟨J, 0 + i, none⟩) (Below.heap_setCell w ⟨E, j, none⟩ u J hJE)).trans hc⟩

set_option maxHeartbeats 1600000 in
set_option maxRecDepth 100000 in
theorem endByte_fresh (E I J B n ni a b p off h : Nat) (bt at_ : Int) (xs : List Nat) (l : List UInt8) (w : World)
    (hE : w.heap[E]? = some (.cells #[.slice (some ⟨I, 0, none⟩) ni ni, .slice (some ⟨J, 0, none⟩) n n, .int .u32 p, .int .u32 0, .int .u32 off, .int .u32 bt, .int .u64 at_] 49 (0, 0))) (hI : w.ownsRow B 24 1 (.slice (some ⟨I, 0, none⟩) ni ni) ni (words xs)) (hIE : I ≠ E) (hJ : Row w (some ⟨J, 0, none⟩) (Lib.byteCells l)) (hJE : J ≠ E) (hl : l.length = n) (hn : n = 2 ^ a) (hni : ni = 2 ^ b) (h18 : n ≤ 262144) (h16 : ni ≤ 65536)
    (hh : h < 4294967296) (hxs : xs.length = ni) (hx32 : ∀ x ∈ xs, x < 4294967296) :
    Calls Try.prog 21 #[.pointer (some ⟨E, 0, none⟩), .int .u32 h] w fun e w' => e = .returned (.tuple #[]) ∧ ∃ p2 ln2 off2, Match.Step n l p 0 off p2 ln2 off2 ∧
      w'.heap[E]? = some (.cells #[.slice (some ⟨I, 0, none⟩) ni ni, .slice (some ⟨J, 0, none⟩) n n, .int .u32 p2, .int .u32 ln2, .int .u32 off2, .int .u32 bt, .int .u64 0] 49 (0, 0)) ∧ w'.ownsRow B 24 1 (.slice (some ⟨I, 0, none⟩) ni ni) ni (words (xs.set (h % ni) p2)) ∧ Two E I w w' := by
  have c0 := cell_of_row w E 0 _ 49 (0, 0) hE
  have c1 := cell_of_row w E 1 _ 49 (0, 0) hE
  have c2 := cell_of_row w E 2 _ 49 (0, 0) hE
  have c3 := cell_of_row w E 3 _ 49 (0, 0) hE
  have c4 := cell_of_row w E 4 _ 49 (0, 0) hE
  have c6 := cell_of_row w E 6 _ 49 (0, 0) hE
  have f2 := frozen_of_row w E 2 _ 49 hE
  have f3 := frozen_of_row w E 3 _ 49 hE
  have f4 := frozen_of_row w E 4 _ 49 hE
  have f6 := frozen_of_row w E 6 _ 49 hE
  simp at c0 c1 c2 c3 c4 c6
  have n0 : 0 < n := by rw [hn]; exact Nat.two_pow_pos a
  have ni0 : 0 < ni := by rw [hni]; exact Nat.two_pow_pos b
  obtain ⟨p2, hp2⟩ : ∃ p2, p2 = (p + 1) % n := ⟨_, rfl⟩
  have hpw : bits .and .u32 (((p : Int) + 1) % 4294967296) ((n : Int) - 1) = (p2 : Int) := by
    obtain ⟨c, hc⟩ := Match.dvd_pow hn (by omega)
    rw [show ((p : Int) + 1) % 4294967296 = (((p + 1) % 4294967296 : Nat) : Int) by omega, and_mask hn (by omega) (by omega), hp2, hc, Nat.mod_mul_right_mod]
  obtain ⟨q, hq⟩ : ∃ q, q = h % ni := ⟨_, rfl⟩
  have hhw : bits .and .u32 (h : Int) ((ni : Int) - 1) = (q : Int) := by rw [and_mask hni hh (by omega), hq]
  have hqn : q < ni := by rw [hq]; exact Nat.mod_lt _ ni0
  have hp2n : p2 < n := by rw [hp2]; exact Nat.mod_lt _ n0
  obtain ⟨z, hz⟩ : ∃ z, xs[q]? = some z := ⟨xs[q]'(by omega), List.getElem?_eq_getElem _⟩
  have hz32 : z < 4294967296 := hx32 z (List.mem_of_getElem? hz)
  have x1 := hI.cellAt q (by omega)
  rw [words_get hz] at x1
  have xf := hI.frozenAt q
  obtain ⟨off2, hof⟩ : ∃ o : Nat, (o : Int) = ((p2 : Int) - z) % 4294967296 := ⟨(((p2 : Int) - z) % 4294967296).toNat, by omega⟩
  have hofw : ((p2 : Int) - z) % 4294967296 = (off2 : Int) := hof.symm
  have hof32 : off2 < 4294967296 := by omega
  obtain ⟨r, hr⟩ : ∃ r, r = off2 % n := ⟨_, rfl⟩
  have hrw : bits .and .u32 (off2 : Int) ((n : Int) - 1) = (r : Int) := by rw [and_mask hn hof32 (by omega), hr]
  have HP2 : Hid (p2 = (p + 1) % n) := hp2
  have HQ : Hid (q = h % ni) := hq
  have HRR : Hid (r = off2 % n) := hr
  have HE : Hid (w.heap[E]? = some (.cells #[.slice (some ⟨I, 0, none⟩) ni ni, .slice (some ⟨J, 0, none⟩) n n, .int .u32 p, .int .u32 0, .int .u32 off, .int .u32 bt, .int .u64 at_] 49 (0, 0))) := hE
  have HN : Hid (n = 2 ^ a) := hn
  have HI : Hid (w.ownsRow B 24 1 (.slice (some ⟨I, 0, none⟩) ni ni) ni (words xs)) := hI
  clear hp2 hq hE hn hni hI hof hr hz
  by_cases hr0 : r = 0
  · subst hr0
    go_enter Try.func21, Try.ntmps21
    go_wp2
    go_quiet (fail)
    go_wp2
    go_region
    go_wp2
    go_end0
    have E1 := heap_setCell_same w E 6 _ 49 (.int .u64 0) HE.out
    have E2 := heap_setCell_same _ E 2 _ 49 (.int .u32 (p2 : Int)) E1
    have E3 := heap_setCell_same (((w.setCell ⟨E, 6, none⟩ (.int .u64 0)).setCell ⟨E, 2, none⟩ (.int .u32 (p2 : Int))).drewN (nq + 1)) E 4 _ 49 (.int .u32 (off2 : Int)) E2
    have O2 := owns_setE (owns_setE HI.out hIE 6 (.int .u64 0)) hIE 2 (.int .u32 (p2 : Int))
    have O3 := owns_setE (w := ((w.setCell ⟨E, 6, none⟩ (.int .u64 0)).setCell ⟨E, 2, none⟩ (.int .u32 (p2 : Int))).drewN (nq + 1)) O2 hIE 4 (.int .u32 (off2 : Int))
    have T3 := ((((Two.refl E I w).setE 6 (.int .u64 0)).setE 2 (.int .u32 (p2 : Int))).drewN (nq + 1)).setE 4 (.int .u32 (off2 : Int))
    have F := end_world (q := q) (p2 := p2) E3 O3 T3 hIE
    rw [← HQ.out]
    exact ⟨rfl, p2, 0, off2, ⟨HP2.out, by omega, hof32, fun h => absurd rfl h, fun _ => ⟨by omega, fun h => absurd rfl h⟩⟩, F.1, F.2.1, F.2.2⟩
  · go_enter Try.func21, Try.ntmps21
    go_wp2
    go_quiet (fail)
    go_wp2
    go_region
    go_wp2
    have E1 := heap_setCell_same w E 6 _ 49 (.int .u64 0) HE.out
    have E2 := heap_setCell_same _ E 2 _ 49 (.int .u32 (p2 : Int)) E1
    have E3 := heap_setCell_same (((w.setCell ⟨E, 6, none⟩ (.int .u64 0)).setCell ⟨E, 2, none⟩ (.int .u32 (p2 : Int))).drewN (nq + 1)) E 4 _ 49 (.int .u32 (off2 : Int)) E2
    have O2 := owns_setE (owns_setE HI.out hIE 6 (.int .u64 0)) hIE 2 (.int .u32 (p2 : Int))
    have O3 := owns_setE (w := ((w.setCell ⟨E, 6, none⟩ (.int .u64 0)).setCell ⟨E, 2, none⟩ (.int .u32 (p2 : Int))).drewN (nq + 1)) O2 hIE 4 (.int .u32 (off2 : Int))
    have T3 := ((((Two.refl E I w).setE 6 (.int .u64 0)).setE 2 (.int .u32 (p2 : Int))).drewN (nq + 1)).setE 4 (.int .u32 (off2 : Int))
    have R3 := row_setE (w := ((w.setCell ⟨E, 6, none⟩ (.int .u64 0)).setCell ⟨E, 2, none⟩ (.int .u32 (p2 : Int))).drewN (nq + 1)) (row_setE (row_setE hJ hJE 6 (.int .u64 0)) hJE 2 (.int .u32 (p2 : Int))) hJE 4 (.int .u32 (off2 : Int))
    clear c0 c1 c2 c3 c4 c6 f2 f3 f4 f6 x1 xf HE HI hpw hhw hrw hofw hJ
    have hrb : ((r : Int) != 0) = true := by rw [bne_iff_ne]; omega
    rw [hrb]
    go_loopw [63] (fun _ wr => ∃ k : Nat, k ≤ 255 ∧ wr.heap[E]? = some (.cells #[.slice (some ⟨I, 0, none⟩) ni ni, .slice (some ⟨J, 0, none⟩) n n, .int .u32 p2, .int .u32 k, .int .u32 off2, .int .u32 bt, .int .u64 0] 49 (0, 0)) ∧ Hid (wr.ownsRow B 24 1 (.slice (some ⟨I, 0, none⟩) ni ni) ni (words xs)) ∧ Hid (Two E I w wr) ∧ Hid (Row wr (some ⟨J, 0, none⟩) (Lib.byteCells l)) ∧ Hid (∀ j, j < k → l[Match.back n p2 j]? = l[Match.mate n p2 j off2]?)) (fun _ wr => 256 - lenAt wr E)
    case atStart => exact ⟨0, Nat.zero_le _, E3, O3, T3, R3, fun j h => absurd h (Nat.not_lt_zero _)⟩
    case round =>
      clear E1 E2 E3 O2 O3 T3 R3
      obtain ⟨k, hk, hEr, HO, HT, HJ, HK⟩ := hrel
      have hlen := lenAt_of hEr (k := k) rfl
      have HLE : Hid (lenAt wr E = k) := hlen
      have c0 := cell_of_row wr E 0 _ 49 (0, 0) hEr
      have c1 := cell_of_row wr E 1 _ 49 (0, 0) hEr
      have c2 := cell_of_row wr E 2 _ 49 (0, 0) hEr
      have c3 := cell_of_row wr E 3 _ 49 (0, 0) hEr
      have c4 := cell_of_row wr E 4 _ 49 (0, 0) hEr
      have f3 := frozen_of_row wr E 3 _ 49 hEr
      simp at c0 c1 c2 c3 c4
      have HEr : Hid (wr.heap[E]? = some (.cells #[.slice (some ⟨I, 0, none⟩) ni ni, .slice (some ⟨J, 0, none⟩) n n, .int .u32 p2, .int .u32 k, .int .u32 off2, .int .u32 bt, .int .u64 0] 49 (0, 0))) := hEr
      obtain ⟨z', hz'⟩ : ∃ z', xs[q]? = some z' := ⟨xs[q]'(by omega), List.getElem?_eq_getElem _⟩
      have x1 := HO.out.cellAt q (by omega)
      rw [words_get hz'] at x1
      have xf := HO.out.frozenAt q
      clear hEr hlen hz'
      have fin : ∀ m : Nat, k ≤ 255 → (((wr.drewN m).setCell ⟨I, q, none⟩ (.int .u32 (p2 : Int))).heap[E]? = some (.cells #[.slice (some ⟨I, 0, none⟩) ni ni, .slice (some ⟨J, 0, none⟩) n n, .int .u32 p2, .int .u32 k, .int .u32 off2, .int .u32 bt, .int .u64 0] 49 (0, 0)) ∧ ((wr.drewN m).setCell ⟨I, q, none⟩ (.int .u32 (p2 : Int))).ownsRow B 24 1 (.slice (some ⟨I, 0, none⟩) ni ni) ni (words (xs.set q p2)) ∧ Two E I w ((wr.drewN m).setCell ⟨I, q, none⟩ (.int .u32 (p2 : Int)))) :=
        fun m _ => end_world (w1 := wr.drewN m) HEr.out HO.out (HT.out.drewN m) hIE
      have HFIN : Hid (∀ m : Nat, k ≤ 255 → (((wr.drewN m).setCell ⟨I, q, none⟩ (.int .u32 (p2 : Int))).heap[E]? = some (.cells #[.slice (some ⟨I, 0, none⟩) ni ni, .slice (some ⟨J, 0, none⟩) n n, .int .u32 p2, .int .u32 k, .int .u32 off2, .int .u32 bt, .int .u64 0] 49 (0, 0)) ∧ ((wr.drewN m).setCell ⟨I, q, none⟩ (.int .u32 (p2 : Int))).ownsRow B 24 1 (.slice (some ⟨I, 0, none⟩) ni ni) ni (words (xs.set q p2)) ∧ Two E I w ((wr.drewN m).setCell ⟨I, q, none⟩ (.int .u32 (p2 : Int))))) := fin
      clear fin
      have HSTEP : Hid (Match.Step n l p 0 off p2 k off2) := ⟨HP2.out, by omega, hof32, fun h => absurd rfl h, fun _ => ⟨hk, fun _ => ⟨by rw [← HRR.out]; exact hr0, HK.out⟩⟩⟩
      by_cases hlt : k < 255
      · obtain ⟨i1, hi1⟩ : ∃ i1, i1 = Match.back n p2 k := ⟨_, rfl⟩
        obtain ⟨i2, hi2⟩ : ∃ i2, i2 = Match.mate n p2 k off2 := ⟨_, rfl⟩
        have hd := Match.dvd_pow HN.out (by omega)
        have hdk : decide ((k : Int) < 255) = true := decide_eq_true (by omega)
        have h1w : bits .and .u32 (IntKind.u32.wrap (IntKind.u32.wrap ((p2 : Int) - k) - 1)) ((n : Int) - 1) = (i1 : Int) := by rw [IntKind.wrap_u32, IntKind.wrap_u32, and_maskI HN.out (by omega) (by omega) (by omega), Match.back_walk hd n0 hk, hi1]
        have h2w : bits .and .u32 (IntKind.u32.wrap (IntKind.u32.wrap (IntKind.u32.wrap ((p2 : Int) - k) - off2) - 1)) ((n : Int) - 1) = (i2 : Int) := by rw [IntKind.wrap_u32, IntKind.wrap_u32, IntKind.wrap_u32, and_maskI HN.out (by omega) (by omega) (by omega), Match.mate_walk hd n0 hk, hi2]
        have hi1n : i1 < n := by rw [hi1]; exact Match.back_lt n0
        have hi2n : i2 < n := by rw [hi2]; exact Match.mate_lt n0
        obtain ⟨c, hc⟩ : ∃ c, l[i1]? = some c := ⟨l[i1]'(by omega), List.getElem?_eq_getElem _⟩
        obtain ⟨d, hd'⟩ : ∃ d, l[i2]? = some d := ⟨l[i2]'(by omega), List.getElem?_eq_getElem _⟩
        have y1 := HJ.out.byte hc
        have y2 := HJ.out.byte hd'
        rw [Nat.zero_add] at y1 y2
        by_cases hcd : c = d
        · subst hcd
          have HK2 : Hid (∀ j, j < k + 1 → l[Match.back n p2 j]? = l[Match.mate n p2 j off2]?) := by
            intro j hj
            by_cases e : j = k
            · subst e
              rw [← hi1, ← hi2, hc, hd']
            · exact HK.out j (by omega)
          have NE : ∀ m : Nat, ((wr.drewN m).setCell ⟨E, 3, none⟩ (.int .u32 ((k + 1 : Nat) : Int))).heap[E]? = some (.cells #[.slice (some ⟨I, 0, none⟩) ni ni, .slice (some ⟨J, 0, none⟩) n n, .int .u32 p2, .int .u32 ((k + 1 : Nat) : Int), .int .u32 off2, .int .u32 bt, .int .u64 0] 49 (0, 0)) := fun m => heap_setCell_same (wr.drewN m) E 3 _ 49 _ HEr.out
          have HNE : Hid (∀ m : Nat, ((wr.drewN m).setCell ⟨E, 3, none⟩ (.int .u32 ((k + 1 : Nat) : Int))).heap[E]? = some (.cells #[.slice (some ⟨I, 0, none⟩) ni ni, .slice (some ⟨J, 0, none⟩) n n, .int .u32 p2, .int .u32 ((k + 1 : Nat) : Int), .int .u32 off2, .int .u32 bt, .int .u64 0] 49 (0, 0))) := NE
          have e1 : (k : Int) + 1 = ((k + 1 : Nat) : Int) := by omega
          have HE1 : Hid ((k : Int) + 1 = ((k + 1 : Nat) : Int)) := e1
          clear NE e1 hc hd' hi1 hi2 hd
          go_wp2
          go_quiet (fail)
          go_wp2
          go_roundw
          case rel => rw [HE1.out]; exact ⟨k + 1, by omega, HNE.out _, owns_setE (w := wr.drewN _) HO.out hIE 3 _, (HT.out.drewN _).setE 3 _, row_setE (w := wr.drewN _) HJ.out hJE 3 _, HK2⟩
          case measure => rw [HE1.out, lenAt_of (HNE.out _) (k := k + 1) rfl, HLE.out]; omega
        · have hne : ((c.toNat : Int) == (d.toNat : Int)) = false := by
            have := u8_ne hcd
            rw [bne] at this
            simpa using this
          clear hc hd' hi1 hi2 hd hcd
          go_wp2
          go_quiet (fail)
          go_wp2
          go_end0
          rw [← HQ.out]
          exact ⟨rfl, p2, k, off2, HSTEP.out, (HFIN.out _ hk).1, (HFIN.out _ hk).2.1, (HFIN.out _ hk).2.2⟩
      · have hdk : decide ((k : Int) < 255) = false := decide_eq_false (by omega)
        go_wp2
        go_quiet (fail)
        go_wp2
        go_end0
        rw [← HQ.out]
        exact ⟨rfl, p2, k, off2, HSTEP.out, (HFIN.out _ hk).1, (HFIN.out _ hk).2.1, (HFIN.out _ hk).2.2⟩
end Go.Proofs.Qxb6602245a
