import Derived.Test.Qxb6602245aEncode
import Derived.Test.Qxb6602245aMatchPlain
import Derived.Test.Qxb6602245aWords
namespace Go.Proofs.Qxb6602245a
open Go.RowKit

theorem and_mask {x n a : Nat} (hn : n = 2 ^ a) (hx : x < 4294967296) (h32 : n ≤ 4294967296) : bits .and .u32 (x : Int) ((n : Int) - 1) = ((x % n : Nat) : Int) := by
  have h0 : 0 < n := by rw [hn]; exact Nat.two_pow_pos a
  rw [show (n : Int) - 1 = ((n - 1 : Nat) : Int) by omega, u32_and_nat x (n - 1) hx (by omega), hn, Nat.and_two_pow_sub_one_eq_mod]

theorem words_get {xs : List Nat} {k z : Nat} (h : xs[k]? = some z) : (words xs)[k]? = some (.int .u32 (z : Int)) := by simp [words, h]
theorem words_len (xs : List Nat) : (words xs).length = xs.length := by simp [words]
theorem words_set (xs : List Nat) (k z : Nat) : (words xs).set k (.int .u32 (z : Int)) = words (xs.set k z) := by simp [words, List.map_set]

/-- Two blocks may have turned, no other. -/
structure Two (E I : Nat) (w w' : World) : Prop where
  os : w'.os = w.os
  tape : w'.tape = w.tape
  output : w'.output = w.output
  size : w'.heap.size = w.heap.size
  block : ∀ k, k ≠ E → k ≠ I → w'.heap[k]? = w.heap[k]?
theorem Two.refl (E I : Nat) (w : World) : Two E I w w := ⟨rfl, rfl, rfl, rfl, fun _ _ _ => rfl⟩
theorem Two.drewN {E I : Nat} {w w' : World} (h : Two E I w w') (n : Nat) : Two E I w (w'.drewN n) := ⟨h.os, h.tape, h.output, h.size, h.block⟩
theorem Two.setE {E I : Nat} {w w' : World} (h : Two E I w w') (j : Nat) (v : Value) : Two E I w (w'.setCell ⟨E, j, none⟩ v) :=
  ⟨h.os, h.tape, h.output, by simpa [World.setCell] using h.size, fun k hE hI => (Below.heap_setCell w' ⟨E, j, none⟩ v k hE).trans (h.block k hE hI)⟩
theorem Two.setI {E I : Nat} {w w' : World} (h : Two E I w w') (j : Nat) (v : Value) : Two E I w (w'.setCell ⟨I, j, none⟩ v) :=
  ⟨h.os, h.tape, h.output, by simpa [World.setCell] using h.size, fun k hE hI => (Below.heap_setCell w' ⟨I, j, none⟩ v k hI).trans (h.block k hE hI)⟩

theorem owns_setE {B E I n : Nat} {w : World} {r c : Nat} {xs : List Value} (h : w.ownsRow B 24 1 (.slice (some ⟨I, 0, none⟩) r c) n xs) (hIE : I ≠ E) (j : Nat) (u : Value) : (w.setCell ⟨E, j, none⟩ u).ownsRow B 24 1 (.slice (some ⟨I, 0, none⟩) r c) n xs :=
  h.kept (row := some E) ⟨rfl, rfl, rfl, by simp, fun k _ hk => heap_setCell_other w ⟨E, j, none⟩ k u (fun e => hk (by simp [e]))⟩ (.inr (by simp [Value.ownBlock]; exact hIE))
/-- The last store: into the index. -/
theorem end_world {B E I ni q p2 : Nat} {w w1 : World} {arr : Array Value} {xs : List Nat} (hE : w1.heap[E]? = some (.cells arr 49 (0, 0))) (hI : w1.ownsRow B 24 1 (.slice (some ⟨I, 0, none⟩) ni ni) ni (words xs)) (hT : Two E I w w1) (hIE : I ≠ E) :
    (w1.setCell ⟨I, q, none⟩ (.int .u32 (p2 : Int))).heap[E]? = some (.cells arr 49 (0, 0)) ∧ (w1.setCell ⟨I, q, none⟩ (.int .u32 (p2 : Int))).ownsRow B 24 1 (.slice (some ⟨I, 0, none⟩) ni ni) ni (words (xs.set q p2)) ∧ Two E I w (w1.setCell ⟨I, q, none⟩ (.int .u32 (p2 : Int))) := by
  refine ⟨(Below.heap_setCell w1 ⟨I, q, none⟩ _ E (fun e => hIE e.symm)).trans hE, ?_, hT.setI q _⟩
  have := (hI.stored q (.int .u32 (p2 : Int))).1
  rwa [words_set] at this

set_option maxHeartbeats 1600000 in
set_option maxRecDepth 100000 in
theorem endByte_held (E I J B n ni a b p ln off h : Nat) (bt at_ : Int) (xs : List Nat) (l : List UInt8) (w : World)
    (hE : w.heap[E]? = some (.cells #[.slice (some ⟨I, 0, none⟩) ni ni, .slice (some ⟨J, 0, none⟩) n n, .int .u32 p, .int .u32 ln, .int .u32 off, .int .u32 bt, .int .u64 at_] 49 (0, 0))) (hI : w.ownsRow B 24 1 (.slice (some ⟨I, 0, none⟩) ni ni) ni (words xs)) (hIE : I ≠ E) (hn : n = 2 ^ a) (hni : ni = 2 ^ b) (h18 : n ≤ 262144) (h16 : ni ≤ 65536)
    (hln : ln < 4294967296) (hoff : off < 4294967296) (hh : h < 4294967296) (hxs : xs.length = ni) (h0 : ln ≠ 0) :
    Calls Try.prog 21 #[.pointer (some ⟨E, 0, none⟩), .int .u32 h] w fun e w' => e = .returned (.tuple #[]) ∧ ∃ p2 ln2 off2, Match.Step n l p ln off p2 ln2 off2 ∧
      w'.heap[E]? = some (.cells #[.slice (some ⟨I, 0, none⟩) ni ni, .slice (some ⟨J, 0, none⟩) n n, .int .u32 p2, .int .u32 ln2, .int .u32 off2, .int .u32 bt, .int .u64 0] 49 (0, 0)) ∧ w'.ownsRow B 24 1 (.slice (some ⟨I, 0, none⟩) ni ni) ni (words (xs.set (h % ni) p2)) ∧ Two E I w w' := by
  have c0 := cell_of_row w E 0 _ 49 (0, 0) hE
  have c1 := cell_of_row w E 1 _ 49 (0, 0) hE
  have c2 := cell_of_row w E 2 _ 49 (0, 0) hE
  have c3 := cell_of_row w E 3 _ 49 (0, 0) hE
  have c6 := cell_of_row w E 6 _ 49 (0, 0) hE
  have f2 := frozen_of_row w E 2 _ 49 hE
  have f3 := frozen_of_row w E 3 _ 49 hE
  have f6 := frozen_of_row w E 6 _ 49 hE
  simp at c0 c1 c2 c3 c6
  have n0 : 0 < n := by rw [hn]; exact Nat.two_pow_pos a
  have ni0 : 0 < ni := by rw [hni]; exact Nat.two_pow_pos b
  obtain ⟨p2, hp2⟩ : ∃ p2, p2 = (p + 1) % n := ⟨_, rfl⟩
  have hpw : bits .and .u32 (((p : Int) + 1) % 4294967296) ((n : Int) - 1) = (p2 : Int) := by
    obtain ⟨c, hc⟩ := Match.dvd_pow hn (by omega)
    rw [show ((p : Int) + 1) % 4294967296 = (((p + 1) % 4294967296 : Nat) : Int) by omega, and_mask hn (by omega) (by omega), hp2, hc, Nat.mod_mul_right_mod]
  obtain ⟨q, hq⟩ : ∃ q, q = h % ni := ⟨_, rfl⟩
  have hhw : bits .and .u32 (h : Int) ((ni : Int) - 1) = (q : Int) := by rw [and_mask hni hh (by omega), hq]
  have hqn : q < ni := by rw [hq]; exact Nat.mod_lt _ ni0
  have hp2n : p2 < n := by rw [hp2]; exact Nat.mod_lt _ n0
  obtain ⟨z, hz⟩ : ∃ z, xs[q]? = some z := ⟨xs[q]'(by omega), List.getElem?_eq_getElem _⟩
  have x1 := hI.cellAt q (by omega)
  rw [words_get hz] at x1
  have xf := hI.frozenAt q
  have HP2 : Hid (p2 = (p + 1) % n) := hp2
  have HQ : Hid (q = h % ni) := hq
  have HE : Hid (w.heap[E]? = some (.cells #[.slice (some ⟨I, 0, none⟩) ni ni, .slice (some ⟨J, 0, none⟩) n n, .int .u32 p, .int .u32 ln, .int .u32 off, .int .u32 bt, .int .u64 at_] 49 (0, 0))) := hE
  have HN : Hid (n = 2 ^ a) := hn
  have HNI : Hid (ni = 2 ^ b) := hni
  clear hp2 hq hE hn hni
  have HI : Hid (w.ownsRow B 24 1 (.slice (some ⟨I, 0, none⟩) ni ni) ni (words xs)) := hI
  clear hI
  by_cases hlt : ln < 255
  · go_enter Try.func21, Try.ntmps21
    go_wp2
    go_quiet (fail)
    go_wp2
    go_end0
    have e : (ln : Int) + 1 = ((ln + 1 : Nat) : Int) := by omega
    rw [e]
    have E1 := heap_setCell_same w E 6 _ 49 (.int .u64 0) HE.out
    have E2 := heap_setCell_same _ E 2 _ 49 (.int .u32 (p2 : Int)) E1
    have E3 := heap_setCell_same (((w.setCell ⟨E, 6, none⟩ (.int .u64 0)).setCell ⟨E, 2, none⟩ (.int .u32 (p2 : Int))).drewN nq) E 3 _ 49 (.int .u32 ((ln + 1 : Nat) : Int)) E2
    have O2 := owns_setE (owns_setE HI.out hIE 6 (.int .u64 0)) hIE 2 (.int .u32 (p2 : Int))
    have O3 := owns_setE (w := ((w.setCell ⟨E, 6, none⟩ (.int .u64 0)).setCell ⟨E, 2, none⟩ (.int .u32 (p2 : Int))).drewN nq) O2 hIE 3 (.int .u32 ((ln + 1 : Nat) : Int))
    have T3 := ((((Two.refl E I w).setE 6 (.int .u64 0)).setE 2 (.int .u32 (p2 : Int))).drewN nq).setE 3 (.int .u32 ((ln + 1 : Nat) : Int))
    have F := end_world (q := q) (p2 := p2) E3 O3 T3 hIE
    rw [← HQ.out]
    exact ⟨rfl, p2, ln + 1, off, ⟨HP2.out, by omega, hoff, fun _ => ⟨rfl, by omega, fun _ => by omega⟩, fun h => absurd h h0⟩, F.1, F.2.1, F.2.2⟩
  · go_enter Try.func21, Try.ntmps21
    go_wp2
    go_quiet (fail)
    go_wp2
    go_end0
    have E1 := heap_setCell_same w E 6 _ 49 (.int .u64 0) HE.out
    have E2 := heap_setCell_same _ E 2 _ 49 (.int .u32 (p2 : Int)) E1
    have O2 := owns_setE (owns_setE HI.out hIE 6 (.int .u64 0)) hIE 2 (.int .u32 (p2 : Int))
    have T2 := (((Two.refl E I w).setE 6 (.int .u64 0)).setE 2 (.int .u32 (p2 : Int))).drewN nq
    have F := end_world (w1 := ((w.setCell ⟨E, 6, none⟩ (.int .u64 0)).setCell ⟨E, 2, none⟩ (.int .u32 (p2 : Int))).drewN nq) (q := q) (p2 := p2) E2 O2 T2 hIE
    rw [← HQ.out]
    exact ⟨rfl, p2, ln, off, ⟨HP2.out, hln, hoff, fun _ => ⟨rfl, Nat.le_refl _, fun h => h⟩, fun h => absurd h h0⟩, F.1, F.2.1, F.2.2⟩

theorem and_maskI {n a : Nat} {X : Int} (hn : n = 2 ^ a) (h0 : 0 ≤ X) (hX : X < 4294967296) (h32 : n ≤ 4294967296) : bits .and .u32 X ((n : Int) - 1) = X % n := by
  obtain ⟨x, rfl⟩ := Int.eq_ofNat_of_zero_le h0
  rw [and_mask hn (by omega) h32]
  exact Int.natCast_emod _ _
def lenAt (w : World) (E : Nat) : Nat := match w.cell? ⟨E, 3, none⟩ with | some (.int _ z) => z.toNat | _ => 0
theorem lenAt_of {w : World} {E : Nat} {arr : Array Value} {k : Nat} (h : w.heap[E]? = some (.cells arr 49 (0, 0))) (ha : arr[3]? = some (.int .u32 (k : Int))) : lenAt w E = k := by
  unfold lenAt
  rw [cell_of_row w E 3 _ 49 (0, 0) h, ha]
  simp
end Go.Proofs.Qxb6602245a
