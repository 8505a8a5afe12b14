import Derived.Test.Qxb6602245aEndFresh
namespace Go.Proofs.Qxb6602245a
open Go.RowKit

theorem endByte_any (E I J B n ni a b p ln off h : Nat) (bt at_ : Int) (xs : List Nat) (l : List UInt8) (w : World)
    (hE : w.heap[E]? = some (.cells #[.slice (some ⟨I, 0, none⟩) ni ni, .slice (some ⟨J, 0, none⟩) n n, .int .u32 p, .int .u32 ln, .int .u32 off, .int .u32 bt, .int .u64 at_] 49 (0, 0))) (hI : w.ownsRow B 24 1 (.slice (some ⟨I, 0, none⟩) ni ni) ni (words xs)) (hIE : I ≠ E) (hJ : Row w (some ⟨J, 0, none⟩) (Lib.byteCells l)) (hJE : J ≠ E) (hl : l.length = n) (hn : n = 2 ^ a) (hni : ni = 2 ^ b) (h18 : n ≤ 262144) (h16 : ni ≤ 65536)
    (hln : ln < 4294967296) (hoff : off < 4294967296) (hh : h < 4294967296) (hxs : xs.length = ni) (hx32 : ∀ x ∈ xs, x < 4294967296) :
    Calls Try.prog 21 #[.pointer (some ⟨E, 0, none⟩), .int .u32 h] w fun e w' => e = .returned (.tuple #[]) ∧ ∃ p2 ln2 off2, Match.Step n l p ln off p2 ln2 off2 ∧
      w'.heap[E]? = some (.cells #[.slice (some ⟨I, 0, none⟩) ni ni, .slice (some ⟨J, 0, none⟩) n n, .int .u32 p2, .int .u32 ln2, .int .u32 off2, .int .u32 bt, .int .u64 0] 49 (0, 0)) ∧ w'.ownsRow B 24 1 (.slice (some ⟨I, 0, none⟩) ni ni) ni (words (xs.set (h % ni) p2)) ∧ Two E I w w' := by
  by_cases h0 : ln = 0
  · subst h0
    exact endByte_fresh E I J B n ni a b p off h bt at_ xs l w hE hI hIE hJ hJE hl hn hni h18 h16 hh hxs hx32
  · exact endByte_held E I J B n ni a b p ln off h bt at_ xs l w hE hI hIE hn hni h18 h16 hln hoff hh hxs h0

theorem results_tmp7 {fn : Func} {t1 t2 t3 t4 t5 t6 t7 : Tmp} (h : fn.results = #[.tmp t1, .tmp t2, .tmp t3, .tmp t4, .tmp t5, .tmp t6, .tmp t7]) (tmps : Array Value) (P : Program) (w : World) :
    (results fn tmps).run P w = .ok (.tuple #[tmps.getD t1 undef, tmps.getD t2 undef, tmps.getD t3 undef, tmps.getD t4 undef, tmps.getD t5 undef, tmps.getD t6 undef, tmps.getD t7 undef]) w := by
  simp [results, h]
theorem grownBy_drewN {w w' : World} {row : Option Nat} (h : w.grownBy w' row) (n : Nat) : w.grownBy (w'.drewN n) row := ⟨h.os, h.tape, h.output, h.size, h.block⟩
theorem Two.grown {w w' : World} {I : Nat} {o : Obj} (h : Two w.heap.size I (w.alloc o) w') : w.grownBy w' (some I) :=
  ⟨h.os, h.tape, h.output, by rw [h.size]; simp, fun k hk hne => by
    rw [h.block k (by omega) (fun e => hne (by rw [e]))]
    exact Below.heap_alloc w o k hk⟩

set_option maxHeartbeats 800000 in
set_option maxRecDepth 100000 in
theorem zzMatch_any (I J B n ni a b p ln off h : Nat) (bt at_ : Int) (xs : List Nat) (l : List UInt8) (w : World)
    (hI : w.ownsRow B 24 1 (.slice (some ⟨I, 0, none⟩) ni ni) ni (words xs)) (hIw : I < w.heap.size) (hJ : Row w (some ⟨J, 0, none⟩) (Lib.byteCells l)) (hJw : J < w.heap.size) (hl : l.length = n) (hn : n = 2 ^ a) (hni : ni = 2 ^ b) (h18 : n ≤ 262144) (h16 : ni ≤ 65536)
    (hln : ln < 4294967296) (hoff : off < 4294967296) (hh : h < 4294967296) (hxs : xs.length = ni) (hx32 : ∀ x ∈ xs, x < 4294967296) :
    Calls Try.prog 16 #[.slice (some ⟨I, 0, none⟩) ni ni, .slice (some ⟨J, 0, none⟩) n n, .int .u32 p, .int .u32 ln, .int .u32 off, .int .u32 bt, .int .u64 at_, .int .u32 h] w fun e w' => ∃ p2 ln2 off2 : Nat,
      e = .returned (.tuple #[.slice (some ⟨I, 0, none⟩) ni ni, .slice (some ⟨J, 0, none⟩) n n, .int .u32 p2, .int .u32 ln2, .int .u32 off2, .int .u32 bt, .int .u64 0]) ∧ Match.Step n l p ln off p2 ln2 off2 ∧ w'.ownsRow B 24 1 (.slice (some ⟨I, 0, none⟩) ni ni) ni (words (xs.set (h % ni) p2)) ∧ w.grownBy w' (some I) := by
  have HI : Hid (w.ownsRow B 24 1 (.slice (some ⟨I, 0, none⟩) ni ni) ni (words xs)) := hI
  have HJ : Hid (Row w (some ⟨J, 0, none⟩) (Lib.byteCells l)) := hJ
  have HN : Hid (n = 2 ^ a) := hn
  have HNI : Hid (ni = 2 ^ b) := hni
  have HL : Hid (l.length = n) := hl
  have HX : Hid (xs.length = ni) := hxs
  have H32 : Hid (∀ x ∈ xs, x < 4294967296) := hx32
  clear hI hJ hn hni hl hxs hx32
  go_enter Try.func16, Try.ntmps16
  go_wp2_with fail
  refine (endByte_any w.heap.size I J B n ni a b p ln off h bt at_ xs l _ (heap_alloc_new w _) (HI.out.alloc _) (Nat.ne_of_lt hIw) (HJ.out.below ((Below.refl _ _).alloc (Nat.le_refl _) _) (Nat.le_refl _)) (Nat.ne_of_lt hJw) HL.out HN.out HNI.out h18 h16 hln hoff hh HX.out H32.out).mono ?_
  rintro e w2 ⟨rfl, p2, ln2, off2, hS, hE, hO, hT⟩
  have hG := Two.grown hT
  have k0 := cell_of_row w2 w.heap.size 0 _ 49 (0, 0) hE
  have k1 := cell_of_row w2 w.heap.size 1 _ 49 (0, 0) hE
  have k2 := cell_of_row w2 w.heap.size 2 _ 49 (0, 0) hE
  have k3 := cell_of_row w2 w.heap.size 3 _ 49 (0, 0) hE
  have k4 := cell_of_row w2 w.heap.size 4 _ 49 (0, 0) hE
  have k5 := cell_of_row w2 w.heap.size 5 _ 49 (0, 0) hE
  have k6 := cell_of_row w2 w.heap.size 6 _ 49 (0, 0) hE
  simp at k0 k1 k2 k3 k4 k5 k6
  have HO : Hid (w2.ownsRow B 24 1 (.slice (some ⟨I, 0, none⟩) ni ni) ni (words (xs.set (h % ni) p2))) := hO
  have HG : Hid (w.grownBy w2 (some I)) := hG
  have HS : Hid (Match.Step n l p ln off p2 ln2 off2) := hS
  clear hE hT hO hG hS HI HJ
  go_wp2
  go_quiet (fail)
  go_wp2
  (try simp only [Exit.inBlock, Exit.then])
  refine bodyPost_ret (results_tmp7 rfl _ _ _) rfl ?_
  exact ⟨p2, ln2, off2, rfl, HS.out, HO.out, grownBy_drewN HG.out _⟩
end Go.Proofs.Qxb6602245a
