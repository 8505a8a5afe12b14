import Derived.Test.Qxb6602245aEncodeYes
import Derived.Test.Qxb6602245aEncodeNo
namespace Go.Proofs.Qxb6602245a
open Go.RowKit

theorem encode_any (E B lo hi p : Nat) (y : Int) (v : Value) (l : List UInt8) (w : World) (hlh : lo < hi) (hh : hi < 4294967296) (hp : p ≤ 65535)
    (hE : w.heap[E]? = some (.cells #[.int .u32 lo, .int .u32 hi, v] 52 (0, 0))) (hB : B ≤ E) (ho : Outs B w v l) (hl : l.length ≤ 2000000) :
    Calls Try.prog 22 #[.pointer (some ⟨E, 0, none⟩), .int .i64 y, .int .u32 p] w fun e w' => e = .returned (.tuple #[]) ∧ ∃ v',
      w'.heap[E]? = some (.cells #[.int .u32 (Coder.enc lo hi p (y != 0)).2.1, .int .u32 (Coder.enc lo hi p (y != 0)).2.2, v'] 52 (0, 0)) ∧ Outs B w' v' (l ++ (Coder.enc lo hi p (y != 0)).1) ∧ Below B w w' := by
  cases hy : (y != 0) with
  | true => exact encode_yes E B lo hi p y hy v l w hlh hh hp hE hB ho hl
  | false => exact encode_no E B lo hi p y hy v l w hlh hh hp hE hB ho hl

set_option maxHeartbeats 800000 in
set_option maxRecDepth 100000 in
theorem zzEncode_any (B lo hi p : Nat) (y : Int) (v : Value) (l : List UInt8) (w : World) (hlh : lo < hi) (hh : hi < 4294967296) (hp : p ≤ 65535) (hB : B ≤ w.heap.size) (ho : Outs B w v l) (hl : l.length ≤ 2000000) :
    Calls Try.prog 18 #[.int .u32 lo, .int .u32 hi, v, .int .i64 y, .int .u32 p] w fun e w' => ∃ v',
      e = .returned (.tuple #[.int .u32 (Coder.enc lo hi p (y != 0)).2.1, .int .u32 (Coder.enc lo hi p (y != 0)).2.2, v']) ∧ Outs B w' v' (l ++ (Coder.enc lo hi p (y != 0)).1) ∧ Below B w w' := by
  obtain ⟨r, c, hv, _⟩ := ho.row
  subst hv
  have HO : Hid (Outs B w (.slice r l.length c) l) := ho
  clear ho
  go_enter Try.func18, Try.ntmps18
  go_wp2_with fail
  refine (encode_any w.heap.size B lo hi p y _ l _ hlh hh hp (heap_alloc_new w _) hB (HO.out.alloc hB _) hl).mono ?_
  rintro e w2 ⟨rfl, v', hE, ho2, hb2⟩
  have hbb : Below B w w2 := ((Below.refl _ _).alloc hB _).trans hb2
  obtain ⟨r2, c2', hv2, _⟩ := ho2.row
  generalize hR : Coder.enc lo hi p (y != 0) = R at hE ho2 hv2
  have HR : Hid (Coder.enc lo hi p (y != 0) = R) := hR
  clear hR
  obtain ⟨bs, l2, h2⟩ := R
  dsimp only at hE ho2 hv2
  obtain ⟨N, hN⟩ : ∃ N, N = (l ++ bs).length := ⟨_, rfl⟩
  rw [← hN] at hv2
  clear hN
  subst hv2
  have k0 := cell_of_row w2 w.heap.size 0 _ 52 (0, 0) hE
  have k1 := cell_of_row w2 w.heap.size 1 _ 52 (0, 0) hE
  have k2 := cell_of_row w2 w.heap.size 2 _ 52 (0, 0) hE
  simp at k0 k1 k2
  clear hE hb2 HO
  have HO2 : Hid (Outs B w2 (.slice r2 N c2') (l ++ bs)) := ho2
  clear ho2
  go_wp2
  go_quiet (fail)
  go_wp2
  go_ret3
  rw [HR.out]
  exact ⟨_, rfl, HO2.out.drewN _, below_drewN hbb _⟩
end Go.Proofs.Qxb6602245a
