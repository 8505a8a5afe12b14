/-
  OUT OF A SLICE OF BYTES THAT CAME IN: its bytes, as the walks ask for them.
-/
import Derived.Test.Qxb6602245aKit
namespace Go.Proofs.Qxb6602245a
open Go.RowKit
theorem bytes_of_row {W : World} {x : Addr} {l c : Nat} {zs : List Int} (hl : l ≤ c) (hz : zs.length = c) (hcell : ∀ i, i < zs.length → W.cell? (x.add i) = some (.int .u8 (zs.getD i 0))) (hwz : ∀ n ∈ zs, (Lit.int .u8 n).wf = true) :
    ∃ bs : List UInt8, bs.length = l ∧ Row W (some x) (Lib.byteCells bs) := by
  refine ⟨(zs.take l).map (fun z => UInt8.ofNat z.toNat), by simp; omega, ?_⟩
  have e : Lib.byteCells ((zs.take l).map (fun z => UInt8.ofNat z.toNat)) = (zs.take l).map (Value.int .u8) := by
    unfold Lib.byteCells
    rw [List.map_map]
    refine List.map_congr_left fun z hz => ?_
    have hb := bounds_u8 (hwz z (List.mem_of_mem_take hz))
    simp only [Function.comp]
    congr 1
    rw [UInt8.toNat_ofNat']
    omega
  rw [e]
  exact Row.of_ints hcell
theorem nat_u32 {a : Int} (h : (Lit.int .u32 a).wf = true) : ∃ n : Nat, a = n ∧ n < 4294967296 := by
  have := bounds_u32 h
  exact ⟨a.toNat, by omega, by omega⟩
end Go.Proofs.Qxb6602245a
