/-
  OUT OF A SLICE OF uint32 THAT CAME IN: its numbers, as the walks ask for them.
-/
import Derived.Test.Qxb6602245aWords
import Derived.Test.Qxb6602245aBytesIn
namespace Go.Proofs.Qxb6602245a
open Go.RowKit
theorem words_of_row {W : World} {x : Addr} {l c : Nat} {zs : List Int} (hl : l ≤ c) (hz : zs.length = c) (hcell : ∀ i, i < zs.length → W.cell? (x.add i) = some (.int .u32 (zs.getD i 0))) (hwz : ∀ n ∈ zs, (Lit.int .u32 n).wf = true) :
    ∃ ps : List Nat, ps.length = l ∧ (∀ p ∈ ps, p < 4294967296) ∧ Row W (some x) (words ps) := by
  refine ⟨(zs.take l).map Int.toNat, by rw [List.length_map, List.length_take]; omega, ?_, ?_⟩
  · intro p hp
    obtain ⟨z, hz, rfl⟩ := List.mem_map.1 hp
    have hb := bounds_u32 (hwz z (List.mem_of_mem_take hz))
    omega
  have e : words ((zs.take l).map Int.toNat) = (zs.take l).map (Value.int .u32) := by
    unfold words
    rw [List.map_map]
    refine List.map_congr_left fun z hz => ?_
    have hb := bounds_u32 (hwz z (List.mem_of_mem_take hz))
    simp only [Function.comp]
    congr 1
    omega
  rw [e]
  exact Row.of_ints hcell
end Go.Proofs.Qxb6602245a
