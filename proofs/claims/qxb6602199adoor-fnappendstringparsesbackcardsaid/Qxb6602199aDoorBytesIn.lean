/-
  WHAT THE WALKS ARE TOLD OF A SLICE OF BYTES THAT CAME IN.
-/
import Derived.Test.Qxb6602199aDoorLaid
import Derived.Test.Qxb6602199aDoorClone
namespace Go.Proofs.Qxb6602199aDoor
open Go.RowKit
def IsBytes (w : World) (a : Option Addr) (len cap : Nat) : Prop :=
  len ≤ maxLen ∧ (a = none → len = 0 ∧ cap = 0) ∧ ∃ l : List UInt8, l.length = len ∧ Row w a (Lib.byteCells l)
theorem isBytes_nil (w : World) : IsBytes w none 0 0 := ⟨Nat.zero_le _, fun _ => ⟨rfl, rfl⟩, [], rfl, Row.nil _ _⟩
theorem isBytes_mk {W : World} {x : Addr} {l c : Nat} {zs : List Int} (hl : l ≤ c) (hm : c ≤ maxLen) (hz : zs.length = c) (hcell : ∀ i, i < zs.length → W.cell? (x.add i) = some (.int .u8 (zs.getD i 0))) (hwz : ∀ n ∈ zs, (Lit.int .u8 n).wf = true) : IsBytes W (some x) l c := by
  refine ⟨Nat.le_trans hl hm, (fun h => by cases h), (zs.take l).map (fun z => UInt8.ofNat z.toNat), by simp; omega, ?_⟩
  have e : Lib.byteCells ((zs.take l).map (fun z => UInt8.ofNat z.toNat)) = (zs.take l).map (Value.int .u8) := by
    unfold Lib.byteCells
    rw [List.map_map]
    refine List.map_congr_left fun z hz => ?_
    have hb := bounds_u8 (hwz z (List.mem_of_mem_take hz))
    simp only [Function.comp]
    congr 1
    rw [UInt8.toNat_ofNat']
    omega
  rw [e]
  exact Row.of_ints hcell
end Go.Proofs.Qxb6602199aDoor
