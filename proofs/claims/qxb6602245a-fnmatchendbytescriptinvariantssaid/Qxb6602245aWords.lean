/-
  A ROW OF int AND A ROW OF uint32.
-/
import Derived.Test.Qxb6602245aKit
namespace Go.Proofs.Qxb6602245a
open Go.RowKit
/-- The numbers of a row of int, and of a row of uint32. -/
def ints (ys : List Int) : List Value := ys.map (Value.int .i64)
def words (ps : List Nat) : List Value := ps.map fun p : Nat => Value.int .u32 (p : Int)
theorem Row.int {w : World} {b off : Nat} {ys : List Int} (h : Row w (some ⟨b, off, none⟩) (ints ys)) {k : Nat} {c : Int} (hk : ys[k]? = some c) : w.cell? ⟨b, off + k, none⟩ = some (.int .i64 c) := by
  obtain ⟨b', off', e, hc⟩ := h k (.int .i64 c) (by simp [ints, hk])
  cases e
  exact hc
theorem Row.word {w : World} {b off : Nat} {ps : List Nat} (h : Row w (some ⟨b, off, none⟩) (words ps)) {k : Nat} {c : Nat} (hk : ps[k]? = some c) : w.cell? ⟨b, off + k, none⟩ = some (.int .u32 (c : Int)) := by
  obtain ⟨b', off', e, hc⟩ := h k (.int .u32 (c : Int)) (by simp [words, hk])
  cases e
  exact hc
theorem Row.ishape {w : World} {ao : Option Addr} {l : List Int} (h : Row w ao (ints l)) (hp : 0 < l.length) : ∃ b off, ao = some ⟨b, off, none⟩ := by
  obtain ⟨b, off, e, _⟩ := h.split (by simpa [ints] using hp)
  exact ⟨b, off, e⟩
theorem Row.wshape {w : World} {ao : Option Addr} {l : List Nat} (h : Row w ao (words l)) (hp : 0 < l.length) : ∃ b off, ao = some ⟨b, off, none⟩ := by
  obtain ⟨b, off, e, _⟩ := h.split (by simpa [words] using hp)
  exact ⟨b, off, e⟩

end Go.Proofs.Qxb6602245a
