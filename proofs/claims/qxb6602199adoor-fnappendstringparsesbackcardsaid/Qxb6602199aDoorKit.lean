/-
  SMALL WORDS FOR THE WALKS OF THIS SEAT: a row of cells that a slice leads to ('Row'), and what keeps it.
-/
import Derived.WalkKit
import Derived.ProofKit
import Derived.OpenShut
import Derived.WalkSpells
namespace Go.Proofs.Qxb6602199aDoor
open Go.RowKit

/-- THE SLICE's ADDRESS ao LEADS TO THE CELLS xs. (Where xs is empty nothing is asked.) -/
def Row (w : World) (ao : Option Addr) (xs : List Value) : Prop :=
  ∀ j u, xs[j]? = some u → ∃ b off, ao = some ⟨b, off, none⟩ ∧ w.cell? ⟨b, off + j, none⟩ = some u

theorem Row.nil (w : World) (ao : Option Addr) : Row w ao [] := fun j u h => by simp at h

theorem Row.lt {w : World} {b off : Nat} {xs : List Value} (h : Row w (some ⟨b, off, none⟩) xs) (hp : 0 < xs.length) : b < w.heap.size := by
  obtain ⟨b', off', e, hc⟩ := h 0 xs[0] (by simp)
  cases e
  exact World.block_lt_of_cell? w _ hc

theorem Row.split {w : World} {ao : Option Addr} {xs : List Value} (h : Row w ao xs) (hp : 0 < xs.length) :
    ∃ b off, ao = some ⟨b, off, none⟩ ∧ b < w.heap.size ∧ ∀ j, (hj : j < xs.length) → w.cell? ⟨b, off + j, none⟩ = some xs[j] := by
  obtain ⟨b, off, rfl, _⟩ := h 0 xs[0] (by simp)
  refine ⟨b, off, rfl, h.lt hp, fun j hj => ?_⟩
  obtain ⟨b', off', e, hc⟩ := h j xs[j] (by simp)
  cases e
  exact hc

theorem Row.below {w w' : World} {ao : Option Addr} {xs : List Value} {B : Nat} (h : Row w ao xs) (hb : Below B w w') (hB : w.heap.size ≤ B) : Row w' ao xs := by
  intro j u hj
  obtain ⟨b, off, rfl, hc⟩ := h j u hj
  exact ⟨b, off, rfl, (hb.cell (p := ⟨b, off + j, none⟩) (Nat.lt_of_lt_of_le (World.block_lt_of_cell? w _ hc) hB)).trans hc⟩

theorem Row.of_owns {w : World} {base : Nat} {e : TypeId} {size n : Nat} {v : Value} {xs : List Value} (h : w.ownsRow base e size v n xs) :
    ∃ r c, v = .slice r n c ∧ Row w r xs ∧ (r = none → n = 0) := by
  rcases h.2 with ⟨rfl, rfl⟩ | ⟨g, cap, cur, rfl, hb, hg, hnc, hcm, hcs, htake⟩
  · refine ⟨none, 0, rfl, ?_, fun _ => rfl⟩
    have : xs = [] := by have := h.1; simp at this; exact this
    subst this
    exact Row.nil _ _
  · refine ⟨_, cap, rfl, ?_, fun h => by cases h⟩
    intro j u hj
    refine ⟨g, 0, rfl, ?_⟩
    have hl : j < n * size := by rw [← h.1]; exact (List.getElem?_eq_some_iff.1 hj).1
    rw [Nat.zero_add, h.cellAt j hl]
    exact hj

/-- Out of an argument's reading. -/
theorem Row.of_ints {w : World} {a : Addr} {k : IntKind} {zs : List Int} {n : Nat} (h : ∀ i, i < zs.length → w.cell? (a.add i) = some (.int k (zs.getD i 0))) :
    Row w (some a) ((zs.take n).map (Value.int k)) := by
  intro j u hj
  obtain ⟨hl, he⟩ := List.getElem?_eq_some_iff.1 hj
  simp only [List.length_map, List.length_take] at hl
  obtain ⟨b, off, rfl, hc⟩ := ints_at h (by omega)
  refine ⟨b, off, rfl, ?_⟩
  rw [hc j (by omega), ← he]
  simp [List.getElem_take]
  rw [List.getElem?_eq_getElem (by omega)]
  simp

theorem take_set_snoc {α : Type} {xs vs : List α} {k : Nat} {v : α} (h : xs.take k = vs.take k) (hk : k < xs.length) (hv : vs[k]? = some v) : (xs.set k v).take (k + 1) = vs.take (k + 1) := by
  apply List.ext_getElem?
  intro j
  rw [List.getElem?_take, List.getElem?_take]
  by_cases hj : j < k + 1
  · rw [if_pos hj, if_pos hj, List.getElem?_set]
    by_cases e : k = j
    · subst e
      rw [if_pos rfl, if_pos hk, hv]
    · rw [if_neg e]
      have := congrArg (fun l => l[j]?) h
      simpa [List.getElem?_take, show j < k by omega] using this
  · rw [if_neg hj, if_neg hj]
end Go.Proofs.Qxb6602199aDoor
