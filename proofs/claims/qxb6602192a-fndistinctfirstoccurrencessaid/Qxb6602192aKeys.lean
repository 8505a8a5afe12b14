/-
  THE MAP's KEYS: a Peer as a value, and as the key that the model's map knows it by. A look-up in a map[Peer]bool that the call made.
-/
import Derived.Test.Qxb6602192aProg
import Derived.Test.Qxb6602192aKit
import Derived.Test.Qxb6602192aFirsts
import Derived.Maps.OwnSet
import Derived.Maps.OwnOps
import Derived.Maps.AppendAt
namespace Go.Proofs.Qxb6602192a
open Go.RowKit Go.Maps

/-- A Peer's three cells. -/
def pc (p : Pr) : List Value := [.int .u64 p.1, .int .u64 p.2.1, .string p.2.2]
theorem pc_length (p : Pr) : (pc p).length = 3 := rfl
/-- It fits its types. -/
def okP (p : Pr) : Prop := (Lit.int .u64 p.1).wf = true ∧ (Lit.int .u64 p.2.1).wf = true ∧ p.2.2.size ≤ maxLen
def keyL (p : Pr) : Lit := .string (keyBytes [.int .u64 p.1, .int .u64 p.2.1, .string p.2.2.data.toList])
theorem Try.laidOut : laidOutB Try.prog = true := by kernel_rfl
theorem keyed53 : Keyed Try.prog 53 := Keyed.of_law (deep_law_laid Try.laidOut (m := 5) (by decide) (of_decide_eq_true (by kernel_rfl)) (by kernel_rfl) (by rw [Try.underlying53]))
theorem kt53 : Try.prog.keyType 53 = true := by kernel_rfl
theorem c53 : Try.prog.cellsOf 53 = 3 := by kernel_rfl
theorem c49 : Try.prog.cellsOf 49 = 2 := by kernel_rfl
theorem c22 : Try.prog.cellsOf 22 = 1 := by kernel_rfl
theorem c9 : Try.prog.cellsOf 9 = 1 := by kernel_rfl
theorem ts : ∃ m, Try.prog.types.size + 1 = m + 3 := ⟨Try.prog.types.size - 2, by have : 3 ≤ Try.prog.types.size := of_decide_eq_true (by kernel_rfl); omega⟩
theorem keyOf53 {p : Pr} (h : okP p) : keyOf Try.prog 53 (.agg #[.int .u64 p.1, .int .u64 p.2.1, .string p.2.2]) = some (keyL p) := by
  obtain ⟨h1, h2, h3⟩ := h
  unfold keyOf
  rw [Try.underlying53]
  obtain ⟨m, hm⟩ := ts
  have hf : Value.formed Try.prog 53 (.agg #[.int .u64 p.1, .int .u64 p.2.1, .string p.2.2]) = true := by simp [Value.formed, Try.underlying53, c53]
  rw [hm]
  simp only [kt53, hf, Bool.and_self, if_true]
  simp [Program.keyLits, Try.underlying53, Try.underlying49, Try.underlying22, Try.underlying9, c53, c49, c22, c9, Value.cells, h1, h2, h3, keyL]
  rw [if_pos (by intro i hi; match i, hi with | 0, _ => simp | 1, _ => simp)]
  rfl

theorem keyL_inj {p q : Pr} (hp : okP p) (hq : okP q) (h : keyL p = keyL q) : p = q := by
  have h2 := keyOf53 hq
  rw [← h] at h2
  have := keyed53.inj (keyOf53 hp) h2
  obtain ⟨a, b, c⟩ := p
  obtain ⟨a', b', c'⟩ := q
  simpa using this
theorem keyL_isKey (p : Pr) : WideAt.IsKeyLit (keyL p) := trivial

theorem zero4 (w : World) : (zeroValue 4).run Try.prog w = .ok (.bool false) w := by kernel_rfl

theorem plainElem_bool_inv {H : Type} {v : Value} {z : DataW H × List MemPlace} (h : plainElem Try.prog 4 v = some z) : ∃ x, v = .bool x ∧ z = (.lit (.bool x), []) := by
  unfold plainElem at h
  rw [Try.underlying4] at h
  cases v <;> simp at h
  exact ⟨_, rfl, h.symm⟩

/-- WHAT THE SET ANSWERS: 'seen[p]'. -/
theorem seen_run {w : World} {b n : Nat} {D : DataW Unit} (h : w.ownsMap Try.prog 53 (plainElem Try.prog 4) b n D) {p : Pr} (hp : okP p) {x : Bool} (hx : D.atKey (keyL p) (.lit (.bool false)) = .lit (.bool x)) :
    (Instr.lookup 68 (.map (some b)) (.agg #[.int .u64 p.1, .int .u64 p.2.1, .string p.2.2]) false).run Try.prog w = .ok (.bool x) w := by
  obtain ⟨v, ps, hrun, hv⟩ := h.lookup keyed53 Try.underlying68 (zero4 w) (plainElem_bool Try.underlying4 false) (keyOf53 hp)
  rw [hx] at hv
  obtain ⟨y, rfl, hy⟩ := plainElem_bool_inv hv
  simp at hy
  rw [hrun, hy.1]
end Go.Proofs.Qxb6602192a
