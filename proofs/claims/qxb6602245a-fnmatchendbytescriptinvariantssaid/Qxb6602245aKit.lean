/-
  SMALL WORDS FOR THE WALKS OF THIS SEAT: a row of cells that a slice leads to ('Row'), and what keeps it.
-/
import Derived.WalkKit
import Derived.ProofKit
import Derived.OpenShut
import Derived.WalkSpells
import Derived.Lib.UnsafeStr
import Derived.ArgAppend
import Derived.BigQuiet
import Derived.Deep.QuietTactic
import Derived.WalkSmall
namespace Go.Proofs.Qxb6602245a
open Go.RowKit

/-- THE SLICE's ADDRESS ao LEADS TO THE CELLS xs. (Where xs is empty nothing is asked.) -/
def Row (w : World) (ao : Option Addr) (xs : List Value) : Prop :=
  ∀ j u, xs[j]? = some u → ∃ b off, ao = some ⟨b, off, none⟩ ∧ w.cell? ⟨b, off + j, none⟩ = some u

theorem Row.nil (w : World) (ao : Option Addr) : Row w ao [] := fun j u h => by simp at h

theorem Row.lt {w : World} {b off : Nat} {xs : List Value} (h : Row w (some ⟨b, off, none⟩) xs) (hp : 0 < xs.length) : b < w.heap.size := by
  obtain ⟨b', off', e, hc⟩ := h 0 xs[0] (by simp)
  cases e
  exact World.block_lt_of_cell? w _ hc

theorem Row.split {w : World} {ao : Option Addr} {xs : List Value} (h : Row w ao xs) (hp : 0 < xs.length) :
    ∃ b off, ao = some ⟨b, off, none⟩ ∧ b < w.heap.size ∧ ∀ j, (hj : j < xs.length) → w.cell? ⟨b, off + j, none⟩ = some xs[j] := by
  obtain ⟨b, off, rfl, _⟩ := h 0 xs[0] (by simp)
  refine ⟨b, off, rfl, h.lt hp, fun j hj => ?_⟩
  obtain ⟨b', off', e, hc⟩ := h j xs[j] (by simp)
  cases e
  exact hc

theorem Row.below {w w' : World} {ao : Option Addr} {xs : List Value} {B : Nat} (h : Row w ao xs) (hb : Below B w w') (hB : w.heap.size ≤ B) : Row w' ao xs := by
  intro j u hj
  obtain ⟨b, off, rfl, hc⟩ := h j u hj
  exact ⟨b, off, rfl, (hb.cell (p := ⟨b, off + j, none⟩) (Nat.lt_of_lt_of_le (World.block_lt_of_cell? w _ hc) hB)).trans hc⟩

theorem Row.of_owns {w : World} {base : Nat} {e : TypeId} {size n : Nat} {v : Value} {xs : List Value} (h : w.ownsRow base e size v n xs) :
    ∃ r c, v = .slice r n c ∧ Row w r xs ∧ (r = none → n = 0) := by
  rcases h.2 with ⟨rfl, rfl⟩ | ⟨g, cap, cur, rfl, hb, hg, hnc, hcm, hcs, htake⟩
  · refine ⟨none, 0, rfl, ?_, fun _ => rfl⟩
    have : xs = [] := by have := h.1; simp at this; exact this
    subst this
    exact Row.nil _ _
  · refine ⟨_, cap, rfl, ?_, fun h => by cases h⟩
    intro j u hj
    refine ⟨g, 0, rfl, ?_⟩
    have hl : j < n * size := by rw [← h.1]; exact (List.getElem?_eq_some_iff.1 hj).1
    rw [Nat.zero_add, h.cellAt j hl]
    exact hj

/-- Out of an argument's reading. -/
theorem Row.of_ints {w : World} {a : Addr} {k : IntKind} {zs : List Int} {n : Nat} (h : ∀ i, i < zs.length → w.cell? (a.add i) = some (.int k (zs.getD i 0))) :
    Row w (some a) ((zs.take n).map (Value.int k)) := by
  intro j u hj
  obtain ⟨hl, he⟩ := List.getElem?_eq_some_iff.1 hj
  simp only [List.length_map, List.length_take] at hl
  obtain ⟨b, off, rfl, hc⟩ := ints_at h (by omega)
  refine ⟨b, off, rfl, ?_⟩
  rw [hc j (by omega), ← he]
  simp [List.getElem_take]
  rw [List.getElem?_eq_getElem (by omega)]
  simp

theorem take_set_snoc {α : Type} {xs vs : List α} {k : Nat} {v : α} (h : xs.take k = vs.take k) (hk : k < xs.length) (hv : vs[k]? = some v) : (xs.set k v).take (k + 1) = vs.take (k + 1) := by
  apply List.ext_getElem?
  intro j
  rw [List.getElem?_take, List.getElem?_take]
  by_cases hj : j < k + 1
  · rw [if_pos hj, if_pos hj, List.getElem?_set]
    by_cases e : k = j
    · subst e
      rw [if_pos rfl, if_pos hk, hv]
    · rw [if_neg e]
      have := congrArg (fun l => l[j]?) h
      simpa [List.getElem?_take, show j < k by omega] using this
  · rw [if_neg hj, if_neg hj]

theorem bc_get (l : List UInt8) (k : Nat) : (Lib.byteCells l)[k]? = l[k]?.map fun b => Value.int .u8 b.toNat := by simp [Lib.byteCells]
theorem bc_len (l : List UInt8) : (Lib.byteCells l).length = l.length := by simp [Lib.byteCells]
/-- One byte of a row. -/
theorem Row.byte {w : World} {b off : Nat} {l : List UInt8} (h : Row w (some ⟨b, off, none⟩) (Lib.byteCells l)) {k : Nat} {c : UInt8} (hk : l[k]? = some c) : w.cell? ⟨b, off + k, none⟩ = some (.int .u8 c.toNat) := by
  obtain ⟨b', off', e, hc⟩ := h k (.int .u8 c.toNat) (by rw [bc_get, hk]; rfl)
  cases e
  exact hc
theorem Row.shape {w : World} {ao : Option Addr} {l : List UInt8} (h : Row w ao (Lib.byteCells l)) (hp : 0 < l.length) : ∃ b off, ao = some ⟨b, off, none⟩ := by
  obtain ⟨b, off, e, _⟩ := h.split (by rw [bc_len]; exact hp)
  exact ⟨b, off, e⟩
theorem Row.drewN {w : World} {ao : Option Addr} {xs : List Value} (h : Row w ao xs) (n : Nat) : Row (w.drewN n) ao xs := h
theorem u8_ne {a b : UInt8} (h : a ≠ b) : ((a.toNat : Int) != (b.toNat : Int)) = true := by
  rw [bne_iff_ne]
  intro e
  exact h (UInt8.toNat_inj.1 (by omega))

theorem take_succ_eq {l1 l2 : List UInt8} {k : Nat} {c : UInt8} (h : l1.take k = l2.take k) (h1 : l1[k]? = some c) (h2 : l2[k]? = some c) : l1.take (k + 1) = l2.take (k + 1) := by
  rw [List.take_add_one, List.take_add_one, h, h1, h2]
theorem ne_of_at {l1 l2 : List UInt8} {k : Nat} {c d : UInt8} (h1 : l1[k]? = some c) (h2 : l2[k]? = some d) (h : c ≠ d) : l1 ≠ l2 := by
  rintro rfl
  rw [h1] at h2
  exact h (Option.some.inj h2)
/-- A nil slice is empty. -/
def NilOk (r : Option Addr) (n : Nat) : Prop := r = none → n = 0
def SomeBool (e : Ending) : Prop := ∃ b : Bool, e = .returned (.bool b)

theorem row_add {w : World} {ao : Option Addr} {xs : List Value} (h : Row w ao xs) : ∀ b, ao = some b → ∀ j u, xs[j]? = some u → w.cell? (b.add j) = some u := by
  intro b hb j u hj
  obtain ⟨b', off, e, hc⟩ := h j u hj
  rw [hb] at e
  cases e
  rw [Go.WideShapes.add_plain]
  exact hc


/-- THE OUTPUT SO FAR, as a value: a slice without spare room in memory that what follows does not write (from block B on); or a row of the call's own from block B on. -/
def Outs (B : Nat) (w : World) (v : Value) (l : List UInt8) : Prop :=
  (∃ r, v = .slice r l.length l.length ∧ NilOk r l.length ∧ (∀ x : Addr, r = some x → x.block < B) ∧ ∀ w', Below B w w' → Row w' r (Lib.byteCells l)) ∨ w.ownsRow B 5 1 v l.length (Lib.byteCells l)

theorem Outs.row {B : Nat} {w : World} {v : Value} {l : List UInt8} (h : Outs B w v l) : ∃ r c, v = .slice r l.length c ∧ Row w r (Lib.byteCells l) := by
  rcases h with ⟨r, rfl, _, _, hr⟩ | h
  · exact ⟨r, _, rfl, hr w (Below.refl _ _)⟩
  · obtain ⟨r, c, e, h', _⟩ := Row.of_owns h
    exact ⟨r, c, e, h'⟩
theorem Outs.alloc {B : Nat} {w : World} {v : Value} {l : List UInt8} (h : Outs B w v l) (hB : B ≤ w.heap.size) (o : Obj) : Outs B (w.alloc o) v l := by
  rcases h with ⟨r, e, hn, hx, hr⟩ | h
  · exact .inl ⟨r, e, hn, hx, fun w' hb => hr w' (((Below.refl B w).alloc hB o).trans hb)⟩
  · exact .inr (h.alloc o)
theorem Outs.drew {B : Nat} {w : World} {v : Value} {l : List UInt8} (h : Outs B w v l) : Outs B w.drew v l := by
  rcases h with ⟨r, e, hn, hx, hr⟩ | h
  · exact .inl ⟨r, e, hn, hx, fun w' hb => hr w' ((Below.refl B w).drew.trans hb)⟩
  · exact .inr h
theorem Outs.drewN {B : Nat} {w : World} {v : Value} {l : List UInt8} (h : Outs B w v l) (n : Nat) : Outs B (w.drewN n) v l := by
  rcases h with ⟨r, e, hn, hx, hr⟩ | h
  · exact .inl ⟨r, e, hn, hx, fun w' hb => hr w' ((below_drewN (Below.refl B w) n).trans hb)⟩
  · exact .inr h
/-- A store into another block, from B on. -/
theorem Outs.setCell {B : Nat} {w : World} {v : Value} {l : List UInt8} (h : Outs B w v l) {E j : Nat} (hE : B ≤ E) (hne : v.ownBlock ≠ some E) (u : Value) : Outs B (w.setCell ⟨E, j, none⟩ u) v l := by
  rcases h with ⟨r, e, hn, hx, hr⟩ | h
  · exact .inl ⟨r, e, hn, hx, fun w' hb => hr w' (((Below.refl B w).setCell hE u).trans hb)⟩
  · exact .inr (h.kept (row := some E) ⟨rfl, rfl, rfl, by simp, fun k _ hk => heap_setCell_other w ⟨E, j, none⟩ k u (fun e => hk (by simp [e]))⟩ (.inr hne))

/-- A row of bytes is no struct of the coder's. -/
theorem owns_ne {B n : Nat} {w : World} {v : Value} {xs : List Value} {E : Nat} {arr : Array Value} (h : w.ownsRow B 5 1 v n xs) (hE : w.heap[E]? = some (.cells arr 52 (0, 0))) : v.ownBlock ≠ some E := by
  rcases h.2 with ⟨rfl, _⟩ | ⟨g, cap, cur, rfl, _, hg, _⟩
  · simp [Value.ownBlock]
  · intro e
    have e' : g = E := by simpa [Value.ownBlock] using e
    subst e'
    rw [hg] at hE
    cases hE
theorem Outs.ne {B E : Nat} {w : World} {v : Value} {l : List UInt8} {arr : Array Value} (h : Outs B w v l) (hB : B ≤ E) (hE : w.heap[E]? = some (.cells arr 52 (0, 0))) : v.ownBlock ≠ some E := by
  rcases h with ⟨r, rfl, _, hx, _⟩ | h
  · intro e
    cases r with
    | none => simp [Value.ownBlock] at e
    | some x =>
      have h1 := hx x rfl
      have h2 : x.block = E := by simpa [Value.ownBlock] using e
      omega
  · exact owns_ne h hE

/-- 'append(out, c)': a row of the call's own that holds one byte more; what may have been written is the old row, if it was the call's own, and new blocks. -/
theorem run_append_outs {P : Program} (w : World) (B : Nat) (t ty : TypeId) (i : TypeInfo) (ht : P.underlying t = some (.slice 5)) (hi : P.info? 5 = some i) (hz : i.zero = some (.int .u8 0)) (hsize : i.size = 1) (hby : i.bytes = 1)
    (v : Value) (l : List UInt8) (ho : Outs B w v l) (a : Addr) (c : Nat) (b : UInt8) (hnews : ∀ j u, [Value.int .u8 b.toNat][j]? = some u → w.cell? (a.add j) = some u) (hl : l.length ≤ 4000000) (hB : B ≤ w.heap.size) :
    ∃ v' w' row, (Builtin.append_ #[t, t] ty #[v, .slice (some a) 1 c]).run P w = .ok v' w' ∧ w'.ownsRow B 5 1 v' (l ++ [b]).length (Lib.byteCells (l ++ [b])) ∧ w.grownBy w' row ∧ (∀ k, row = some k → B ≤ k ∧ v.ownBlock = some k) := by
  have eL : Lib.byteCells l ++ [Value.int .u8 b.toNat] = Lib.byteCells (l ++ [b]) := by simp [Lib.byteCells]
  have eN : l.length + 1 = (l ++ [b]).length := by simp
  have one : ∀ u ∈ [Value.int .u8 (b.toNat : Int)], u.oneCell' = true := by intro u hu; simp at hu; subst hu; rfl
  have up : ∀ {v' : Value} {w' : World}, w'.ownsRow w.heap.size 5 1 v' (l.length + 1) (Lib.byteCells l ++ [Value.int .u8 b.toNat]) → w'.ownsRow B 5 1 v' (l ++ [b]).length (Lib.byteCells (l ++ [b])) := fun {v' w'} h => by
    rw [← eL, ← eN]
    obtain ⟨a1, a2⟩ := h
    refine ⟨a1, ?_⟩
    rcases a2 with h | ⟨g, cap, cur, e, hb, r⟩
    · exact .inl h
    · exact .inr ⟨g, cap, cur, e, by omega, r⟩
  rcases ho with ⟨r, rfl, hn, _, hr⟩ | h
  · cases r with
    | some x =>
      obtain ⟨v', w', hrun, r1, r2⟩ := run_append_arg_grows (P := P) w t ty 5 i (.int .u8 0) 1 1 ht hi hz hsize hby rfl (by decide) x l.length l.length (Lib.byteCells l) (by rw [bc_len]; omega) (row_add (hr w (Below.refl _ _)) x rfl) a 1 c _ rfl hnews (by omega) (by unfold maxLen; omega) (by omega)
      exact ⟨v', w', none, hrun, up r1, r2, (fun k hk => by cases hk)⟩
    | none =>
      have h0 := hn rfl
      obtain rfl : l = [] := List.eq_nil_of_length_eq_zero h0
      obtain ⟨v', w', hrun, r1, r2, _⟩ := run_append_own (P := P) w w.heap.size t ty 5 i (.int .u8 0) 1 1 ht hi hz hsize hby rfl (by decide) (.slice none 0 0) 0 [] (World.ownsRow_nil w _ 5 1) a 1 c _ rfl hnews one (by unfold maxLen; omega) (by omega) (Nat.le_refl _)
      exact ⟨v', w', none, hrun, up r1, r2, (fun k hk => by cases hk)⟩
  · obtain ⟨v', w', hrun, r1, r2, _⟩ := run_append_own (P := P) w B t ty 5 i (.int .u8 0) 1 1 ht hi hz hsize hby rfl (by decide) v l.length _ h a 1 c _ rfl hnews one (by unfold maxLen; omega) (by omega) hB
    rw [eL, eN] at r1
    exact ⟨v', w', v.ownBlock, hrun, r1, r2, fun k hk => ⟨(h.lt k hk).1, hk⟩⟩
end Go.Proofs.Qxb6602245a
