/-
  THE ROW 'Rows.FnDistinctFirstOccurrencesSaid' OUT OF THE LAW's WALK (Qxb6602192aDistinctLaw): the guide's template at this function's number and types.
-/
import Derived.Test.Qxb6602192aRows
import Derived.Test.Qxb6602192aDistinctLaw
import Derived.WalkKit
import Derived.ProofKit
import Derived.OpenShut
import Derived.ShutString
import Derived.ChangeOld
import Derived.Below
import Derived.SliceStrings
namespace Go.Proofs.Qxb6602192a.fnDistinctFirstOccurrences
open Go.ChangeShapes Go.WideShapes Go.ChangeAt Go.RowKit
open Go.ChangeMaps (open_string shut_string)
set_option linter.unusedVariables false

theorem own : ownKnob Try.prog.godebug = none := by kernel_rfl

/-- What the walk is told of a slice of uint64 that came in. -/
def IsRow (w : World) (a : Option Addr) (len : Nat) : Prop :=
  len ≤ maxLen ∧ (a = none → len = 0) ∧ ∃ zs : List Int, zs.length = len ∧ Row w a (zs.map (.int .u64)) ∧ ∀ n ∈ zs, (Lit.int .u64 n).wf = true
/-- .. of a slice of strings. -/
def IsStr (w : World) (a : Option Addr) (len : Nat) : Prop :=
  len ≤ maxLen ∧ (a = none → len = 0) ∧ ∃ ss : List ByteArray, ss.length = len ∧ Row w a (ss.map .string) ∧ ∀ s ∈ ss, s.size ≤ maxLen

theorem walk (a0 : Option Addr) (n0 c0 : Nat) (a1 : Option Addr) (n1 c1 : Nat) (a2 : Option Addr) (n2 c2 : Nat) (w : World) (w0 : IsRow w a0 n0) (w1 : IsRow w a1 n1) (w2 : IsStr w a2 n2) :
    Calls Try.prog 5 #[.slice a0 n0 c0, .slice a1 n1 c1, .slice a2 n2 c2] w fun e w' => e = .returned (.bool true) ∧ Below w.heap.size w w' := by
  obtain ⟨m0, e0, zs, l0, r0, f0⟩ := w0
  obtain ⟨m1, e1, ys, l1, r1, f1⟩ := w1
  obtain ⟨m2, e2, ss, l2, r2, f2⟩ := w2
  exact law_any a0 a1 a2 n0 n1 n2 c0 c1 c2 zs ys ss w l0 l1 l2 m0 m1 m2 f0 f1 f2 r0 r1 r2 e0 e1 e2

theorem isRow_mk {W : World} {x : Addr} {l c : Nat} {zs : List Int} (hl : l ≤ c) (hm : c ≤ maxLen) (hz : zs.length = c) (hcell : ∀ i, i < zs.length → W.cell? (x.add i) = some (.int .u64 (zs.getD i 0))) (hwz : ∀ n ∈ zs, (Lit.int .u64 n).wf = true) : IsRow W (some x) l :=
  ⟨Nat.le_trans hl hm, (fun h => by cases h), zs.take l, by simp; omega, Row.of_ints hcell, fun n hn => hwz n (List.mem_of_mem_take hn)⟩

theorem isStr_mk {W : World} {x : Addr} {l c : Nat} {ss : List ByteArray} (hl : l ≤ c) (hm : c ≤ maxLen) (hz : ss.length = c) (hcell : ∀ i, i < ss.length → W.cell? (x.add i) = some (.string (ss.getD i ByteArray.empty))) (hwz : ∀ s ∈ ss, s.size ≤ maxLen) : IsStr W (some x) l := by
  refine ⟨Nat.le_trans hl hm, (fun h => by cases h), ss.take l, by simp; omega, ?_, fun n hn => hwz n (List.mem_of_mem_take hn)⟩
  intro j u hj
  obtain ⟨hlj, he⟩ := List.getElem?_eq_some_iff.1 hj
  simp only [List.length_map, List.length_take] at hlj
  obtain ⟨b, off, spot⟩ := x
  have hspot : spot = none := by simpa [Addr.add] using World.cell?_spot (hcell 0 (by omega))
  subst hspot
  refine ⟨b, off, rfl, ?_⟩
  rw [← Go.WideShapes.add_plain, hcell j (by omega), ← he]
  simp [List.getElem_take]
  rw [List.getElem?_eq_getElem (by omega)]
  simp

/-! ### THE ROW's STEP -/
set_option maxRecDepth 100000 in
theorem lifted (os : Os) (started : os.Started) (H : Type) (enc : TypeId × Value → H) :
    ReturnsInHanded {} Try.checked os 5 .any (Rows.fnDistinctFirstOccurrencesSpec.pre6 enc Try.prog Try.f5 Rows.fnDistinctFirstOccurrencesRow.domain false) (Rows.fnDistinctFirstOccurrencesSpec.post enc Try.prog Try.f5 false true false false) := by
  refine returnsInHanded_of_change (C := Try.checked) own started (by kernel_rfl) Try.func5
    (ChangeSpec.witness6 (enc := enc) (C := Try.checked) false ⟨#[], #[.slice none 0 0, .slice none 0 0, .slice none 0 0], []⟩ 8 (by kernel_rfl) (by kernel_rfl) (by kernel_rfl) (by kernel_rfl)) ?_
  intro W base args ds gs before hval0 hW hcnd _
  have hval : ∀ (j : Nat) t v, Try.f5.params[j]? = some t → args[j]? = some v → Value.okWide Try.prog W .any base t v := hval0
  have hW' := hW
  obtain ⟨p, q, hA0, hV, rfl, hfz, hnd⟩ := hW
  have hA : DataW.TrodAll enc Try.prog W 0 (fun _ => true) true Try.f5.params.toList args.toList ds p := hA0
  rw [Try.params5] at hA hval
  obtain ⟨v0, vs0, d0, ds0, p0, q0, hargs, rfl, rfl, h0, r0⟩ := trodAll_cons hA
  obtain ⟨v1, vs1, d1, ds1, p1, q1, rfl, rfl, rfl, h1, r1⟩ := trodAll_cons r0
  obtain ⟨v2, vs2, d2, ds2, p2, q2, rfl, rfl, rfl, h2, r2⟩ := trodAll_cons r1
  obtain ⟨rfl, rfl, rfl⟩ := trodAll_nil r2
  obtain rfl : args = #[v0, v1, v2] := by cases args; simp_all
  obtain ⟨rfl, rfl⟩ := trodVars_none hV
  obtain ⟨a0, len0, cap0, rfl⟩ := okWide_slice Try.underlying27 (hval 0 27 v0 rfl rfl)
  have k0 := h0
  have lt0 : ∀ x ∈ p0, x.block < W.heap.size := by obtain ⟨m, hm⟩ := k0; exact DataW.trod_lt m _ _ _ hm
  have w0 : IsRow W a0 len0 := by
    obtain ⟨fuel, hf⟩ := h0
    rcases open_ints Try.underlying27 Try.underlying22 (by kernel_rfl) hf with ⟨hcs, _⟩ | ⟨x, l, c, zs, hcs, _, hl, hm, hz, _, hcell, hwz⟩
    · simp [Value.cells] at hcs
      obtain ⟨rfl, rfl, rfl⟩ := hcs
      exact ⟨Nat.zero_le _, fun _ => rfl, [], rfl, Row.nil _ _, by simp⟩
    · simp [Value.cells] at hcs
      obtain ⟨rfl, rfl, rfl⟩ := hcs
      exact isRow_mk hl hm (by simpa using hz) hcell hwz
  obtain ⟨a1, len1, cap1, rfl⟩ := okWide_slice Try.underlying27 (hval 1 27 v1 rfl rfl)
  have k1 := h1
  have lt1 : ∀ x ∈ p1, x.block < W.heap.size := by obtain ⟨m, hm⟩ := k1; exact DataW.trod_lt m _ _ _ hm
  have w1 : IsRow W a1 len1 := by
    obtain ⟨fuel, hf⟩ := h1
    rcases open_ints Try.underlying27 Try.underlying22 (by kernel_rfl) hf with ⟨hcs, _⟩ | ⟨x, l, c, zs, hcs, _, hl, hm, hz, _, hcell, hwz⟩
    · simp [Value.cells] at hcs
      obtain ⟨rfl, rfl, rfl⟩ := hcs
      exact ⟨Nat.zero_le _, fun _ => rfl, [], rfl, Row.nil _ _, by simp⟩
    · simp [Value.cells] at hcs
      obtain ⟨rfl, rfl, rfl⟩ := hcs
      exact isRow_mk hl hm (by simpa using hz) hcell hwz
  obtain ⟨a2, len2, cap2, rfl⟩ := okWide_slice Try.underlying28 (hval 2 28 v2 rfl rfl)
  have k2 := h2
  have lt2 : ∀ x ∈ p2, x.block < W.heap.size := by obtain ⟨m, hm⟩ := k2; exact DataW.trod_lt m _ _ _ hm
  have w2 : IsStr W a2 len2 := by
    obtain ⟨fuel, hf⟩ := h2
    rcases open_strings Try.underlying28 Try.underlying9 (by kernel_rfl) hf with ⟨hcs, _⟩ | ⟨x, l, c, ss, hcs, _, hl, hm, hz, _, hcell, hws⟩
    · simp [Value.cells] at hcs
      obtain ⟨rfl, rfl, rfl⟩ := hcs
      exact ⟨Nat.zero_le _, fun _ => rfl, [], rfl, Row.nil _ _, by simp⟩
    · simp [Value.cells] at hcs
      obtain ⟨rfl, rfl, rfl⟩ := hcs
      exact isStr_mk hl hm (by simpa using hz) hcell hws
  clear hA0 hval0
  refine (walk a0 len0 cap0 a1 len1 cap1 a2 len2 cap2 W w0 w1 w2).mono fun e W' ⟨he, bel⟩ => ?_
  subst he
  exact ⟨_, rfl, _, _, _, [], _, [], hW', trodAll_mk1 (shut_bool Try.underlying4 _), (trodAll_cons_mk (Below.trod Try.laidOut (by kernel_rfl) (of_decide_eq_true (by kernel_rfl)) k0 bel lt0) (trodAll_cons_mk (Below.trod Try.laidOut (by kernel_rfl) (of_decide_eq_true (by kernel_rfl)) k1 bel lt1) (trodAll_cons_mk (Below.trod Try.laidOut (by kernel_rfl) (of_decide_eq_true (by kernel_rfl)) k2 bel lt2) trodAll_mk0))), rfl, bel.frame _, fun h => by cases h⟩

theorem over : Rows.fnDistinctFirstOccurrencesRow.holds Try.pinned (OpenSpec.ofChange Rows.fnDistinctFirstOccurrencesSpec) :=
  OpenClaim.holds_of_wide 5 Try.f5 rfl rfl rfl rfl rfl rfl rfl ⟨rfl, rfl, rfl, rfl, rfl⟩ rfl rfl rfl rfl rfl (by kernel_rfl) Try.func5 (by kernel_rfl)
    (of_decide_eq_true (by kernel_rfl)) (by unfold Func.isWrapper; first | (rw [if_pos (by decide +kernel)]; kernel_rfl) | (rw [if_neg (by decide +kernel)]; exact ⟨rfl, rfl⟩))
    (fun os started H enc _ => lifted os started H enc)

/-- ████ THE STATEMENT ████ -/
theorem proved : Rows.FnDistinctFirstOccurrencesSaid := over
#print axioms proved
end Go.Proofs.Qxb6602192a.fnDistinctFirstOccurrences
