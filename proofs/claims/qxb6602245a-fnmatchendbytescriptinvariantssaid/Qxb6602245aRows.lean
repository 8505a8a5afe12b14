/-
  No cell of these rows narrows 'for every input' (looked for: loops, veiled, ifaces, maps, wideKeys, modest, calm, conditions, laid).
  DERIVED. THE GIVEN ROWS OF THIS SEAT. 5 by the template 'for every input the law returns true; each argument reads behind the call as it read before'; 0 by the template 'total and deterministic' (their statements: Qxb6602245aTotals.lean).
  GIVEN WITH THE SEED: the statements are not yours to turn. If you find one false, say at which input.
  Laid BY PROGRAM, IN A SANDBOX (cutbox-rows.mjs): the forced cells as the released guide's own fill.sh prints them over the translation 8b7e20f3dc902503… (all of the seat's roots in one cut). By AI agents, Wed Nov 11 2026. No macro, syntax, notation, axiom, sorry.
-/
import Derived.Test.Qxb6602245aChecked
import GoSem.Claim
import GoSem.ClaimJoined
import GoSem.ClaimMapViews
import Derived.JoinedTies
import Derived.KernelRfl
namespace Go.Proofs.Qxb6602245a
/- THE CELL 'sum', in the pinned program and in every row, IS THE sha256 OF THE DUMP (.gsa) THAT Qxb6602245aProg.lean LOADS. Nothing in Lean hashes anything: it is a label: what it is worth is what the hold of that sum in a sandbox is worth. -/
noncomputable def Try.pinned : Pinned := { name := "qxb6602245a", sum := "8b7e20f3dc9025032748e33c88e9168fcd11189fbdecb69d589cda80ca7c43e3", checked := Try.checked }
namespace Rows
def none {H : Type} : Left H := { results := [], args := [] }

/-- 'zzlaws_internal_zpaq_b1.FnTableFindMatchesModel': WHATEVER THE INPUT: true; the input reads as it did. -/
def fnTableFindMatchesModelSpec : ChangeSpec := { name := "fnTableFindMatchesModel", fn := fun _ => fun
  | [d1, d2, d3, d4, d5] => { results := [.lit (.bool true)], args := [d1, d2, d3, d4, d5] }
  | _ => none }
def fnTableFindMatchesModelRow : OpenClaim := { program := "qxb6602245a", sum := "8b7e20f3dc9025032748e33c88e9168fcd11189fbdecb69d589cda80ca7c43e3", func := "example.com/strandkeep/strandkeep/zzlaws_internal_zpaq_b1.FnTableFindMatchesModel", spec := "fnTableFindMatchesModel", apart := false }
def FnTableFindMatchesModelSaid : Prop := fnTableFindMatchesModelRow.holds Try.pinned (OpenSpec.ofChange fnTableFindMatchesModelSpec)

/-- ITS FALSE NEIGHBOUR: 'it returns false'. Refute it at one input. -/
def fnTableFindMatchesModelWrong : ChangeSpec := { name := "fnTableFindMatchesModel", fn := fun _ => fun
  | [d1, d2, d3, d4, d5] => { results := [.lit (.bool false)], args := [d1, d2, d3, d4, d5] }
  | _ => none }
def FnTableFindMatchesModelWrongFalsely : Prop := fnTableFindMatchesModelRow.holds Try.pinned (OpenSpec.ofChange fnTableFindMatchesModelWrong)

/-- 'zzlaws_internal_zpaq_b1.FnTableFindIdempotent': WHATEVER THE INPUT: true; the input reads as it did. -/
def fnTableFindIdempotentSpec : ChangeSpec := { name := "fnTableFindIdempotent", fn := fun _ => fun
  | [d1, d2, d3, d4, d5] => { results := [.lit (.bool true)], args := [d1, d2, d3, d4, d5] }
  | _ => none }
def fnTableFindIdempotentRow : OpenClaim := { program := "qxb6602245a", sum := "8b7e20f3dc9025032748e33c88e9168fcd11189fbdecb69d589cda80ca7c43e3", func := "example.com/strandkeep/strandkeep/zzlaws_internal_zpaq_b1.FnTableFindIdempotent", spec := "fnTableFindIdempotent", apart := false }
def FnTableFindIdempotentSaid : Prop := fnTableFindIdempotentRow.holds Try.pinned (OpenSpec.ofChange fnTableFindIdempotentSpec)

/-- ITS FALSE NEIGHBOUR: 'it returns false'. Refute it at one input. -/
def fnTableFindIdempotentWrong : ChangeSpec := { name := "fnTableFindIdempotent", fn := fun _ => fun
  | [d1, d2, d3, d4, d5] => { results := [.lit (.bool false)], args := [d1, d2, d3, d4, d5] }
  | _ => none }
def FnTableFindIdempotentWrongFalsely : Prop := fnTableFindIdempotentRow.holds Try.pinned (OpenSpec.ofChange fnTableFindIdempotentWrong)

/-- 'zzlaws_internal_zpaq_b1.FnMatchEndByteScriptInvariants': WHATEVER THE INPUT: true; the input reads as it did. -/
def fnMatchEndByteScriptInvariantsSpec : ChangeSpec := { name := "fnMatchEndByteScriptInvariants", fn := fun _ => fun
  | [d1, d2, d3, d4, d5, d6, d7, d8] => { results := [.lit (.bool true)], args := [d1, d2, d3, d4, d5, d6, d7, d8] }
  | _ => none }
def fnMatchEndByteScriptInvariantsRow : OpenClaim := { program := "qxb6602245a", sum := "8b7e20f3dc9025032748e33c88e9168fcd11189fbdecb69d589cda80ca7c43e3", func := "example.com/strandkeep/strandkeep/zzlaws_internal_zpaq_b1.FnMatchEndByteScriptInvariants", spec := "fnMatchEndByteScriptInvariants", apart := false }
def FnMatchEndByteScriptInvariantsSaid : Prop := fnMatchEndByteScriptInvariantsRow.holds Try.pinned (OpenSpec.ofChange fnMatchEndByteScriptInvariantsSpec)

/-- ITS FALSE NEIGHBOUR: 'it returns false'. Refute it at one input. -/
def fnMatchEndByteScriptInvariantsWrong : ChangeSpec := { name := "fnMatchEndByteScriptInvariants", fn := fun _ => fun
  | [d1, d2, d3, d4, d5, d6, d7, d8] => { results := [.lit (.bool false)], args := [d1, d2, d3, d4, d5, d6, d7, d8] }
  | _ => none }
def FnMatchEndByteScriptInvariantsWrongFalsely : Prop := fnMatchEndByteScriptInvariantsRow.holds Try.pinned (OpenSpec.ofChange fnMatchEndByteScriptInvariantsWrong)

/-- 'zzlaws_internal_zpaq_b1.FnEncodeRoundTrip': WHATEVER THE INPUT: true; the input reads as it did. -/
def fnEncodeRoundTripSpec : ChangeSpec := { name := "fnEncodeRoundTrip", fn := fun _ => fun
  | [d1, d2, d3, d4, d5] => { results := [.lit (.bool true)], args := [d1, d2, d3, d4, d5] }
  | _ => none }
def fnEncodeRoundTripRow : OpenClaim := { program := "qxb6602245a", sum := "8b7e20f3dc9025032748e33c88e9168fcd11189fbdecb69d589cda80ca7c43e3", func := "example.com/strandkeep/strandkeep/zzlaws_internal_zpaq_b1.FnEncodeRoundTrip", spec := "fnEncodeRoundTrip", apart := false }
def FnEncodeRoundTripSaid : Prop := fnEncodeRoundTripRow.holds Try.pinned (OpenSpec.ofChange fnEncodeRoundTripSpec)

/-- ITS FALSE NEIGHBOUR: 'it returns false'. Refute it at one input. -/
def fnEncodeRoundTripWrong : ChangeSpec := { name := "fnEncodeRoundTrip", fn := fun _ => fun
  | [d1, d2, d3, d4, d5] => { results := [.lit (.bool false)], args := [d1, d2, d3, d4, d5] }
  | _ => none }
def FnEncodeRoundTripWrongFalsely : Prop := fnEncodeRoundTripRow.holds Try.pinned (OpenSpec.ofChange fnEncodeRoundTripWrong)

/-- 'zzlaws_internal_zpaq_b1.FnEncodeNarrowsInterval': WHATEVER THE INPUT: true; the input reads as it did. -/
def fnEncodeNarrowsIntervalSpec : ChangeSpec := { name := "fnEncodeNarrowsInterval", fn := fun _ => fun
  | [d1, d2, d3, d4, d5] => { results := [.lit (.bool true)], args := [d1, d2, d3, d4, d5] }
  | _ => none }
def fnEncodeNarrowsIntervalRow : OpenClaim := { program := "qxb6602245a", sum := "8b7e20f3dc9025032748e33c88e9168fcd11189fbdecb69d589cda80ca7c43e3", func := "example.com/strandkeep/strandkeep/zzlaws_internal_zpaq_b1.FnEncodeNarrowsInterval", spec := "fnEncodeNarrowsInterval", apart := false }
def FnEncodeNarrowsIntervalSaid : Prop := fnEncodeNarrowsIntervalRow.holds Try.pinned (OpenSpec.ofChange fnEncodeNarrowsIntervalSpec)

/-- ITS FALSE NEIGHBOUR: 'it returns false'. Refute it at one input. -/
def fnEncodeNarrowsIntervalWrong : ChangeSpec := { name := "fnEncodeNarrowsInterval", fn := fun _ => fun
  | [d1, d2, d3, d4, d5] => { results := [.lit (.bool false)], args := [d1, d2, d3, d4, d5] }
  | _ => none }
def FnEncodeNarrowsIntervalWrongFalsely : Prop := fnEncodeNarrowsIntervalRow.holds Try.pinned (OpenSpec.ofChange fnEncodeNarrowsIntervalWrong)

end Rows
end Go.Proofs.Qxb6602245a
