/-
  No cell of these rows narrows 'for every input' (looked for: loops, veiled, ifaces, maps, wideKeys, modest, calm, conditions, laid).
  DERIVED. THE GIVEN ROWS OF THIS SEAT. 3 by the template 'for every input the law returns true; each argument reads behind the call as it read before'; 0 by the template 'total and deterministic' (their statements: Qxb6602316aTotals.lean).
  GIVEN WITH THE SEED: the statements are not yours to turn. If you find one false, say at which input.
  Laid BY PROGRAM, IN A SANDBOX (cutbox-rows.mjs): the forced cells as the released guide's own fill.sh prints them over the translation 04d9759a6c3e3031… (all of the seat's roots in one cut). By AI agents, Wed Nov 11 2026. No macro, syntax, notation, axiom, sorry.
-/
import Derived.Test.Qxb6602316aChecked
import GoSem.Claim
import GoSem.ClaimJoined
import GoSem.ClaimMapViews
import Derived.JoinedTies
import Derived.KernelRfl
namespace Go.Proofs.Qxb6602316a
/- THE CELL 'sum', in the pinned program and in every row, IS THE sha256 OF THE DUMP (.gsa) THAT Qxb6602316aProg.lean LOADS. Nothing in Lean hashes anything: it is a label: what it is worth is what the hold of that sum in a sandbox is worth. -/
noncomputable def Try.pinned : Pinned := { name := "qxb6602316a", sum := "04d9759a6c3e30319ab466531722c26e913c6926db2633a12408d9efcd1f5619", checked := Try.checked }
namespace Rows
def none {H : Type} : Left H := { results := [], args := [] }

/-- 'zzlaws_saga_b1.FnSkipSpaceMatchesModel': WHATEVER THE INPUT: true; the input reads as it did. -/
def fnSkipSpaceMatchesModelSpec : ChangeSpec := { name := "fnSkipSpaceMatchesModel", fn := fun _ => fun
  | [d1, d2, d3] => { results := [.lit (.bool true)], args := [d1, d2, d3] }
  | _ => none }
def fnSkipSpaceMatchesModelRow : OpenClaim := { program := "qxb6602316a", sum := "04d9759a6c3e30319ab466531722c26e913c6926db2633a12408d9efcd1f5619", func := "example.com/sagacity/sagacity/zzlaws_saga_b1.FnSkipSpaceMatchesModel", spec := "fnSkipSpaceMatchesModel", apart := false }
def FnSkipSpaceMatchesModelSaid : Prop := fnSkipSpaceMatchesModelRow.holds Try.pinned (OpenSpec.ofChange fnSkipSpaceMatchesModelSpec)

/-- ITS FALSE NEIGHBOUR: 'it returns false'. Refute it at one input. -/
def fnSkipSpaceMatchesModelWrong : ChangeSpec := { name := "fnSkipSpaceMatchesModel", fn := fun _ => fun
  | [d1, d2, d3] => { results := [.lit (.bool false)], args := [d1, d2, d3] }
  | _ => none }
def FnSkipSpaceMatchesModelWrongFalsely : Prop := fnSkipSpaceMatchesModelRow.holds Try.pinned (OpenSpec.ofChange fnSkipSpaceMatchesModelWrong)

/-- 'zzlaws_saga_b1.FnSkipSpaceIdempotentAndStops': WHATEVER THE INPUT: true; the input reads as it did. -/
def fnSkipSpaceIdempotentAndStopsSpec : ChangeSpec := { name := "fnSkipSpaceIdempotentAndStops", fn := fun _ => fun
  | [d1, d2, d3] => { results := [.lit (.bool true)], args := [d1, d2, d3] }
  | _ => none }
def fnSkipSpaceIdempotentAndStopsRow : OpenClaim := { program := "qxb6602316a", sum := "04d9759a6c3e30319ab466531722c26e913c6926db2633a12408d9efcd1f5619", func := "example.com/sagacity/sagacity/zzlaws_saga_b1.FnSkipSpaceIdempotentAndStops", spec := "fnSkipSpaceIdempotentAndStops", apart := false }
def FnSkipSpaceIdempotentAndStopsSaid : Prop := fnSkipSpaceIdempotentAndStopsRow.holds Try.pinned (OpenSpec.ofChange fnSkipSpaceIdempotentAndStopsSpec)

/-- ITS FALSE NEIGHBOUR: 'it returns false'. Refute it at one input. -/
def fnSkipSpaceIdempotentAndStopsWrong : ChangeSpec := { name := "fnSkipSpaceIdempotentAndStops", fn := fun _ => fun
  | [d1, d2, d3] => { results := [.lit (.bool false)], args := [d1, d2, d3] }
  | _ => none }
def FnSkipSpaceIdempotentAndStopsWrongFalsely : Prop := fnSkipSpaceIdempotentAndStopsRow.holds Try.pinned (OpenSpec.ofChange fnSkipSpaceIdempotentAndStopsWrong)

/-- 'zzlaws_saga_b1.FnSkipSpaceLineShift': WHATEVER THE INPUT: true; the input reads as it did. -/
def fnSkipSpaceLineShiftSpec : ChangeSpec := { name := "fnSkipSpaceLineShift", fn := fun _ => fun
  | [d1, d2, d3] => { results := [.lit (.bool true)], args := [d1, d2, d3] }
  | _ => none }
def fnSkipSpaceLineShiftRow : OpenClaim := { program := "qxb6602316a", sum := "04d9759a6c3e30319ab466531722c26e913c6926db2633a12408d9efcd1f5619", func := "example.com/sagacity/sagacity/zzlaws_saga_b1.FnSkipSpaceLineShift", spec := "fnSkipSpaceLineShift", apart := false }
def FnSkipSpaceLineShiftSaid : Prop := fnSkipSpaceLineShiftRow.holds Try.pinned (OpenSpec.ofChange fnSkipSpaceLineShiftSpec)

/-- ITS FALSE NEIGHBOUR: 'it returns false'. Refute it at one input. -/
def fnSkipSpaceLineShiftWrong : ChangeSpec := { name := "fnSkipSpaceLineShift", fn := fun _ => fun
  | [d1, d2, d3] => { results := [.lit (.bool false)], args := [d1, d2, d3] }
  | _ => none }
def FnSkipSpaceLineShiftWrongFalsely : Prop := fnSkipSpaceLineShiftRow.holds Try.pinned (OpenSpec.ofChange fnSkipSpaceLineShiftWrong)

end Rows
end Go.Proofs.Qxb6602316a
