/-
  No cell of these rows narrows 'for every input' (looked for: loops, veiled, ifaces, maps, wideKeys, modest, calm, conditions, laid).
  DERIVED. THE GIVEN ROWS OF THIS SEAT. 2 by the template 'for every input the law returns true; each argument reads behind the call as it read before'; 0 by the template 'total and deterministic' (their statements: Qxb6619348aTotals.lean).
  GIVEN WITH THE SEED: the statements are not yours to turn. If you find one false, say at which input.
  Laid BY PROGRAM, IN A SANDBOX (cutbox-rows.mjs): the forced cells as the released guide's own fill.sh prints them over the translation 182c9c9927dd5f78… (all of the seat's roots in one cut). By AI agents, Wed Nov 11 2026. No macro, syntax, notation, axiom, sorry.
-/
import Derived.Test.Qxb6619348aChecked
import GoSem.Claim
import GoSem.ClaimJoined
import GoSem.ClaimMapViews
import Derived.JoinedTies
import Derived.KernelRfl
namespace Go.Proofs.Qxb6619348a
/- THE CELL 'sum', in the pinned program and in every row, IS THE sha256 OF THE DUMP (.gsa) THAT Qxb6619348aProg.lean LOADS. Nothing in Lean hashes anything: it is a label: what it is worth is what the hold of that sum in a sandbox is worth. -/
noncomputable def Try.pinned : Pinned := { name := "qxb6619348a", sum := "182c9c9927dd5f78b91dd873d1b0bb44006037d4de7bc493854e69a13a6a22d9", checked := Try.checked }
namespace Rows
def none {H : Type} : Left H := { results := [], args := [] }

/-- 'zzlaws_internal_bench_b1.FnShareTilesAllOperations': WHATEVER THE INPUT: true; the input reads as it did. -/
def fnShareTilesAllOperationsSpec : ChangeSpec := { name := "fnShareTilesAllOperations", fn := fun _ => fun
  | [d1, d2] => { results := [.lit (.bool true)], args := [d1, d2] }
  | _ => none }
def fnShareTilesAllOperationsRow : OpenClaim := { program := "qxb6619348a", sum := "182c9c9927dd5f78b91dd873d1b0bb44006037d4de7bc493854e69a13a6a22d9", func := "example.com/sediment/sediment/zzlaws_internal_bench_b1.FnShareTilesAllOperations", spec := "fnShareTilesAllOperations", apart := false }
def FnShareTilesAllOperationsSaid : Prop := fnShareTilesAllOperationsRow.holds Try.pinned (OpenSpec.ofChange fnShareTilesAllOperationsSpec)

/-- ITS FALSE NEIGHBOUR: 'it returns false'. Refute it at one input. -/
def fnShareTilesAllOperationsWrong : ChangeSpec := { name := "fnShareTilesAllOperations", fn := fun _ => fun
  | [d1, d2] => { results := [.lit (.bool false)], args := [d1, d2] }
  | _ => none }
def FnShareTilesAllOperationsWrongFalsely : Prop := fnShareTilesAllOperationsRow.holds Try.pinned (OpenSpec.ofChange fnShareTilesAllOperationsWrong)

/-- 'zzlaws_internal_bench_b1.FnShareGrowsByOneEach': WHATEVER THE INPUT: true; the input reads as it did. -/
def fnShareGrowsByOneEachSpec : ChangeSpec := { name := "fnShareGrowsByOneEach", fn := fun _ => fun
  | [d1, d2, d3] => { results := [.lit (.bool true)], args := [d1, d2, d3] }
  | _ => none }
def fnShareGrowsByOneEachRow : OpenClaim := { program := "qxb6619348a", sum := "182c9c9927dd5f78b91dd873d1b0bb44006037d4de7bc493854e69a13a6a22d9", func := "example.com/sediment/sediment/zzlaws_internal_bench_b1.FnShareGrowsByOneEach", spec := "fnShareGrowsByOneEach", apart := false }
def FnShareGrowsByOneEachSaid : Prop := fnShareGrowsByOneEachRow.holds Try.pinned (OpenSpec.ofChange fnShareGrowsByOneEachSpec)

/-- ITS FALSE NEIGHBOUR: 'it returns false'. Refute it at one input. -/
def fnShareGrowsByOneEachWrong : ChangeSpec := { name := "fnShareGrowsByOneEach", fn := fun _ => fun
  | [d1, d2, d3] => { results := [.lit (.bool false)], args := [d1, d2, d3] }
  | _ => none }
def FnShareGrowsByOneEachWrongFalsely : Prop := fnShareGrowsByOneEachRow.holds Try.pinned (OpenSpec.ofChange fnShareGrowsByOneEachWrong)

end Rows
end Go.Proofs.Qxb6619348a
