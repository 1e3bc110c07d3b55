/-
  No cell of these rows narrows 'for every input' (looked for: loops, veiled, ifaces, maps, wideKeys, modest, calm, conditions, laid).
  DERIVED. THE GIVEN ROWS OF THIS SEAT. 4 by the template 'for every input the law returns true; each argument reads behind the call as it read before'; 0 by the template 'total and deterministic' (their statements: Qxb6618072aTotals.lean).
  GIVEN WITH THE SEED: the statements are not yours to turn. If you find one false, say at which input.
  Laid BY PROGRAM, IN A SANDBOX (cutbox-rows.mjs): the forced cells as the released guide's own fill.sh prints them over the translation 788f88d88c7333c8… (all of the seat's roots in one cut). By AI agents, Wed Nov 11 2026. No macro, syntax, notation, axiom, sorry.
-/
import Derived.Test.Qxb6618072aChecked
import GoSem.Claim
import GoSem.ClaimJoined
import GoSem.ClaimMapViews
import Derived.JoinedTies
import Derived.KernelRfl
namespace Go.Proofs.Qxb6618072a
/- THE CELL 'sum', in the pinned program and in every row, IS THE sha256 OF THE DUMP (.gsa) THAT Qxb6618072aProg.lean LOADS. Nothing in Lean hashes anything: it is a label: what it is worth is what the hold of that sum in a sandbox is worth. -/
noncomputable def Try.pinned : Pinned := { name := "qxb6618072a", sum := "788f88d88c7333c87cb7349b71acb193522d1bb4a6409ad43d41872fe4b52988", checked := Try.checked }
namespace Rows
def none {H : Type} : Left H := { results := [], args := [] }

/-- 'zzlaws_root_b1.FnSOCKS5VerdictSettlesAtGreetingEnd': WHATEVER THE INPUT: true; the input reads as it did. -/
def fnSOCKS5VerdictSettlesAtGreetingEndSpec : ChangeSpec := { name := "fnSOCKS5VerdictSettlesAtGreetingEnd", fn := fun _ => fun
  | [d] => { results := [.lit (.bool true)], args := [d] }
  | _ => none }
def fnSOCKS5VerdictSettlesAtGreetingEndRow : OpenClaim := { program := "qxb6618072a", sum := "788f88d88c7333c87cb7349b71acb193522d1bb4a6409ad43d41872fe4b52988", func := "example.com/ferrule/ferrule/zzlaws_root_b1.FnSOCKS5VerdictSettlesAtGreetingEnd", spec := "fnSOCKS5VerdictSettlesAtGreetingEnd", apart := false }
def FnSOCKS5VerdictSettlesAtGreetingEndSaid : Prop := fnSOCKS5VerdictSettlesAtGreetingEndRow.holds Try.pinned (OpenSpec.ofChange fnSOCKS5VerdictSettlesAtGreetingEndSpec)

/-- ITS FALSE NEIGHBOUR: 'it returns false'. Refute it at one input. -/
def fnSOCKS5VerdictSettlesAtGreetingEndWrong : ChangeSpec := { name := "fnSOCKS5VerdictSettlesAtGreetingEnd", fn := fun _ => fun
  | [d] => { results := [.lit (.bool false)], args := [d] }
  | _ => none }
def FnSOCKS5VerdictSettlesAtGreetingEndWrongFalsely : Prop := fnSOCKS5VerdictSettlesAtGreetingEndRow.holds Try.pinned (OpenSpec.ofChange fnSOCKS5VerdictSettlesAtGreetingEndWrong)

/-- 'zzlaws_root_b1.FnOneOfAgreesWithCommonPrefixModel': WHATEVER THE INPUT: true; the input reads as it did. -/
def fnOneOfAgreesWithCommonPrefixModelSpec : ChangeSpec := { name := "fnOneOfAgreesWithCommonPrefixModel", fn := fun _ => fun
  | [d1, d2] => { results := [.lit (.bool true)], args := [d1, d2] }
  | _ => none }
def fnOneOfAgreesWithCommonPrefixModelRow : OpenClaim := { program := "qxb6618072a", sum := "788f88d88c7333c87cb7349b71acb193522d1bb4a6409ad43d41872fe4b52988", func := "example.com/ferrule/ferrule/zzlaws_root_b1.FnOneOfAgreesWithCommonPrefixModel", spec := "fnOneOfAgreesWithCommonPrefixModel", apart := false }
def FnOneOfAgreesWithCommonPrefixModelSaid : Prop := fnOneOfAgreesWithCommonPrefixModelRow.holds Try.pinned (OpenSpec.ofChange fnOneOfAgreesWithCommonPrefixModelSpec)

/-- ITS FALSE NEIGHBOUR: 'it returns false'. Refute it at one input. -/
def fnOneOfAgreesWithCommonPrefixModelWrong : ChangeSpec := { name := "fnOneOfAgreesWithCommonPrefixModel", fn := fun _ => fun
  | [d1, d2] => { results := [.lit (.bool false)], args := [d1, d2] }
  | _ => none }
def FnOneOfAgreesWithCommonPrefixModelWrongFalsely : Prop := fnOneOfAgreesWithCommonPrefixModelRow.holds Try.pinned (OpenSpec.ofChange fnOneOfAgreesWithCommonPrefixModelWrong)

/-- 'zzlaws_root_b1.FnOneOfSplitsInsertsAndExtends': WHATEVER THE INPUT: true; the input reads as it did. -/
def fnOneOfSplitsInsertsAndExtendsSpec : ChangeSpec := { name := "fnOneOfSplitsInsertsAndExtends", fn := fun _ => fun
  | [d1, d2, d3, d4] => { results := [.lit (.bool true)], args := [d1, d2, d3, d4] }
  | _ => none }
def fnOneOfSplitsInsertsAndExtendsRow : OpenClaim := { program := "qxb6618072a", sum := "788f88d88c7333c87cb7349b71acb193522d1bb4a6409ad43d41872fe4b52988", func := "example.com/ferrule/ferrule/zzlaws_root_b1.FnOneOfSplitsInsertsAndExtends", spec := "fnOneOfSplitsInsertsAndExtends", apart := false }
def FnOneOfSplitsInsertsAndExtendsSaid : Prop := fnOneOfSplitsInsertsAndExtendsRow.holds Try.pinned (OpenSpec.ofChange fnOneOfSplitsInsertsAndExtendsSpec)

/-- ITS FALSE NEIGHBOUR: 'it returns false'. Refute it at one input. -/
def fnOneOfSplitsInsertsAndExtendsWrong : ChangeSpec := { name := "fnOneOfSplitsInsertsAndExtends", fn := fun _ => fun
  | [d1, d2, d3, d4] => { results := [.lit (.bool false)], args := [d1, d2, d3, d4] }
  | _ => none }
def FnOneOfSplitsInsertsAndExtendsWrongFalsely : Prop := fnOneOfSplitsInsertsAndExtendsRow.holds Try.pinned (OpenSpec.ofChange fnOneOfSplitsInsertsAndExtendsWrong)

/-- 'zzlaws_root_b1.FnArrivedStopsAtFirstRecordWithBytes': WHATEVER THE INPUT: true; the input reads as it did. -/
def fnArrivedStopsAtFirstRecordWithBytesSpec : ChangeSpec := { name := "fnArrivedStopsAtFirstRecordWithBytes", fn := fun _ => fun
  | [d1, d2, d3, d4, d5] => { results := [.lit (.bool true)], args := [d1, d2, d3, d4, d5] }
  | _ => none }
def fnArrivedStopsAtFirstRecordWithBytesRow : OpenClaim := { program := "qxb6618072a", sum := "788f88d88c7333c87cb7349b71acb193522d1bb4a6409ad43d41872fe4b52988", func := "example.com/ferrule/ferrule/zzlaws_root_b1.FnArrivedStopsAtFirstRecordWithBytes", spec := "fnArrivedStopsAtFirstRecordWithBytes", apart := false }
def FnArrivedStopsAtFirstRecordWithBytesSaid : Prop := fnArrivedStopsAtFirstRecordWithBytesRow.holds Try.pinned (OpenSpec.ofChange fnArrivedStopsAtFirstRecordWithBytesSpec)

/-- ITS FALSE NEIGHBOUR: 'it returns false'. Refute it at one input. -/
def fnArrivedStopsAtFirstRecordWithBytesWrong : ChangeSpec := { name := "fnArrivedStopsAtFirstRecordWithBytes", fn := fun _ => fun
  | [d1, d2, d3, d4, d5] => { results := [.lit (.bool false)], args := [d1, d2, d3, d4, d5] }
  | _ => none }
def FnArrivedStopsAtFirstRecordWithBytesWrongFalsely : Prop := fnArrivedStopsAtFirstRecordWithBytesRow.holds Try.pinned (OpenSpec.ofChange fnArrivedStopsAtFirstRecordWithBytesWrong)

end Rows
end Go.Proofs.Qxb6618072a
