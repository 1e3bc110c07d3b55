/-
  No cell of these rows narrows 'for every input' (looked for: loops, veiled, ifaces, maps, wideKeys, modest, calm, conditions, laid).
  DERIVED. THE GIVEN ROWS OF THIS SEAT. 2 by the template 'for every input the law returns true; each argument reads behind the call as it read before'; 0 by the template 'total and deterministic' (their statements: Qxb6618735aTotals.lean).
  GIVEN WITH THE SEED: the statements are not yours to turn. If you find one false, say at which input.
  Laid BY PROGRAM, IN A SANDBOX (cutbox-rows.mjs): the forced cells as the released guide's own fill.sh prints them over the translation cbb8a06ee6d6d426… (all of the seat's roots in one cut). By AI agents, Wed Nov 11 2026. No macro, syntax, notation, axiom, sorry.
-/
import Derived.Test.Qxb6618735aChecked
import GoSem.Claim
import GoSem.ClaimJoined
import GoSem.ClaimMapViews
import Derived.JoinedTies
import Derived.KernelRfl
namespace Go.Proofs.Qxb6618735a
/- THE CELL 'sum', in the pinned program and in every row, IS THE sha256 OF THE DUMP (.gsa) THAT Qxb6618735aProg.lean LOADS. Nothing in Lean hashes anything: it is a label: what it is worth is what the hold of that sum in a sandbox is worth. -/
noncomputable def Try.pinned : Pinned := { name := "qxb6618735a", sum := "cbb8a06ee6d6d42625cee45c523348a0a714c6d7abd21eac5a47b768d7fd8527", checked := Try.checked }
namespace Rows
def none {H : Type} : Left H := { results := [], args := [] }

/-- 'zzlaws_pkg_reviewinput_b1.FnShownGroupsAreTheKeptShownGroupsSmallestFirst': WHATEVER THE INPUT: true; the input reads as it did. -/
def fnShownGroupsAreTheKeptShownGroupsSmallestFirstSpec : ChangeSpec := { name := "fnShownGroupsAreTheKeptShownGroupsSmallestFirst", fn := fun _ => fun
  | [d] => { results := [.lit (.bool true)], args := [d] }
  | _ => none }
def fnShownGroupsAreTheKeptShownGroupsSmallestFirstRow : OpenClaim := { program := "qxb6618735a", sum := "cbb8a06ee6d6d42625cee45c523348a0a714c6d7abd21eac5a47b768d7fd8527", func := "example.com/lapidary/lapidary/zzlaws_pkg_reviewinput_b1.FnShownGroupsAreTheKeptShownGroupsSmallestFirst", spec := "fnShownGroupsAreTheKeptShownGroupsSmallestFirst", inPlace := ["internal/bytealg.abigen_runtime_cmpstring"], unfollowed := true, recurses := true, apart := false }
def FnShownGroupsAreTheKeptShownGroupsSmallestFirstSaid : Prop := fnShownGroupsAreTheKeptShownGroupsSmallestFirstRow.holds Try.pinned (OpenSpec.ofChange fnShownGroupsAreTheKeptShownGroupsSmallestFirstSpec)

/-- ITS FALSE NEIGHBOUR: 'it returns false'. Refute it at one input. -/
def fnShownGroupsAreTheKeptShownGroupsSmallestFirstWrong : ChangeSpec := { name := "fnShownGroupsAreTheKeptShownGroupsSmallestFirst", fn := fun _ => fun
  | [d] => { results := [.lit (.bool false)], args := [d] }
  | _ => none }
def FnShownGroupsAreTheKeptShownGroupsSmallestFirstWrongFalsely : Prop := fnShownGroupsAreTheKeptShownGroupsSmallestFirstRow.holds Try.pinned (OpenSpec.ofChange fnShownGroupsAreTheKeptShownGroupsSmallestFirstWrong)

/-- 'zzlaws_pkg_reviewinput_b1.FnShownGroupsExcludingAFileDropsJustItsGroup': WHATEVER THE INPUT: true; the input reads as it did. -/
def fnShownGroupsExcludingAFileDropsJustItsGroupSpec : ChangeSpec := { name := "fnShownGroupsExcludingAFileDropsJustItsGroup", fn := fun _ => fun
  | [d1, d2] => { results := [.lit (.bool true)], args := [d1, d2] }
  | _ => none }
def fnShownGroupsExcludingAFileDropsJustItsGroupRow : OpenClaim := { program := "qxb6618735a", sum := "cbb8a06ee6d6d42625cee45c523348a0a714c6d7abd21eac5a47b768d7fd8527", func := "example.com/lapidary/lapidary/zzlaws_pkg_reviewinput_b1.FnShownGroupsExcludingAFileDropsJustItsGroup", spec := "fnShownGroupsExcludingAFileDropsJustItsGroup", inPlace := ["internal/bytealg.abigen_runtime_cmpstring"], unfollowed := true, recurses := true, apart := false }
def FnShownGroupsExcludingAFileDropsJustItsGroupSaid : Prop := fnShownGroupsExcludingAFileDropsJustItsGroupRow.holds Try.pinned (OpenSpec.ofChange fnShownGroupsExcludingAFileDropsJustItsGroupSpec)

/-- ITS FALSE NEIGHBOUR: 'it returns false'. Refute it at one input. -/
def fnShownGroupsExcludingAFileDropsJustItsGroupWrong : ChangeSpec := { name := "fnShownGroupsExcludingAFileDropsJustItsGroup", fn := fun _ => fun
  | [d1, d2] => { results := [.lit (.bool false)], args := [d1, d2] }
  | _ => none }
def FnShownGroupsExcludingAFileDropsJustItsGroupWrongFalsely : Prop := fnShownGroupsExcludingAFileDropsJustItsGroupRow.holds Try.pinned (OpenSpec.ofChange fnShownGroupsExcludingAFileDropsJustItsGroupWrong)

end Rows
end Go.Proofs.Qxb6618735a
