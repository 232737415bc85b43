/-
  No cell of these rows narrows 'for every input' (looked for: loops, veiled, ifaces, maps, wideKeys, modest, calm, conditions, laid).
  DERIVED. THE GIVEN ROWS OF THIS SEAT. 3 by the template 'for every input the law returns true; each argument reads behind the call as it read before'; 0 by the template 'total and deterministic' (their statements: Qxb6619251aTotals.lean).
  GIVEN WITH THE SEED: the statements are not yours to turn. If you find one false, say at which input.
  Laid BY PROGRAM, IN A SANDBOX (cutbox-rows.mjs): the forced cells as the released guide's own fill.sh prints them over the translation b46d078eb7d038c9… (all of the seat's roots in one cut). By AI agents, Wed Nov 11 2026. No macro, syntax, notation, axiom, sorry.
-/
import Derived.Test.Qxb6619251aChecked
import GoSem.Claim
import GoSem.ClaimJoined
import GoSem.ClaimMapViews
import Derived.JoinedTies
import Derived.KernelRfl
namespace Go.Proofs.Qxb6619251a
/- THE CELL 'sum', in the pinned program and in every row, IS THE sha256 OF THE DUMP (.gsa) THAT Qxb6619251aProg.lean LOADS. Nothing in Lean hashes anything: it is a label: what it is worth is what the hold of that sum in a sandbox is worth. -/
noncomputable def Try.pinned : Pinned := { name := "qxb6619251a", sum := "b46d078eb7d038c9145e7f4236c0afea9d3ae3f861b0c46447a9d78b39f75b46", checked := Try.checked }
namespace Rows
def none {H : Type} : Left H := { results := [], args := [] }

/-- 'zzlaws_internal_watch_b1.FnJoinAssociatesOverNonEmptyMiddle': WHATEVER THE INPUT: true; the input reads as it did. -/
def fnJoinAssociatesOverNonEmptyMiddleSpec : ChangeSpec := { name := "fnJoinAssociatesOverNonEmptyMiddle", fn := fun _ => fun
  | [d1, d2, d3] => { results := [.lit (.bool true)], args := [d1, d2, d3] }
  | _ => none }
def fnJoinAssociatesOverNonEmptyMiddleRow : OpenClaim := { program := "qxb6619251a", sum := "b46d078eb7d038c9145e7f4236c0afea9d3ae3f861b0c46447a9d78b39f75b46", func := "example.com/waymark/waymark/zzlaws_internal_watch_b1.FnJoinAssociatesOverNonEmptyMiddle", spec := "fnJoinAssociatesOverNonEmptyMiddle", apart := false }
def FnJoinAssociatesOverNonEmptyMiddleSaid : Prop := fnJoinAssociatesOverNonEmptyMiddleRow.holds Try.pinned (OpenSpec.ofChange fnJoinAssociatesOverNonEmptyMiddleSpec)

/-- ITS FALSE NEIGHBOUR: 'it returns false'. Refute it at one input. -/
def fnJoinAssociatesOverNonEmptyMiddleWrong : ChangeSpec := { name := "fnJoinAssociatesOverNonEmptyMiddle", fn := fun _ => fun
  | [d1, d2, d3] => { results := [.lit (.bool false)], args := [d1, d2, d3] }
  | _ => none }
def FnJoinAssociatesOverNonEmptyMiddleWrongFalsely : Prop := fnJoinAssociatesOverNonEmptyMiddleRow.holds Try.pinned (OpenSpec.ofChange fnJoinAssociatesOverNonEmptyMiddleWrong)

/-- 'zzlaws_internal_watch_b1.FnJoinTrailingSlashOnDirIsNoMatter': WHATEVER THE INPUT: true; the input reads as it did. -/
def fnJoinTrailingSlashOnDirIsNoMatterSpec : ChangeSpec := { name := "fnJoinTrailingSlashOnDirIsNoMatter", fn := fun _ => fun
  | [d1, d2] => { results := [.lit (.bool true)], args := [d1, d2] }
  | _ => none }
def fnJoinTrailingSlashOnDirIsNoMatterRow : OpenClaim := { program := "qxb6619251a", sum := "b46d078eb7d038c9145e7f4236c0afea9d3ae3f861b0c46447a9d78b39f75b46", func := "example.com/waymark/waymark/zzlaws_internal_watch_b1.FnJoinTrailingSlashOnDirIsNoMatter", spec := "fnJoinTrailingSlashOnDirIsNoMatter", apart := false }
def FnJoinTrailingSlashOnDirIsNoMatterSaid : Prop := fnJoinTrailingSlashOnDirIsNoMatterRow.holds Try.pinned (OpenSpec.ofChange fnJoinTrailingSlashOnDirIsNoMatterSpec)

/-- ITS FALSE NEIGHBOUR: 'it returns false'. Refute it at one input. -/
def fnJoinTrailingSlashOnDirIsNoMatterWrong : ChangeSpec := { name := "fnJoinTrailingSlashOnDirIsNoMatter", fn := fun _ => fun
  | [d1, d2] => { results := [.lit (.bool false)], args := [d1, d2] }
  | _ => none }
def FnJoinTrailingSlashOnDirIsNoMatterWrongFalsely : Prop := fnJoinTrailingSlashOnDirIsNoMatterRow.holds Try.pinned (OpenSpec.ofChange fnJoinTrailingSlashOnDirIsNoMatterWrong)

/-- 'zzlaws_internal_watch_b1.FnJoinIsDirSlashThenName': WHATEVER THE INPUT: true; the input reads as it did. -/
def fnJoinIsDirSlashThenNameSpec : ChangeSpec := { name := "fnJoinIsDirSlashThenName", fn := fun _ => fun
  | [d1, d2] => { results := [.lit (.bool true)], args := [d1, d2] }
  | _ => none }
def fnJoinIsDirSlashThenNameRow : OpenClaim := { program := "qxb6619251a", sum := "b46d078eb7d038c9145e7f4236c0afea9d3ae3f861b0c46447a9d78b39f75b46", func := "example.com/waymark/waymark/zzlaws_internal_watch_b1.FnJoinIsDirSlashThenName", spec := "fnJoinIsDirSlashThenName", apart := false }
def FnJoinIsDirSlashThenNameSaid : Prop := fnJoinIsDirSlashThenNameRow.holds Try.pinned (OpenSpec.ofChange fnJoinIsDirSlashThenNameSpec)

/-- ITS FALSE NEIGHBOUR: 'it returns false'. Refute it at one input. -/
def fnJoinIsDirSlashThenNameWrong : ChangeSpec := { name := "fnJoinIsDirSlashThenName", fn := fun _ => fun
  | [d1, d2] => { results := [.lit (.bool false)], args := [d1, d2] }
  | _ => none }
def FnJoinIsDirSlashThenNameWrongFalsely : Prop := fnJoinIsDirSlashThenNameRow.holds Try.pinned (OpenSpec.ofChange fnJoinIsDirSlashThenNameWrong)

end Rows
end Go.Proofs.Qxb6619251a
