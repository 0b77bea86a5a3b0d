/-
  No cell of these rows narrows 'for every input' (looked for: loops, veiled, ifaces, maps, wideKeys, modest, calm, conditions, laid).
  DERIVED. THE GIVEN ROWS OF THIS SEAT. 2 by the template 'for every input the law returns true; each argument reads behind the call as it read before'; 0 by the template 'total and deterministic' (their statements: Qxb6615102aTotals.lean).
  GIVEN WITH THE SEED: the statements are not yours to turn. If you find one false, say at which input.
  Laid BY PROGRAM, IN A SANDBOX (cutbox-rows.mjs): the forced cells as the released guide's own fill.sh prints them over the translation a59209d4ec50560f… (all of the seat's roots in one cut). By AI agents, Wed Nov 11 2026. No macro, syntax, notation, axiom, sorry.
-/
import Derived.Test.Qxb6615102aChecked
import GoSem.Claim
import GoSem.ClaimJoined
import GoSem.ClaimMapViews
import Derived.JoinedTies
import Derived.KernelRfl
namespace Go.Proofs.Qxb6615102a
/- THE CELL 'sum', in the pinned program and in every row, IS THE sha256 OF THE DUMP (.gsa) THAT Qxb6615102aProg.lean LOADS. Nothing in Lean hashes anything: it is a label: what it is worth is what the hold of that sum in a sandbox is worth. -/
noncomputable def Try.pinned : Pinned := { name := "qxb6615102a", sum := "a59209d4ec50560f434b1868cea56fee7d7dafe7edbd9dcfe2cb021fa339f7a3", checked := Try.checked }
namespace Rows
def none {H : Type} : Left H := { results := [], args := [] }

/-- 'zzlaws_resource_b1.FnOrderLowestReadyFirst': WHATEVER THE INPUT: true; the input reads as it did. -/
def fnOrderLowestReadyFirstSpec : ChangeSpec := { name := "fnOrderLowestReadyFirst", fn := fun _ => fun
  | [d1, d2] => { results := [.lit (.bool true)], args := [d1, d2] }
  | _ => none }
def fnOrderLowestReadyFirstRow : OpenClaim := { program := "qxb6615102a", sum := "a59209d4ec50560f434b1868cea56fee7d7dafe7edbd9dcfe2cb021fa339f7a3", func := "example.com/keelstone/keelstone/zzlaws_resource_b1.FnOrderLowestReadyFirst", spec := "fnOrderLowestReadyFirst", unfollowed := true, recurses := true, apart := false }
def FnOrderLowestReadyFirstSaid : Prop := fnOrderLowestReadyFirstRow.holds Try.pinned (OpenSpec.ofChange fnOrderLowestReadyFirstSpec)

/-- ITS FALSE NEIGHBOUR: 'it returns false'. Refute it at one input. -/
def fnOrderLowestReadyFirstWrong : ChangeSpec := { name := "fnOrderLowestReadyFirst", fn := fun _ => fun
  | [d1, d2] => { results := [.lit (.bool false)], args := [d1, d2] }
  | _ => none }
def FnOrderLowestReadyFirstWrongFalsely : Prop := fnOrderLowestReadyFirstRow.holds Try.pinned (OpenSpec.ofChange fnOrderLowestReadyFirstWrong)

/-- 'zzlaws_resource_b1.FnOrderFreshLastDuplicatesIgnored': WHATEVER THE INPUT: true; the input reads as it did. -/
def fnOrderFreshLastDuplicatesIgnoredSpec : ChangeSpec := { name := "fnOrderFreshLastDuplicatesIgnored", fn := fun _ => fun
  | [d1, d2] => { results := [.lit (.bool true)], args := [d1, d2] }
  | _ => none }
def fnOrderFreshLastDuplicatesIgnoredRow : OpenClaim := { program := "qxb6615102a", sum := "a59209d4ec50560f434b1868cea56fee7d7dafe7edbd9dcfe2cb021fa339f7a3", func := "example.com/keelstone/keelstone/zzlaws_resource_b1.FnOrderFreshLastDuplicatesIgnored", spec := "fnOrderFreshLastDuplicatesIgnored", unfollowed := true, recurses := true, apart := false }
def FnOrderFreshLastDuplicatesIgnoredSaid : Prop := fnOrderFreshLastDuplicatesIgnoredRow.holds Try.pinned (OpenSpec.ofChange fnOrderFreshLastDuplicatesIgnoredSpec)

/-- ITS FALSE NEIGHBOUR: 'it returns false'. Refute it at one input. -/
def fnOrderFreshLastDuplicatesIgnoredWrong : ChangeSpec := { name := "fnOrderFreshLastDuplicatesIgnored", fn := fun _ => fun
  | [d1, d2] => { results := [.lit (.bool false)], args := [d1, d2] }
  | _ => none }
def FnOrderFreshLastDuplicatesIgnoredWrongFalsely : Prop := fnOrderFreshLastDuplicatesIgnoredRow.holds Try.pinned (OpenSpec.ofChange fnOrderFreshLastDuplicatesIgnoredWrong)

end Rows
end Go.Proofs.Qxb6615102a
