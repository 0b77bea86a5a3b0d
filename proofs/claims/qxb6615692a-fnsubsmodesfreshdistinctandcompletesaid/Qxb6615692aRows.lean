/-
  No cell of these rows narrows 'for every input' (looked for: loops, veiled, ifaces, maps, wideKeys, modest, calm, conditions, laid).
  DERIVED. THE GIVEN ROWS OF THIS SEAT. 1 by the template 'for every input the law returns true; each argument reads behind the call as it read before'; 0 by the template 'total and deterministic' (their statements: Qxb6615692aTotals.lean).
  GIVEN WITH THE SEED: the statements are not yours to turn. If you find one false, say at which input.
  Laid BY PROGRAM, IN A SANDBOX (cutbox-rows.mjs): the forced cells as the released guide's own fill.sh prints them over the translation 974f9f3a3b7cf523… (all of the seat's roots in one cut). By AI agents, Wed Nov 11 2026. No macro, syntax, notation, axiom, sorry.
-/
import Derived.Test.Qxb6615692aChecked
import GoSem.Claim
import GoSem.ClaimJoined
import GoSem.ClaimMapViews
import Derived.JoinedTies
import Derived.KernelRfl
namespace Go.Proofs.Qxb6615692a
/- THE CELL 'sum', in the pinned program and in every row, IS THE sha256 OF THE DUMP (.gsa) THAT Qxb6615692aProg.lean LOADS. Nothing in Lean hashes anything: it is a label: what it is worth is what the hold of that sum in a sandbox is worth. -/
noncomputable def Try.pinned : Pinned := { name := "qxb6615692a", sum := "974f9f3a3b7cf5231883d95f20f7b07d94b7775bfad41a58b647951e3b2bf2ff", checked := Try.checked }
namespace Rows
def none {H : Type} : Left H := { results := [], args := [] }

/-- 'zzlaws_internal_tracks_b1.FnSubsModesFreshDistinctAndComplete': WHATEVER THE INPUT: true; the input reads as it did. -/
def fnSubsModesFreshDistinctAndCompleteSpec : ChangeSpec := { name := "fnSubsModesFreshDistinctAndComplete", fn := fun _ => fun
  | [d] => { results := [.lit (.bool true)], args := [d] }
  | _ => none }
def fnSubsModesFreshDistinctAndCompleteRow : OpenClaim := { program := "qxb6615692a", sum := "974f9f3a3b7cf5231883d95f20f7b07d94b7775bfad41a58b647951e3b2bf2ff", func := "example.com/tierline/tierline/zzlaws_internal_tracks_b1.FnSubsModesFreshDistinctAndComplete", spec := "fnSubsModesFreshDistinctAndComplete", apart := false }
def FnSubsModesFreshDistinctAndCompleteSaid : Prop := fnSubsModesFreshDistinctAndCompleteRow.holds Try.pinned (OpenSpec.ofChange fnSubsModesFreshDistinctAndCompleteSpec)

/-- ITS FALSE NEIGHBOUR: 'it returns false'. Refute it at one input. -/
def fnSubsModesFreshDistinctAndCompleteWrong : ChangeSpec := { name := "fnSubsModesFreshDistinctAndComplete", fn := fun _ => fun
  | [d] => { results := [.lit (.bool false)], args := [d] }
  | _ => none }
def FnSubsModesFreshDistinctAndCompleteWrongFalsely : Prop := fnSubsModesFreshDistinctAndCompleteRow.holds Try.pinned (OpenSpec.ofChange fnSubsModesFreshDistinctAndCompleteWrong)

end Rows
end Go.Proofs.Qxb6615692a
