/-
  No cell of these rows narrows 'for every input' (looked for: loops, veiled, ifaces, maps, wideKeys, modest, calm, conditions, laid).
  DERIVED. THE GIVEN ROWS OF THIS SEAT. 2 by the template 'for every input the law returns true; each argument reads behind the call as it read before'; 0 by the template 'total and deterministic' (their statements: Qxb6628696aTotals.lean).
  GIVEN WITH THE SEED: the statements are not yours to turn. If you find one false, say at which input.
  Laid BY PROGRAM, IN A SANDBOX (cutbox-rows.mjs): the forced cells as the released guide's own fill.sh prints them over the translation 8f1bcd46b1858b9b… (all of the seat's roots in one cut). By AI agents, Wed Nov 11 2026. No macro, syntax, notation, axiom, sorry.
-/
import Derived.Test.Qxb6628696aChecked
import GoSem.Claim
import GoSem.ClaimJoined
import GoSem.ClaimMapViews
import Derived.JoinedTies
import Derived.KernelRfl
namespace Go.Proofs.Qxb6628696a
/- THE CELL 'sum', in the pinned program and in every row, IS THE sha256 OF THE DUMP (.gsa) THAT Qxb6628696aProg.lean LOADS. Nothing in Lean hashes anything: it is a label: what it is worth is what the hold of that sum in a sandbox is worth. -/
noncomputable def Try.pinned : Pinned := { name := "qxb6628696a", sum := "8f1bcd46b1858b9bc6365cfa952316dc6e335b296a5a92c9c94e3962fae95816", checked := Try.checked }
namespace Rows
def none {H : Type} : Left H := { results := [], args := [] }

/-- 'zzlaws_internal_store_b1.FnCoversReflexiveAndSplitsAtAnyCut': WHATEVER THE INPUT: true; the input reads as it did. -/
def fnCoversReflexiveAndSplitsAtAnyCutSpec : ChangeSpec := { name := "fnCoversReflexiveAndSplitsAtAnyCut", fn := fun _ => fun
  | [d1, d2, d3] => { results := [.lit (.bool true)], args := [d1, d2, d3] }
  | _ => none }
def fnCoversReflexiveAndSplitsAtAnyCutRow : OpenClaim := { program := "qxb6628696a", sum := "8f1bcd46b1858b9bc6365cfa952316dc6e335b296a5a92c9c94e3962fae95816", func := "example.com/recurve/recurve/zzlaws_internal_store_b1.FnCoversReflexiveAndSplitsAtAnyCut", spec := "fnCoversReflexiveAndSplitsAtAnyCut", unfollowed := true, recurses := true, apart := false }
def FnCoversReflexiveAndSplitsAtAnyCutSaid : Prop := fnCoversReflexiveAndSplitsAtAnyCutRow.holds Try.pinned (OpenSpec.ofChange fnCoversReflexiveAndSplitsAtAnyCutSpec)

/-- ITS FALSE NEIGHBOUR: 'it returns false'. Refute it at one input. -/
def fnCoversReflexiveAndSplitsAtAnyCutWrong : ChangeSpec := { name := "fnCoversReflexiveAndSplitsAtAnyCut", fn := fun _ => fun
  | [d1, d2, d3] => { results := [.lit (.bool false)], args := [d1, d2, d3] }
  | _ => none }
def FnCoversReflexiveAndSplitsAtAnyCutWrongFalsely : Prop := fnCoversReflexiveAndSplitsAtAnyCutRow.holds Try.pinned (OpenSpec.ofChange fnCoversReflexiveAndSplitsAtAnyCutWrong)

/-- 'zzlaws_internal_store_b1.FnCoversWidenedScope': WHATEVER THE INPUT: true; the input reads as it did. -/
def fnCoversWidenedScopeSpec : ChangeSpec := { name := "fnCoversWidenedScope", fn := fun _ => fun
  | [d1, d2, d3] => { results := [.lit (.bool true)], args := [d1, d2, d3] }
  | _ => none }
def fnCoversWidenedScopeRow : OpenClaim := { program := "qxb6628696a", sum := "8f1bcd46b1858b9bc6365cfa952316dc6e335b296a5a92c9c94e3962fae95816", func := "example.com/recurve/recurve/zzlaws_internal_store_b1.FnCoversWidenedScope", spec := "fnCoversWidenedScope", unfollowed := true, recurses := true, apart := false }
def FnCoversWidenedScopeSaid : Prop := fnCoversWidenedScopeRow.holds Try.pinned (OpenSpec.ofChange fnCoversWidenedScopeSpec)

/-- ITS FALSE NEIGHBOUR: 'it returns false'. Refute it at one input. -/
def fnCoversWidenedScopeWrong : ChangeSpec := { name := "fnCoversWidenedScope", fn := fun _ => fun
  | [d1, d2, d3] => { results := [.lit (.bool false)], args := [d1, d2, d3] }
  | _ => none }
def FnCoversWidenedScopeWrongFalsely : Prop := fnCoversWidenedScopeRow.holds Try.pinned (OpenSpec.ofChange fnCoversWidenedScopeWrong)

end Rows
end Go.Proofs.Qxb6628696a
