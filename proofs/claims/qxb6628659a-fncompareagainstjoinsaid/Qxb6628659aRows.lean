/-
  No cell of these rows narrows 'for every input' (looked for: loops, veiled, ifaces, maps, wideKeys, modest, calm, conditions, laid).
  DERIVED. THE GIVEN ROWS OF THIS SEAT. 2 by the template 'for every input the law returns true; each argument reads behind the call as it read before'; 0 by the template 'total and deterministic' (their statements: Qxb6628659aTotals.lean).
  GIVEN WITH THE SEED: the statements are not yours to turn. If you find one false, say at which input.
  Laid BY PROGRAM, IN A SANDBOX (cutbox-rows.mjs): the forced cells as the released guide's own fill.sh prints them over the translation 76a3f639dfe32174… (all of the seat's roots in one cut). By AI agents, Wed Nov 11 2026. No macro, syntax, notation, axiom, sorry.
-/
import Derived.Test.Qxb6628659aChecked
import GoSem.Claim
import GoSem.ClaimJoined
import GoSem.ClaimMapViews
import Derived.JoinedTies
import Derived.KernelRfl
namespace Go.Proofs.Qxb6628659a
/- THE CELL 'sum', in the pinned program and in every row, IS THE sha256 OF THE DUMP (.gsa) THAT Qxb6628659aProg.lean LOADS. Nothing in Lean hashes anything: it is a label: what it is worth is what the hold of that sum in a sandbox is worth. -/
noncomputable def Try.pinned : Pinned := { name := "qxb6628659a", sum := "76a3f639dfe321749f2bc564da5e040fe0972675b3585897649821fc6957c92b", checked := Try.checked }
namespace Rows
def none {H : Type} : Left H := { results := [], args := [] }

/-- 'zzlaws_root_b1.FnCompareMatchesDominance': WHATEVER THE INPUT: true; the input reads as it did. -/
def fnCompareMatchesDominanceSpec : ChangeSpec := { name := "fnCompareMatchesDominance", fn := fun _ => fun
  | [d1, d2] => { results := [.lit (.bool true)], args := [d1, d2] }
  | _ => none }
def fnCompareMatchesDominanceRow : OpenClaim := { program := "qxb6628659a", sum := "76a3f639dfe321749f2bc564da5e040fe0972675b3585897649821fc6957c92b", func := "example.com/orderwire/orderwire/zzlaws_root_b1.FnCompareMatchesDominance", spec := "fnCompareMatchesDominance", apart := false }
def FnCompareMatchesDominanceSaid : Prop := fnCompareMatchesDominanceRow.holds Try.pinned (OpenSpec.ofChange fnCompareMatchesDominanceSpec)

/-- ITS FALSE NEIGHBOUR: 'it returns false'. Refute it at one input. -/
def fnCompareMatchesDominanceWrong : ChangeSpec := { name := "fnCompareMatchesDominance", fn := fun _ => fun
  | [d1, d2] => { results := [.lit (.bool false)], args := [d1, d2] }
  | _ => none }
def FnCompareMatchesDominanceWrongFalsely : Prop := fnCompareMatchesDominanceRow.holds Try.pinned (OpenSpec.ofChange fnCompareMatchesDominanceWrong)

/-- 'zzlaws_root_b1.FnCompareAgainstJoin': WHATEVER THE INPUT: true; the input reads as it did. -/
def fnCompareAgainstJoinSpec : ChangeSpec := { name := "fnCompareAgainstJoin", fn := fun _ => fun
  | [d1, d2] => { results := [.lit (.bool true)], args := [d1, d2] }
  | _ => none }
def fnCompareAgainstJoinRow : OpenClaim := { program := "qxb6628659a", sum := "76a3f639dfe321749f2bc564da5e040fe0972675b3585897649821fc6957c92b", func := "example.com/orderwire/orderwire/zzlaws_root_b1.FnCompareAgainstJoin", spec := "fnCompareAgainstJoin", apart := false }
def FnCompareAgainstJoinSaid : Prop := fnCompareAgainstJoinRow.holds Try.pinned (OpenSpec.ofChange fnCompareAgainstJoinSpec)

/-- ITS FALSE NEIGHBOUR: 'it returns false'. Refute it at one input. -/
def fnCompareAgainstJoinWrong : ChangeSpec := { name := "fnCompareAgainstJoin", fn := fun _ => fun
  | [d1, d2] => { results := [.lit (.bool false)], args := [d1, d2] }
  | _ => none }
def FnCompareAgainstJoinWrongFalsely : Prop := fnCompareAgainstJoinRow.holds Try.pinned (OpenSpec.ofChange fnCompareAgainstJoinWrong)

end Rows
end Go.Proofs.Qxb6628659a
