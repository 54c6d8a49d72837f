/-
  No cell of these rows narrows 'for every input' (looked for: loops, veiled, ifaces, maps, wideKeys, modest, calm, conditions, laid).
  DERIVED. THE GIVEN ROWS OF THIS SEAT. 2 by the template 'for every input the law returns true; each argument reads behind the call as it read before'; 0 by the template 'total and deterministic' (their statements: Qxb6628739aTotals.lean).
  GIVEN WITH THE SEED: the statements are not yours to turn. If you find one false, say at which input.
  Laid BY PROGRAM, IN A SANDBOX (cutbox-rows.mjs): the forced cells as the released guide's own fill.sh prints them over the translation b1c82e35317cecd0… (all of the seat's roots in one cut). By AI agents, Wed Nov 11 2026. No macro, syntax, notation, axiom, sorry.
-/
import Derived.Test.Qxb6628739aChecked
import GoSem.Claim
import GoSem.ClaimJoined
import GoSem.ClaimMapViews
import Derived.JoinedTies
import Derived.KernelRfl
namespace Go.Proofs.Qxb6628739a
/- THE CELL 'sum', in the pinned program and in every row, IS THE sha256 OF THE DUMP (.gsa) THAT Qxb6628739aProg.lean LOADS. Nothing in Lean hashes anything: it is a label: what it is worth is what the hold of that sum in a sandbox is worth. -/
noncomputable def Try.pinned : Pinned := { name := "qxb6628739a", sum := "b1c82e35317cecd0a5c70f756b21e9300b14c2bb35c09217b4fd71e72770210f", checked := Try.checked }
namespace Rows
def none {H : Type} : Left H := { results := [], args := [] }

/-- 'zzlaws_internal_runlist_b1.FnCookbooksFirstNamedOrderAtAnyCut': WHATEVER THE INPUT: true; the input reads as it did. -/
def fnCookbooksFirstNamedOrderAtAnyCutSpec : ChangeSpec := { name := "fnCookbooksFirstNamedOrderAtAnyCut", fn := fun _ => fun
  | [d1, d2, d3, d4] => { results := [.lit (.bool true)], args := [d1, d2, d3, d4] }
  | _ => none }
def fnCookbooksFirstNamedOrderAtAnyCutRow : OpenClaim := { program := "qxb6628739a", sum := "b1c82e35317cecd0a5c70f756b21e9300b14c2bb35c09217b4fd71e72770210f", func := "example.com/attune/attune/zzlaws_internal_runlist_b1.FnCookbooksFirstNamedOrderAtAnyCut", spec := "fnCookbooksFirstNamedOrderAtAnyCut", apart := false }
def FnCookbooksFirstNamedOrderAtAnyCutSaid : Prop := fnCookbooksFirstNamedOrderAtAnyCutRow.holds Try.pinned (OpenSpec.ofChange fnCookbooksFirstNamedOrderAtAnyCutSpec)

/-- ITS FALSE NEIGHBOUR: 'it returns false'. Refute it at one input. -/
def fnCookbooksFirstNamedOrderAtAnyCutWrong : ChangeSpec := { name := "fnCookbooksFirstNamedOrderAtAnyCut", fn := fun _ => fun
  | [d1, d2, d3, d4] => { results := [.lit (.bool false)], args := [d1, d2, d3, d4] }
  | _ => none }
def FnCookbooksFirstNamedOrderAtAnyCutWrongFalsely : Prop := fnCookbooksFirstNamedOrderAtAnyCutRow.holds Try.pinned (OpenSpec.ofChange fnCookbooksFirstNamedOrderAtAnyCutWrong)

/-- 'zzlaws_internal_runlist_b1.FnCookbooksIgnoresRepeatsAndOtherFields': WHATEVER THE INPUT: true; the input reads as it did. -/
def fnCookbooksIgnoresRepeatsAndOtherFieldsSpec : ChangeSpec := { name := "fnCookbooksIgnoresRepeatsAndOtherFields", fn := fun _ => fun
  | [d1, d2, d3] => { results := [.lit (.bool true)], args := [d1, d2, d3] }
  | _ => none }
def fnCookbooksIgnoresRepeatsAndOtherFieldsRow : OpenClaim := { program := "qxb6628739a", sum := "b1c82e35317cecd0a5c70f756b21e9300b14c2bb35c09217b4fd71e72770210f", func := "example.com/attune/attune/zzlaws_internal_runlist_b1.FnCookbooksIgnoresRepeatsAndOtherFields", spec := "fnCookbooksIgnoresRepeatsAndOtherFields", apart := false }
def FnCookbooksIgnoresRepeatsAndOtherFieldsSaid : Prop := fnCookbooksIgnoresRepeatsAndOtherFieldsRow.holds Try.pinned (OpenSpec.ofChange fnCookbooksIgnoresRepeatsAndOtherFieldsSpec)

/-- ITS FALSE NEIGHBOUR: 'it returns false'. Refute it at one input. -/
def fnCookbooksIgnoresRepeatsAndOtherFieldsWrong : ChangeSpec := { name := "fnCookbooksIgnoresRepeatsAndOtherFields", fn := fun _ => fun
  | [d1, d2, d3] => { results := [.lit (.bool false)], args := [d1, d2, d3] }
  | _ => none }
def FnCookbooksIgnoresRepeatsAndOtherFieldsWrongFalsely : Prop := fnCookbooksIgnoresRepeatsAndOtherFieldsRow.holds Try.pinned (OpenSpec.ofChange fnCookbooksIgnoresRepeatsAndOtherFieldsWrong)

end Rows
end Go.Proofs.Qxb6628739a
