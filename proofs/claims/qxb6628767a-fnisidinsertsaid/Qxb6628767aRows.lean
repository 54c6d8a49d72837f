/-
  No cell of these rows narrows 'for every input' (looked for: loops, veiled, ifaces, maps, wideKeys, modest, calm, conditions, laid).
  DERIVED. THE GIVEN ROWS OF THIS SEAT. 2 by the template 'for every input the law returns true; each argument reads behind the call as it read before'; 0 by the template 'total and deterministic' (their statements: Qxb6628767aTotals.lean).
  GIVEN WITH THE SEED: the statements are not yours to turn. If you find one false, say at which input.
  Laid BY PROGRAM, IN A SANDBOX (cutbox-rows.mjs): the forced cells as the released guide's own fill.sh prints them over the translation 8adc42fabd141763… (all of the seat's roots in one cut). By AI agents, Wed Nov 11 2026. No macro, syntax, notation, axiom, sorry.
-/
import Derived.Test.Qxb6628767aChecked
import GoSem.Claim
import GoSem.ClaimJoined
import GoSem.ClaimMapViews
import Derived.JoinedTies
import Derived.KernelRfl
namespace Go.Proofs.Qxb6628767a
/- THE CELL 'sum', in the pinned program and in every row, IS THE sha256 OF THE DUMP (.gsa) THAT Qxb6628767aProg.lean LOADS. Nothing in Lean hashes anything: it is a label: what it is worth is what the hold of that sum in a sandbox is worth. -/
noncomputable def Try.pinned : Pinned := { name := "qxb6628767a", sum := "8adc42fabd1417635d2c53d64e5f7c7ca1fef463e5ecfbe2dffc171d46b99148", checked := Try.checked }
namespace Rows
def none {H : Type} : Left H := { results := [], args := [] }

/-- 'zzlaws_csvfile_b1.FnIsIDCut': WHATEVER THE INPUT: true; the input reads as it did. -/
def fnIsIDCutSpec : ChangeSpec := { name := "fnIsIDCut", fn := fun _ => fun
  | [d1, d2] => { results := [.lit (.bool true)], args := [d1, d2] }
  | _ => none }
def fnIsIDCutRow : OpenClaim := { program := "qxb6628767a", sum := "8adc42fabd1417635d2c53d64e5f7c7ca1fef463e5ecfbe2dffc171d46b99148", func := "example.com/zhaomu/zhaomu/zzlaws_csvfile_b1.FnIsIDCut", spec := "fnIsIDCut", apart := false }
def FnIsIDCutSaid : Prop := fnIsIDCutRow.holds Try.pinned (OpenSpec.ofChange fnIsIDCutSpec)

/-- ITS FALSE NEIGHBOUR: 'it returns false'. Refute it at one input. -/
def fnIsIDCutWrong : ChangeSpec := { name := "fnIsIDCut", fn := fun _ => fun
  | [d1, d2] => { results := [.lit (.bool false)], args := [d1, d2] }
  | _ => none }
def FnIsIDCutWrongFalsely : Prop := fnIsIDCutRow.holds Try.pinned (OpenSpec.ofChange fnIsIDCutWrong)

/-- 'zzlaws_csvfile_b1.FnIsIDInsert': WHATEVER THE INPUT: true; the input reads as it did. -/
def fnIsIDInsertSpec : ChangeSpec := { name := "fnIsIDInsert", fn := fun _ => fun
  | [d1, d2, d3] => { results := [.lit (.bool true)], args := [d1, d2, d3] }
  | _ => none }
def fnIsIDInsertRow : OpenClaim := { program := "qxb6628767a", sum := "8adc42fabd1417635d2c53d64e5f7c7ca1fef463e5ecfbe2dffc171d46b99148", func := "example.com/zhaomu/zhaomu/zzlaws_csvfile_b1.FnIsIDInsert", spec := "fnIsIDInsert", apart := false }
def FnIsIDInsertSaid : Prop := fnIsIDInsertRow.holds Try.pinned (OpenSpec.ofChange fnIsIDInsertSpec)

/-- ITS FALSE NEIGHBOUR: 'it returns false'. Refute it at one input. -/
def fnIsIDInsertWrong : ChangeSpec := { name := "fnIsIDInsert", fn := fun _ => fun
  | [d1, d2, d3] => { results := [.lit (.bool false)], args := [d1, d2, d3] }
  | _ => none }
def FnIsIDInsertWrongFalsely : Prop := fnIsIDInsertRow.holds Try.pinned (OpenSpec.ofChange fnIsIDInsertWrong)

end Rows
end Go.Proofs.Qxb6628767a
