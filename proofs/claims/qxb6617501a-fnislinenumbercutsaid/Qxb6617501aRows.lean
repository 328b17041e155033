/-
  No cell of these rows narrows 'for every input' (looked for: loops, veiled, ifaces, maps, wideKeys, modest, calm, conditions, laid).
  DERIVED. THE GIVEN ROWS OF THIS SEAT. 1 by the template 'for every input the law returns true; each argument reads behind the call as it read before'; 0 by the template 'total and deterministic' (their statements: Qxb6617501aTotals.lean).
  GIVEN WITH THE SEED: the statements are not yours to turn. If you find one false, say at which input.
  Laid BY PROGRAM, IN A SANDBOX (cutbox-rows.mjs): the forced cells as the released guide's own fill.sh prints them over the translation a1c43b7160d10193… (all of the seat's roots in one cut). By AI agents, Wed Nov 11 2026. No macro, syntax, notation, axiom, sorry.
-/
import Derived.Test.Qxb6617501aChecked
import GoSem.Claim
import GoSem.ClaimJoined
import GoSem.ClaimMapViews
import Derived.JoinedTies
import Derived.KernelRfl
namespace Go.Proofs.Qxb6617501a
/- THE CELL 'sum', in the pinned program and in every row, IS THE sha256 OF THE DUMP (.gsa) THAT Qxb6617501aProg.lean LOADS. Nothing in Lean hashes anything: it is a label: what it is worth is what the hold of that sum in a sandbox is worth. -/
noncomputable def Try.pinned : Pinned := { name := "qxb6617501a", sum := "a1c43b7160d10193c22f4b5dc19552187cfa6fa6a06ffeff6336d8917af9df6a", checked := Try.checked }
namespace Rows
def none {H : Type} : Left H := { results := [], args := [] }

/-- 'zzlaws_spirits_b1.FnIsLineNumberCut': WHATEVER THE INPUT: true; the input reads as it did. -/
def fnIsLineNumberCutSpec : ChangeSpec := { name := "fnIsLineNumberCut", fn := fun _ => fun
  | [d1, d2] => { results := [.lit (.bool true)], args := [d1, d2] }
  | _ => none }
def fnIsLineNumberCutRow : OpenClaim := { program := "qxb6617501a", sum := "a1c43b7160d10193c22f4b5dc19552187cfa6fa6a06ffeff6336d8917af9df6a", func := "example.com/ringbridge/ringbridge/zzlaws_spirits_b1.FnIsLineNumberCut", spec := "fnIsLineNumberCut", apart := false }
def FnIsLineNumberCutSaid : Prop := fnIsLineNumberCutRow.holds Try.pinned (OpenSpec.ofChange fnIsLineNumberCutSpec)

/-- ITS FALSE NEIGHBOUR: 'it returns false'. Refute it at one input. -/
def fnIsLineNumberCutWrong : ChangeSpec := { name := "fnIsLineNumberCut", fn := fun _ => fun
  | [d1, d2] => { results := [.lit (.bool false)], args := [d1, d2] }
  | _ => none }
def FnIsLineNumberCutWrongFalsely : Prop := fnIsLineNumberCutRow.holds Try.pinned (OpenSpec.ofChange fnIsLineNumberCutWrong)

end Rows
end Go.Proofs.Qxb6617501a
