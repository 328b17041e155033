/-
  No cell of these rows narrows 'for every input' (looked for: loops, veiled, ifaces, maps, wideKeys, modest, calm, conditions, laid).
  DERIVED. THE GIVEN ROWS OF THIS SEAT. 1 by the template 'for every input the law returns true; each argument reads behind the call as it read before'; 0 by the template 'total and deterministic' (their statements: Qxb6617526aTotals.lean).
  GIVEN WITH THE SEED: the statements are not yours to turn. If you find one false, say at which input.
  Laid BY PROGRAM, IN A SANDBOX (cutbox-rows.mjs): the forced cells as the released guide's own fill.sh prints them over the translation d824778bff8e030c… (all of the seat's roots in one cut). By AI agents, Wed Nov 11 2026. No macro, syntax, notation, axiom, sorry.
-/
import Derived.Test.Qxb6617526aChecked
import GoSem.Claim
import GoSem.ClaimJoined
import GoSem.ClaimMapViews
import Derived.JoinedTies
import Derived.KernelRfl
namespace Go.Proofs.Qxb6617526a
/- THE CELL 'sum', in the pinned program and in every row, IS THE sha256 OF THE DUMP (.gsa) THAT Qxb6617526aProg.lean LOADS. Nothing in Lean hashes anything: it is a label: what it is worth is what the hold of that sum in a sandbox is worth. -/
noncomputable def Try.pinned : Pinned := { name := "qxb6617526a", sum := "d824778bff8e030c39928702fb969ff4f0ebce44a2bf759636e28d2fb1b7cfeb", checked := Try.checked }
namespace Rows
def none {H : Type} : Left H := { results := [], args := [] }

/-- 'zzlaws_internal_fortunes_b1.FnPlainJoinAnyCut': WHATEVER THE INPUT: true; the input reads as it did. -/
def fnPlainJoinAnyCutSpec : ChangeSpec := { name := "fnPlainJoinAnyCut", fn := fun _ => fun
  | [d1, d2] => { results := [.lit (.bool true)], args := [d1, d2] }
  | _ => none }
def fnPlainJoinAnyCutRow : OpenClaim := { program := "qxb6617526a", sum := "d824778bff8e030c39928702fb969ff4f0ebce44a2bf759636e28d2fb1b7cfeb", func := "example.com/commonfold/commonfold/zzlaws_internal_fortunes_b1.FnPlainJoinAnyCut", spec := "fnPlainJoinAnyCut", apart := false }
def FnPlainJoinAnyCutSaid : Prop := fnPlainJoinAnyCutRow.holds Try.pinned (OpenSpec.ofChange fnPlainJoinAnyCutSpec)

/-- ITS FALSE NEIGHBOUR: 'it returns false'. Refute it at one input. -/
def fnPlainJoinAnyCutWrong : ChangeSpec := { name := "fnPlainJoinAnyCut", fn := fun _ => fun
  | [d1, d2] => { results := [.lit (.bool false)], args := [d1, d2] }
  | _ => none }
def FnPlainJoinAnyCutWrongFalsely : Prop := fnPlainJoinAnyCutRow.holds Try.pinned (OpenSpec.ofChange fnPlainJoinAnyCutWrong)

end Rows
end Go.Proofs.Qxb6617526a
