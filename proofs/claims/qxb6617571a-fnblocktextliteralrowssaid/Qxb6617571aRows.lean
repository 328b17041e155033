/-
  No cell of these rows narrows 'for every input' (looked for: loops, veiled, ifaces, maps, wideKeys, modest, calm, conditions, laid).
  DERIVED. THE GIVEN ROWS OF THIS SEAT. 1 by the template 'for every input the law returns true; each argument reads behind the call as it read before'; 0 by the template 'total and deterministic' (their statements: Qxb6617571aTotals.lean).
  GIVEN WITH THE SEED: the statements are not yours to turn. If you find one false, say at which input.
  Laid BY PROGRAM, IN A SANDBOX (cutbox-rows.mjs): the forced cells as the released guide's own fill.sh prints them over the translation ad643bd435950d11… (all of the seat's roots in one cut). By AI agents, Wed Nov 11 2026. No macro, syntax, notation, axiom, sorry.
-/
import Derived.Test.Qxb6617571aChecked
import GoSem.Claim
import GoSem.ClaimJoined
import GoSem.ClaimMapViews
import Derived.JoinedTies
import Derived.KernelRfl
namespace Go.Proofs.Qxb6617571a
/- THE CELL 'sum', in the pinned program and in every row, IS THE sha256 OF THE DUMP (.gsa) THAT Qxb6617571aProg.lean LOADS. Nothing in Lean hashes anything: it is a label: what it is worth is what the hold of that sum in a sandbox is worth. -/
noncomputable def Try.pinned : Pinned := { name := "qxb6617571a", sum := "ad643bd435950d11d7b9e0360f46c2ed34e4bd29d3a93e94d542c75dff902724", checked := Try.checked }
namespace Rows
def none {H : Type} : Left H := { results := [], args := [] }

/-- 'zzlaws_root_b1.FnBlockTextLiteralRows': WHATEVER THE INPUT: true; the input reads as it did. -/
def fnBlockTextLiteralRowsSpec : ChangeSpec := { name := "fnBlockTextLiteralRows", fn := fun _ => fun
  | [d1, d2, d3, d4, d5, d6] => { results := [.lit (.bool true)], args := [d1, d2, d3, d4, d5, d6] }
  | _ => none }
def fnBlockTextLiteralRowsRow : OpenClaim := { program := "qxb6617571a", sum := "ad643bd435950d11d7b9e0360f46c2ed34e4bd29d3a93e94d542c75dff902724", func := "example.com/layer/layer/zzlaws_root_b1.FnBlockTextLiteralRows", spec := "fnBlockTextLiteralRows", inPlace := ["internal/abi.NoEscape", "internal/bytealg.MakeNoZero"], apart := false }
def FnBlockTextLiteralRowsSaid : Prop := fnBlockTextLiteralRowsRow.holds Try.pinned (OpenSpec.ofChange fnBlockTextLiteralRowsSpec)

/-- ITS FALSE NEIGHBOUR: 'it returns false'. Refute it at one input. -/
def fnBlockTextLiteralRowsWrong : ChangeSpec := { name := "fnBlockTextLiteralRows", fn := fun _ => fun
  | [d1, d2, d3, d4, d5, d6] => { results := [.lit (.bool false)], args := [d1, d2, d3, d4, d5, d6] }
  | _ => none }
def FnBlockTextLiteralRowsWrongFalsely : Prop := fnBlockTextLiteralRowsRow.holds Try.pinned (OpenSpec.ofChange fnBlockTextLiteralRowsWrong)

end Rows
end Go.Proofs.Qxb6617571a
