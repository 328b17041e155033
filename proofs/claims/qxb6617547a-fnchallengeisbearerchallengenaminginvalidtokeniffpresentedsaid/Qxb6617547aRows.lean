/-
  No cell of these rows narrows 'for every input' (looked for: loops, veiled, ifaces, maps, wideKeys, modest, calm, conditions, laid).
  DERIVED. THE GIVEN ROWS OF THIS SEAT. 1 by the template 'for every input the law returns true; each argument reads behind the call as it read before'; 0 by the template 'total and deterministic' (their statements: Qxb6617547aTotals.lean).
  GIVEN WITH THE SEED: the statements are not yours to turn. If you find one false, say at which input.
  Laid BY PROGRAM, IN A SANDBOX (cutbox-rows.mjs): the forced cells as the released guide's own fill.sh prints them over the translation fe51c1586704a4f4… (all of the seat's roots in one cut). By AI agents, Wed Nov 11 2026. No macro, syntax, notation, axiom, sorry.
-/
import Derived.Test.Qxb6617547aChecked
import GoSem.Claim
import GoSem.ClaimJoined
import GoSem.ClaimMapViews
import Derived.JoinedTies
import Derived.KernelRfl
namespace Go.Proofs.Qxb6617547a
/- THE CELL 'sum', in the pinned program and in every row, IS THE sha256 OF THE DUMP (.gsa) THAT Qxb6617547aProg.lean LOADS. Nothing in Lean hashes anything: it is a label: what it is worth is what the hold of that sum in a sandbox is worth. -/
noncomputable def Try.pinned : Pinned := { name := "qxb6617547a", sum := "fe51c1586704a4f436dcecda49d8131740b3270f07411a8e73d9881957d26dc0", checked := Try.checked }
namespace Rows
def none {H : Type} : Left H := { results := [], args := [] }

/-- 'zzlaws_internal_bearer_b1.FnChallengeIsBearerChallengeNamingInvalidTokenIffPresented': WHATEVER THE INPUT: true; the input reads as it did. -/
def fnChallengeIsBearerChallengeNamingInvalidTokenIffPresentedSpec : ChangeSpec := { name := "fnChallengeIsBearerChallengeNamingInvalidTokenIffPresented", fn := fun _ => fun
  | [d] => { results := [.lit (.bool true)], args := [d] }
  | _ => none }
def fnChallengeIsBearerChallengeNamingInvalidTokenIffPresentedRow : OpenClaim := { program := "qxb6617547a", sum := "fe51c1586704a4f436dcecda49d8131740b3270f07411a8e73d9881957d26dc0", func := "example.com/ushr/ushr/zzlaws_internal_bearer_b1.FnChallengeIsBearerChallengeNamingInvalidTokenIffPresented", spec := "fnChallengeIsBearerChallengeNamingInvalidTokenIffPresented", apart := false }
def FnChallengeIsBearerChallengeNamingInvalidTokenIffPresentedSaid : Prop := fnChallengeIsBearerChallengeNamingInvalidTokenIffPresentedRow.holds Try.pinned (OpenSpec.ofChange fnChallengeIsBearerChallengeNamingInvalidTokenIffPresentedSpec)

/-- ITS FALSE NEIGHBOUR: 'it returns false'. Refute it at one input. -/
def fnChallengeIsBearerChallengeNamingInvalidTokenIffPresentedWrong : ChangeSpec := { name := "fnChallengeIsBearerChallengeNamingInvalidTokenIffPresented", fn := fun _ => fun
  | [d] => { results := [.lit (.bool false)], args := [d] }
  | _ => none }
def FnChallengeIsBearerChallengeNamingInvalidTokenIffPresentedWrongFalsely : Prop := fnChallengeIsBearerChallengeNamingInvalidTokenIffPresentedRow.holds Try.pinned (OpenSpec.ofChange fnChallengeIsBearerChallengeNamingInvalidTokenIffPresentedWrong)

end Rows
end Go.Proofs.Qxb6617547a
