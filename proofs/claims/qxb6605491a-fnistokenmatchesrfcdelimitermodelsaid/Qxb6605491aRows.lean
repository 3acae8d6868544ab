/-
  No cell of these rows narrows 'for every input' (looked for: loops, veiled, ifaces, maps, wideKeys, modest, calm, conditions, laid).
  DERIVED. THE GIVEN ROWS OF THIS SEAT. 1 by the template 'for every input the law returns true; each argument reads behind the call as it read before'; 0 by the template 'total and deterministic' (their statements: Qxb6605491aTotals.lean).
  GIVEN WITH THE SEED: the statements are not yours to turn. If you find one false, say at which input.
  Laid BY PROGRAM, IN A SANDBOX (cutbox-rows.mjs): the forced cells as the released guide's own fill.sh prints them over the translation 8ab4acec6dd4d1c7… (all of the seat's roots in one cut). By AI agents, Wed Nov 11 2026. No macro, syntax, notation, axiom, sorry.
-/
import Derived.Test.Qxb6605491aChecked
import GoSem.Claim
import GoSem.ClaimJoined
import GoSem.ClaimMapViews
import Derived.JoinedTies
import Derived.KernelRfl
namespace Go.Proofs.Qxb6605491a
/- THE CELL 'sum', in the pinned program and in every row, IS THE sha256 OF THE DUMP (.gsa) THAT Qxb6605491aProg.lean LOADS. Nothing in Lean hashes anything: it is a label: what it is worth is what the hold of that sum in a sandbox is worth. -/
noncomputable def Try.pinned : Pinned := { name := "qxb6605491a", sum := "8ab4acec6dd4d1c7501c0a5456f71da53e334cc675de46e09210adba1132f27e", checked := Try.checked }
namespace Rows
def none {H : Type} : Left H := { results := [], args := [] }

/-- 'zzlaws_config_b1.FnIsTokenMatchesRFCDelimiterModel': WHATEVER THE INPUT: true; the input reads as it did. -/
def fnIsTokenMatchesRFCDelimiterModelSpec : ChangeSpec := { name := "fnIsTokenMatchesRFCDelimiterModel", fn := fun _ => fun
  | [d] => { results := [.lit (.bool true)], args := [d] }
  | _ => none }
def fnIsTokenMatchesRFCDelimiterModelRow : OpenClaim := { program := "qxb6605491a", sum := "8ab4acec6dd4d1c7501c0a5456f71da53e334cc675de46e09210adba1132f27e", func := "example.com/shuntline/shuntline/zzlaws_config_b1.FnIsTokenMatchesRFCDelimiterModel", spec := "fnIsTokenMatchesRFCDelimiterModel", inPlace := ["internal/bytealg.IndexByteString"], apart := false }
def FnIsTokenMatchesRFCDelimiterModelSaid : Prop := fnIsTokenMatchesRFCDelimiterModelRow.holds Try.pinned (OpenSpec.ofChange fnIsTokenMatchesRFCDelimiterModelSpec)

/-- ITS FALSE NEIGHBOUR: 'it returns false'. Refute it at one input. -/
def fnIsTokenMatchesRFCDelimiterModelWrong : ChangeSpec := { name := "fnIsTokenMatchesRFCDelimiterModel", fn := fun _ => fun
  | [d] => { results := [.lit (.bool false)], args := [d] }
  | _ => none }
def FnIsTokenMatchesRFCDelimiterModelWrongFalsely : Prop := fnIsTokenMatchesRFCDelimiterModelRow.holds Try.pinned (OpenSpec.ofChange fnIsTokenMatchesRFCDelimiterModelWrong)

end Rows
end Go.Proofs.Qxb6605491a
