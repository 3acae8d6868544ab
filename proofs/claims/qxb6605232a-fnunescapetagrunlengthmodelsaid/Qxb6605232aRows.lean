/-
  No cell of these rows narrows 'for every input' (looked for: loops, veiled, ifaces, maps, wideKeys, modest, calm, conditions, laid).
  DERIVED. THE GIVEN ROWS OF THIS SEAT. 3 by the template 'for every input the law returns true; each argument reads behind the call as it read before'; 0 by the template 'total and deterministic' (their statements: Qxb6605232aTotals.lean).
  GIVEN WITH THE SEED: the statements are not yours to turn. If you find one false, say at which input.
  Laid BY PROGRAM, IN A SANDBOX (cutbox-rows.mjs): the forced cells as the released guide's own fill.sh prints them over the translation ed666c2f9bc86795… (all of the seat's roots in one cut). By AI agents, Wed Nov 11 2026. No macro, syntax, notation, axiom, sorry.
-/
import Derived.Test.Qxb6605232aChecked
import GoSem.Claim
import GoSem.ClaimJoined
import GoSem.ClaimMapViews
import Derived.JoinedTies
import Derived.KernelRfl
namespace Go.Proofs.Qxb6605232a
/- THE CELL 'sum', in the pinned program and in every row, IS THE sha256 OF THE DUMP (.gsa) THAT Qxb6605232aProg.lean LOADS. Nothing in Lean hashes anything: it is a label: what it is worth is what the hold of that sum in a sandbox is worth. -/
noncomputable def Try.pinned : Pinned := { name := "qxb6605232a", sum := "ed666c2f9bc867958bffca39944a9e7b76e9827b4dcc68350644a2c30260996f", checked := Try.checked }
namespace Rows
def none {H : Type} : Left H := { results := [], args := [] }

/-- 'zzlaws_irc_b1.FnUnescapeTagRunLengthModel': WHATEVER THE INPUT: true; the input reads as it did. -/
def fnUnescapeTagRunLengthModelSpec : ChangeSpec := { name := "fnUnescapeTagRunLengthModel", fn := fun _ => fun
  | [d] => { results := [.lit (.bool true)], args := [d] }
  | _ => none }
def fnUnescapeTagRunLengthModelRow : OpenClaim := { program := "qxb6605232a", sum := "ed666c2f9bc867958bffca39944a9e7b76e9827b4dcc68350644a2c30260996f", func := "example.com/chantry/chantry/zzlaws_irc_b1.FnUnescapeTagRunLengthModel", spec := "fnUnescapeTagRunLengthModel", inPlace := ["internal/bytealg.IndexByteString", "internal/bytealg.IndexString", "internal/abi.NoEscape"], named := ["internal/bytealg.MaxLen"], apart := false }
def FnUnescapeTagRunLengthModelSaid : Prop := fnUnescapeTagRunLengthModelRow.holds Try.pinned (OpenSpec.ofChange fnUnescapeTagRunLengthModelSpec)

/-- ITS FALSE NEIGHBOUR: 'it returns false'. Refute it at one input. -/
def fnUnescapeTagRunLengthModelWrong : ChangeSpec := { name := "fnUnescapeTagRunLengthModel", fn := fun _ => fun
  | [d] => { results := [.lit (.bool false)], args := [d] }
  | _ => none }
def FnUnescapeTagRunLengthModelWrongFalsely : Prop := fnUnescapeTagRunLengthModelRow.holds Try.pinned (OpenSpec.ofChange fnUnescapeTagRunLengthModelWrong)

/-- 'zzlaws_irc_b1.FnTagValueEscapeRoundTrip': WHATEVER THE INPUT: true; the input reads as it did. -/
def fnTagValueEscapeRoundTripSpec : ChangeSpec := { name := "fnTagValueEscapeRoundTrip", fn := fun _ => fun
  | [d] => { results := [.lit (.bool true)], args := [d] }
  | _ => none }
def fnTagValueEscapeRoundTripRow : OpenClaim := { program := "qxb6605232a", sum := "ed666c2f9bc867958bffca39944a9e7b76e9827b4dcc68350644a2c30260996f", func := "example.com/chantry/chantry/zzlaws_irc_b1.FnTagValueEscapeRoundTrip", spec := "fnTagValueEscapeRoundTrip", inPlace := ["internal/bytealg.IndexByteString", "internal/bytealg.IndexString", "internal/abi.NoEscape"], named := ["internal/bytealg.MaxLen"], apart := false }
def FnTagValueEscapeRoundTripSaid : Prop := fnTagValueEscapeRoundTripRow.holds Try.pinned (OpenSpec.ofChange fnTagValueEscapeRoundTripSpec)

/-- ITS FALSE NEIGHBOUR: 'it returns false'. Refute it at one input. -/
def fnTagValueEscapeRoundTripWrong : ChangeSpec := { name := "fnTagValueEscapeRoundTrip", fn := fun _ => fun
  | [d] => { results := [.lit (.bool false)], args := [d] }
  | _ => none }
def FnTagValueEscapeRoundTripWrongFalsely : Prop := fnTagValueEscapeRoundTripRow.holds Try.pinned (OpenSpec.ofChange fnTagValueEscapeRoundTripWrong)

/-- 'zzlaws_irc_b1.FnAppendTagsPrefixAndLength': WHATEVER THE INPUT: true; the input reads as it did. -/
def fnAppendTagsPrefixAndLengthSpec : ChangeSpec := { name := "fnAppendTagsPrefixAndLength", fn := fun _ => fun
  | [d1, d2] => { results := [.lit (.bool true)], args := [d1, d2] }
  | _ => none }
def fnAppendTagsPrefixAndLengthRow : OpenClaim := { program := "qxb6605232a", sum := "ed666c2f9bc867958bffca39944a9e7b76e9827b4dcc68350644a2c30260996f", func := "example.com/chantry/chantry/zzlaws_irc_b1.FnAppendTagsPrefixAndLength", spec := "fnAppendTagsPrefixAndLength", inPlace := ["internal/bytealg.IndexByteString"], apart := false }
def FnAppendTagsPrefixAndLengthSaid : Prop := fnAppendTagsPrefixAndLengthRow.holds Try.pinned (OpenSpec.ofChange fnAppendTagsPrefixAndLengthSpec)

/-- ITS FALSE NEIGHBOUR: 'it returns false'. Refute it at one input. -/
def fnAppendTagsPrefixAndLengthWrong : ChangeSpec := { name := "fnAppendTagsPrefixAndLength", fn := fun _ => fun
  | [d1, d2] => { results := [.lit (.bool false)], args := [d1, d2] }
  | _ => none }
def FnAppendTagsPrefixAndLengthWrongFalsely : Prop := fnAppendTagsPrefixAndLengthRow.holds Try.pinned (OpenSpec.ofChange fnAppendTagsPrefixAndLengthWrong)

end Rows
end Go.Proofs.Qxb6605232a
