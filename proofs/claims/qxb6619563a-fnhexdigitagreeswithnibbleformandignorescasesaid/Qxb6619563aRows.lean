/-
  No cell of these rows narrows 'for every input' (looked for: loops, veiled, ifaces, maps, wideKeys, modest, calm, conditions, laid).
  DERIVED. THE GIVEN ROWS OF THIS SEAT. 2 by the template 'for every input the law returns true; each argument reads behind the call as it read before'; 0 by the template 'total and deterministic' (their statements: Qxb6619563aTotals.lean).
  GIVEN WITH THE SEED: the statements are not yours to turn. If you find one false, say at which input.
  Laid BY PROGRAM, IN A SANDBOX (cutbox-rows.mjs): the forced cells as the released guide's own fill.sh prints them over the translation 8a4e74b03813c232… (all of the seat's roots in one cut). By AI agents, Wed Nov 11 2026. No macro, syntax, notation, axiom, sorry.
-/
import Derived.Test.Qxb6619563aChecked
import GoSem.Claim
import GoSem.ClaimJoined
import GoSem.ClaimMapViews
import Derived.JoinedTies
import Derived.KernelRfl
namespace Go.Proofs.Qxb6619563a
/- THE CELL 'sum', in the pinned program and in every row, IS THE sha256 OF THE DUMP (.gsa) THAT Qxb6619563aProg.lean LOADS. Nothing in Lean hashes anything: it is a label: what it is worth is what the hold of that sum in a sandbox is worth. -/
noncomputable def Try.pinned : Pinned := { name := "qxb6619563a", sum := "8a4e74b03813c2323cea2b2a55366e00807f95c9f5559eb6dbefac6a93e156e5", checked := Try.checked }
namespace Rows
def none {H : Type} : Left H := { results := [], args := [] }

/-- 'zzlaws_internal_pktline_b1.FnHexDigitAgreesWithNibbleFormAndIgnoresCase': WHATEVER THE INPUT: true; the input reads as it did. -/
def fnHexDigitAgreesWithNibbleFormAndIgnoresCaseSpec : ChangeSpec := { name := "fnHexDigitAgreesWithNibbleFormAndIgnoresCase", fn := fun _ => fun
  | [d] => { results := [.lit (.bool true)], args := [d] }
  | _ => none }
def fnHexDigitAgreesWithNibbleFormAndIgnoresCaseRow : OpenClaim := { program := "qxb6619563a", sum := "8a4e74b03813c2323cea2b2a55366e00807f95c9f5559eb6dbefac6a93e156e5", func := "example.com/packmere/packmere/zzlaws_internal_pktline_b1.FnHexDigitAgreesWithNibbleFormAndIgnoresCase", spec := "fnHexDigitAgreesWithNibbleFormAndIgnoresCase", apart := false }
def FnHexDigitAgreesWithNibbleFormAndIgnoresCaseSaid : Prop := fnHexDigitAgreesWithNibbleFormAndIgnoresCaseRow.holds Try.pinned (OpenSpec.ofChange fnHexDigitAgreesWithNibbleFormAndIgnoresCaseSpec)

/-- ITS FALSE NEIGHBOUR: 'it returns false'. Refute it at one input. -/
def fnHexDigitAgreesWithNibbleFormAndIgnoresCaseWrong : ChangeSpec := { name := "fnHexDigitAgreesWithNibbleFormAndIgnoresCase", fn := fun _ => fun
  | [d] => { results := [.lit (.bool false)], args := [d] }
  | _ => none }
def FnHexDigitAgreesWithNibbleFormAndIgnoresCaseWrongFalsely : Prop := fnHexDigitAgreesWithNibbleFormAndIgnoresCaseRow.holds Try.pinned (OpenSpec.ofChange fnHexDigitAgreesWithNibbleFormAndIgnoresCaseWrong)

/-- 'zzlaws_internal_pktline_b1.FnHexDigitRunsAscendByOne': WHATEVER THE INPUT: true; the input reads as it did. -/
def fnHexDigitRunsAscendByOneSpec : ChangeSpec := { name := "fnHexDigitRunsAscendByOne", fn := fun _ => fun
  | [d] => { results := [.lit (.bool true)], args := [d] }
  | _ => none }
def fnHexDigitRunsAscendByOneRow : OpenClaim := { program := "qxb6619563a", sum := "8a4e74b03813c2323cea2b2a55366e00807f95c9f5559eb6dbefac6a93e156e5", func := "example.com/packmere/packmere/zzlaws_internal_pktline_b1.FnHexDigitRunsAscendByOne", spec := "fnHexDigitRunsAscendByOne", apart := false }
def FnHexDigitRunsAscendByOneSaid : Prop := fnHexDigitRunsAscendByOneRow.holds Try.pinned (OpenSpec.ofChange fnHexDigitRunsAscendByOneSpec)

/-- ITS FALSE NEIGHBOUR: 'it returns false'. Refute it at one input. -/
def fnHexDigitRunsAscendByOneWrong : ChangeSpec := { name := "fnHexDigitRunsAscendByOne", fn := fun _ => fun
  | [d] => { results := [.lit (.bool false)], args := [d] }
  | _ => none }
def FnHexDigitRunsAscendByOneWrongFalsely : Prop := fnHexDigitRunsAscendByOneRow.holds Try.pinned (OpenSpec.ofChange fnHexDigitRunsAscendByOneWrong)

end Rows
end Go.Proofs.Qxb6619563a
