/-
  No cell of these rows narrows 'for every input' (looked for: loops, veiled, ifaces, maps, wideKeys, modest, calm, conditions, laid).
  DERIVED. THE GIVEN ROWS OF THIS SEAT. 3 by the template 'for every input the law returns true; each argument reads behind the call as it read before'; 0 by the template 'total and deterministic' (their statements: Qxb6618762aTotals.lean).
  GIVEN WITH THE SEED: the statements are not yours to turn. If you find one false, say at which input.
  Laid BY PROGRAM, IN A SANDBOX (cutbox-rows.mjs): the forced cells as the released guide's own fill.sh prints them over the translation 890d1e6b880ad57a… (all of the seat's roots in one cut). By AI agents, Wed Nov 11 2026. No macro, syntax, notation, axiom, sorry.
-/
import Derived.Test.Qxb6618762aChecked
import GoSem.Claim
import GoSem.ClaimJoined
import GoSem.ClaimMapViews
import Derived.JoinedTies
import Derived.KernelRfl
namespace Go.Proofs.Qxb6618762a
/- THE CELL 'sum', in the pinned program and in every row, IS THE sha256 OF THE DUMP (.gsa) THAT Qxb6618762aProg.lean LOADS. Nothing in Lean hashes anything: it is a label: what it is worth is what the hold of that sum in a sandbox is worth. -/
noncomputable def Try.pinned : Pinned := { name := "qxb6618762a", sum := "890d1e6b880ad57af8284af2e7baa2742d5be2bce7f444b0c254586fbae47f31", checked := Try.checked }
namespace Rows
def none {H : Type} : Left H := { results := [], args := [] }

/-- 'zzlaws_decision_b1.FnLiteralTextIsItsRunesAtAnyCut': WHATEVER THE INPUT: true; the input reads as it did. -/
def fnLiteralTextIsItsRunesAtAnyCutSpec : ChangeSpec := { name := "fnLiteralTextIsItsRunesAtAnyCut", fn := fun _ => fun
  | [d1, d2] => { results := [.lit (.bool true)], args := [d1, d2] }
  | _ => none }
def fnLiteralTextIsItsRunesAtAnyCutRow : OpenClaim := { program := "qxb6618762a", sum := "890d1e6b880ad57af8284af2e7baa2742d5be2bce7f444b0c254586fbae47f31", func := "example.com/gatewarden/gatewarden/zzlaws_decision_b1.FnLiteralTextIsItsRunesAtAnyCut", spec := "fnLiteralTextIsItsRunesAtAnyCut", unfollowed := true, recurses := true, apart := false }
def FnLiteralTextIsItsRunesAtAnyCutSaid : Prop := fnLiteralTextIsItsRunesAtAnyCutRow.holds Try.pinned (OpenSpec.ofChange fnLiteralTextIsItsRunesAtAnyCutSpec)

/-- ITS FALSE NEIGHBOUR: 'it returns false'. Refute it at one input. -/
def fnLiteralTextIsItsRunesAtAnyCutWrong : ChangeSpec := { name := "fnLiteralTextIsItsRunesAtAnyCut", fn := fun _ => fun
  | [d1, d2] => { results := [.lit (.bool false)], args := [d1, d2] }
  | _ => none }
def FnLiteralTextIsItsRunesAtAnyCutWrongFalsely : Prop := fnLiteralTextIsItsRunesAtAnyCutRow.holds Try.pinned (OpenSpec.ofChange fnLiteralTextIsItsRunesAtAnyCutWrong)

/-- 'zzlaws_decision_b1.FnLiteralTextKeepsTheOrderOfRunes': WHATEVER THE INPUT: true; the input reads as it did. -/
def fnLiteralTextKeepsTheOrderOfRunesSpec : ChangeSpec := { name := "fnLiteralTextKeepsTheOrderOfRunes", fn := fun _ => fun
  | [d1, d2] => { results := [.lit (.bool true)], args := [d1, d2] }
  | _ => none }
def fnLiteralTextKeepsTheOrderOfRunesRow : OpenClaim := { program := "qxb6618762a", sum := "890d1e6b880ad57af8284af2e7baa2742d5be2bce7f444b0c254586fbae47f31", func := "example.com/gatewarden/gatewarden/zzlaws_decision_b1.FnLiteralTextKeepsTheOrderOfRunes", spec := "fnLiteralTextKeepsTheOrderOfRunes", unfollowed := true, recurses := true, apart := false }
def FnLiteralTextKeepsTheOrderOfRunesSaid : Prop := fnLiteralTextKeepsTheOrderOfRunesRow.holds Try.pinned (OpenSpec.ofChange fnLiteralTextKeepsTheOrderOfRunesSpec)

/-- ITS FALSE NEIGHBOUR: 'it returns false'. Refute it at one input. -/
def fnLiteralTextKeepsTheOrderOfRunesWrong : ChangeSpec := { name := "fnLiteralTextKeepsTheOrderOfRunes", fn := fun _ => fun
  | [d1, d2] => { results := [.lit (.bool false)], args := [d1, d2] }
  | _ => none }
def FnLiteralTextKeepsTheOrderOfRunesWrongFalsely : Prop := fnLiteralTextKeepsTheOrderOfRunesRow.holds Try.pinned (OpenSpec.ofChange fnLiteralTextKeepsTheOrderOfRunesWrong)

/-- 'zzlaws_decision_b1.FnUnreservedCountsSixtyFiveBytes': WHATEVER THE INPUT: true; the input reads as it did. -/
def fnUnreservedCountsSixtyFiveBytesSpec : ChangeSpec := { name := "fnUnreservedCountsSixtyFiveBytes", fn := fun _ => fun
  | [] => { results := [.lit (.bool true)], args := [] }
  | _ => none }
def fnUnreservedCountsSixtyFiveBytesRow : OpenClaim := { program := "qxb6618762a", sum := "890d1e6b880ad57af8284af2e7baa2742d5be2bce7f444b0c254586fbae47f31", func := "example.com/gatewarden/gatewarden/zzlaws_decision_b1.FnUnreservedCountsSixtyFiveBytes", spec := "fnUnreservedCountsSixtyFiveBytes", apart := false }
def FnUnreservedCountsSixtyFiveBytesSaid : Prop := fnUnreservedCountsSixtyFiveBytesRow.holds Try.pinned (OpenSpec.ofChange fnUnreservedCountsSixtyFiveBytesSpec)

/-- ITS FALSE NEIGHBOUR: 'it returns false'. Refute it at one input. -/
def fnUnreservedCountsSixtyFiveBytesWrong : ChangeSpec := { name := "fnUnreservedCountsSixtyFiveBytes", fn := fun _ => fun
  | [] => { results := [.lit (.bool false)], args := [] }
  | _ => none }
def FnUnreservedCountsSixtyFiveBytesWrongFalsely : Prop := fnUnreservedCountsSixtyFiveBytesRow.holds Try.pinned (OpenSpec.ofChange fnUnreservedCountsSixtyFiveBytesWrong)

end Rows
end Go.Proofs.Qxb6618762a
