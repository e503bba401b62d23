/-
  No cell of these rows narrows 'for every input' (looked for: loops, veiled, ifaces, maps, wideKeys, modest, calm, conditions, laid).
  DERIVED. THE GIVEN ROWS OF THIS SEAT. 2 by the template 'for every input the law returns true; each argument reads behind the call as it read before'; 0 by the template 'total and deterministic' (their statements: Qxb6618809aTotals.lean).
  GIVEN WITH THE SEED: the statements are not yours to turn. If you find one false, say at which input.
  Laid BY PROGRAM, IN A SANDBOX (cutbox-rows.mjs): the forced cells as the released guide's own fill.sh prints them over the translation f3f261cd7b6267dc… (all of the seat's roots in one cut). By AI agents, Wed Nov 11 2026. No macro, syntax, notation, axiom, sorry.
-/
import Derived.Test.Qxb6618809aChecked
import GoSem.Claim
import GoSem.ClaimJoined
import GoSem.ClaimMapViews
import Derived.JoinedTies
import Derived.KernelRfl
namespace Go.Proofs.Qxb6618809a
/- THE CELL 'sum', in the pinned program and in every row, IS THE sha256 OF THE DUMP (.gsa) THAT Qxb6618809aProg.lean LOADS. Nothing in Lean hashes anything: it is a label: what it is worth is what the hold of that sum in a sandbox is worth. -/
noncomputable def Try.pinned : Pinned := { name := "qxb6618809a", sum := "f3f261cd7b6267dc595d453568bfe5dc6eb05f10953ef5708a62277c68cb0999", checked := Try.checked }
namespace Rows
def none {H : Type} : Left H := { results := [], args := [] }

/-- 'zzlaws_internal_snapshot_b1.FnBeforeBelowIsBeforeDirSlashAndDownward': WHATEVER THE INPUT: true; the input reads as it did. -/
def fnBeforeBelowIsBeforeDirSlashAndDownwardSpec : ChangeSpec := { name := "fnBeforeBelowIsBeforeDirSlashAndDownward", fn := fun _ => fun
  | [d1, d2, d3] => { results := [.lit (.bool true)], args := [d1, d2, d3] }
  | _ => none }
def fnBeforeBelowIsBeforeDirSlashAndDownwardRow : OpenClaim := { program := "qxb6618809a", sum := "f3f261cd7b6267dc595d453568bfe5dc6eb05f10953ef5708a62277c68cb0999", func := "example.com/holdfast/holdfast/zzlaws_internal_snapshot_b1.FnBeforeBelowIsBeforeDirSlashAndDownward", spec := "fnBeforeBelowIsBeforeDirSlashAndDownward", apart := false }
def FnBeforeBelowIsBeforeDirSlashAndDownwardSaid : Prop := fnBeforeBelowIsBeforeDirSlashAndDownwardRow.holds Try.pinned (OpenSpec.ofChange fnBeforeBelowIsBeforeDirSlashAndDownwardSpec)

/-- ITS FALSE NEIGHBOUR: 'it returns false'. Refute it at one input. -/
def fnBeforeBelowIsBeforeDirSlashAndDownwardWrong : ChangeSpec := { name := "fnBeforeBelowIsBeforeDirSlashAndDownward", fn := fun _ => fun
  | [d1, d2, d3] => { results := [.lit (.bool false)], args := [d1, d2, d3] }
  | _ => none }
def FnBeforeBelowIsBeforeDirSlashAndDownwardWrongFalsely : Prop := fnBeforeBelowIsBeforeDirSlashAndDownwardRow.holds Try.pinned (OpenSpec.ofChange fnBeforeBelowIsBeforeDirSlashAndDownwardWrong)

/-- 'zzlaws_internal_snapshot_b1.FnBeforeBelowIgnoresACommonPrefixAndNests': WHATEVER THE INPUT: true; the input reads as it did. -/
def fnBeforeBelowIgnoresACommonPrefixAndNestsSpec : ChangeSpec := { name := "fnBeforeBelowIgnoresACommonPrefixAndNests", fn := fun _ => fun
  | [d1, d2, d3, d4] => { results := [.lit (.bool true)], args := [d1, d2, d3, d4] }
  | _ => none }
def fnBeforeBelowIgnoresACommonPrefixAndNestsRow : OpenClaim := { program := "qxb6618809a", sum := "f3f261cd7b6267dc595d453568bfe5dc6eb05f10953ef5708a62277c68cb0999", func := "example.com/holdfast/holdfast/zzlaws_internal_snapshot_b1.FnBeforeBelowIgnoresACommonPrefixAndNests", spec := "fnBeforeBelowIgnoresACommonPrefixAndNests", apart := false }
def FnBeforeBelowIgnoresACommonPrefixAndNestsSaid : Prop := fnBeforeBelowIgnoresACommonPrefixAndNestsRow.holds Try.pinned (OpenSpec.ofChange fnBeforeBelowIgnoresACommonPrefixAndNestsSpec)

/-- ITS FALSE NEIGHBOUR: 'it returns false'. Refute it at one input. -/
def fnBeforeBelowIgnoresACommonPrefixAndNestsWrong : ChangeSpec := { name := "fnBeforeBelowIgnoresACommonPrefixAndNests", fn := fun _ => fun
  | [d1, d2, d3, d4] => { results := [.lit (.bool false)], args := [d1, d2, d3, d4] }
  | _ => none }
def FnBeforeBelowIgnoresACommonPrefixAndNestsWrongFalsely : Prop := fnBeforeBelowIgnoresACommonPrefixAndNestsRow.holds Try.pinned (OpenSpec.ofChange fnBeforeBelowIgnoresACommonPrefixAndNestsWrong)

end Rows
end Go.Proofs.Qxb6618809a
