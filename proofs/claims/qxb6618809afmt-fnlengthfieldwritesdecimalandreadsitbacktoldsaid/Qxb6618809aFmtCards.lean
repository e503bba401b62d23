/-
  DERIVED. GIVEN WITH THE SEED: THE CARDS: each row of Qxb6618809aFmtRows.lean that lists a variable, with what it lists TIED to the program's text (the seventh form; the later family's looks); each row that meets fmt, with fmt's text TOLD by the authors' own Lean function (tested against real Go, not proved from fmt's source: count such statements apart). THE CARD IS WHAT COUNTS. Prove the row's statement (the work); the ties are given (Qxb6618809aFmtTie.lean); close each card by the builder's one call (the guide's Derived/Test/ToyasCard.lean, 'card_holds'). Laid BY PROGRAM, IN A SANDBOX (cutbox-door.mjs). By AI agents, Wed Nov 11 2026. No macro, syntax, notation, axiom, sorry.
-/
import Derived.Test.Qxb6618809aFmtRows
import GoSem.ClaimSeven
namespace Go.Proofs.Qxb6618809aFmt
namespace Rows

/-- THE TOLD AND TIED CARD OF 'zzlaws_internal_snapshot_b1.FnLengthFieldWritesDecimalAndReadsItBack'. -/
def fnLengthFieldWritesDecimalAndReadsItBackCard : Claim7 := { stood := { row := fnLengthFieldWritesDecimalAndReadsItBackRow, standIns := [], harness := (true, "808ec7d9140db6bbfb20b7b8d8825efabf8db4ef6e2779d45a8244bea8462dac"), looks := true }, told := true, laidByText := true, laidKinds := [.data, .data, .data, .sentinel, .sentinel], laidTests := true, laidLooks := .later, goes := false }
def FnLengthFieldWritesDecimalAndReadsItBackToldSaid : Prop := Claim7.holds Tryf.pinned (.plain (OpenSpec.ofChange fnLengthFieldWritesDecimalAndReadsItBackSpec)) fnLengthFieldWritesDecimalAndReadsItBackCard
/-- ITS FALSE NEIGHBOUR. Refute it at one input. -/
def FnLengthFieldWritesDecimalAndReadsItBackToldWrongFalsely : Prop := Claim7.holds Tryf.pinned (.plain (OpenSpec.ofChange fnLengthFieldWritesDecimalAndReadsItBackWrong)) fnLengthFieldWritesDecimalAndReadsItBackCard
end Rows
end Go.Proofs.Qxb6618809aFmt
