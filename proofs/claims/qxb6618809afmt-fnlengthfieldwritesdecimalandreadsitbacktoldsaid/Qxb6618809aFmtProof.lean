/-
  THE PROOF OF 'Rows.FnLengthFieldWritesDecimalAndReadsItBackToldSaid': from the law's walk to the told and tied card (after the kit's Derived/Test/PortTold.lean, PortSeven.lean, MapyProofs.lean): by the prover of this seat.
-/
import Derived.Test.Qxb6618809aFmtCards
import Derived.Test.Qxb6618809aFmtTie
import Derived.Test.Qxb6618809aFmtLaw
import Derived.ProofKit
import Derived.OpenShut
import Derived.ShutString
import Derived.LaidMore
import Derived.LaidHandle
import Derived.Lib.LaidTab
import Derived.Stop.LaidErr
import Derived.Stop.JoinedAt
import Derived.Stop.JoinedTold
import Derived.Deep.DeepWitnessRef
import Derived.SevenTiedAt
import Derived.SevenToldRow
namespace Go.Proofs.Qxb6618809aFmt.Proof
open Go.ChangeShapes Go.WideShapes Go.ChangeAt Go.RowKit
open Go.ChangeMaps (open_string shut_string)
open Go.Extern.Stop Go.Stop Go.Extern
set_option linter.unusedVariables false

theorem own : ownKnob Tryf.prog.godebug = none := by kernel_rfl
theorem laidOut : laidOutB Tryf.pinned.checked.prog = true := by kernel_rfl
theorem stops : Tryf.pinned.checked.prog.stops = ["fmt.errorf"] := by kernel_rfl
theorem stopKnobs : Tryf.pinned.checked.prog.stopKnobs = [] := by kernel_rfl
theorem quiet (os : Os) : Stop.quiet Tryf.pinned.checked.prog os := by
  intro k hk
  rw [stopKnobs] at hk
  cases hk

/-- The heap that the door's own run leaves meets the condition. -/
theorem door_met (os : Os) (args : Array Value) : laidMetH Tryf.prog Rows.fnLengthFieldWritesDecimalAndReadsItBackRow.laid ((World.doorLaid Tryf.prog 62 os).forCall (fun _ _ => 0) ⟨#[], args, []⟩).memory :=
  laidMetH_of_parts3 (fuel := 8) (laidMet_of_run' 8 (by kernel_rfl) (by kernel_rfl)) (by kernel_rfl) (by kernel_rfl)

theorem powGlobal : Tryf.prog.globalNamed Shelf.powName = some 2 := by kernel_rfl
theorem powType : (Tryf.prog.globals[2]?).map (·.type) = some 83 := by kernel_rfl
/-- The table of powers of ten, off the row's condition. -/
theorem tab_of_laid {W : World} (h : laidMetH Tryf.prog Rows.fnLengthFieldWritesDecimalAndReadsItBackRow.laid W) : Lib.TabBelow Tryf.prog W.heap.size W Shelf.powName .u64 Lib.pow10Tab := by
  rw [MakeChecks.laidMetH_plain _ _ _ (by kernel_rfl)] at h
  have h2 : laidMet Tryf.prog ((Shelf.powName, Lib.tabData .u64 Lib.pow10Tab) :: Rows.fnLengthFieldWritesDecimalAndReadsItBackRow.laid.drop 3) W := h.tail.tail
  have hT := Lib.tabIs_of_head powGlobal powType Tryf.underlying83 Tryf.underlying31 (by kernel_rfl) (by kernel_rfl) h2
  have hlt : 2 < W.heap.size := World.block_lt_of_cell? W _ (hT.cell powGlobal 0 (by decide))
  exact fun w' hb => var?_below hb powGlobal hlt hT

theorem witness_row (os : Os) {H : Type} (enc : TypeId × Value → H) :
    (OpenSpec.ofChange Rows.fnLengthFieldWritesDecimalAndReadsItBackSpec).preRow enc Tryf.prog Tryf.f3 Rows.fnLengthFieldWritesDecimalAndReadsItBackRow.domain false Rows.fnLengthFieldWritesDecimalAndReadsItBackRow.laid
      ((World.doorLaid Tryf.prog 62 os).forCall (fun _ _ => 0) ⟨#[], #[.string ⟨#[]⟩, .int .i64 0, .int .i64 0], []⟩).memory #[.string ⟨#[]⟩, .int .i64 0, .int .i64 0] :=
  OpenSpec.preRow_of_B rfl 8 (by kernel_rfl) (by kernel_rfl) (door_met os _)

set_option maxRecDepth 100000 in
theorem lifted (os : Os) (started : os.Started) (H : Type) (enc : TypeId × Value → H) :
    ReturnsInTold none {} Tryf.checked os 3 .any Input.okWide ((OpenSpec.ofChange Rows.fnLengthFieldWritesDecimalAndReadsItBackSpec).preRow enc Tryf.prog Tryf.f3 Rows.fnLengthFieldWritesDecimalAndReadsItBackRow.domain false Rows.fnLengthFieldWritesDecimalAndReadsItBackRow.laid)
      (fun F => ((OpenSpec.ofChange Rows.fnLengthFieldWritesDecimalAndReadsItBackSpec).at F).post enc Tryf.prog Tryf.f3 false true false false) (aloneAtReturn Tryf.prog) nothingAlways := by
  refine returnsInTold_of_row (C := Tryf.checked) (s := OpenSpec.ofChange Rows.fnLengthFieldWritesDecimalAndReadsItBackSpec) (by kernel_rfl) own started (by kernel_rfl) Tryf.func3
    (OpenSpec.witness_stopped_atRef (enc := enc) (C := Tryf.checked) false (World.doorLaid Tryf.prog 62 os) #[.string ⟨#[]⟩, .int .i64 0, .int .i64 0] rfl (by kernel_rfl) (by kernel_rfl) (by kernel_rfl) (witness_row os enc)) ?_
  intro F W base args ds gs before _ hF hval0 hW _ _ _ hL _
  have hval : ∀ (j : Nat) t v, Tryf.f3.params[j]? = some t → args[j]? = some v → Value.okWide Tryf.prog W .any base t v := hval0
  have hW' := hW
  obtain ⟨p, q, hA0, hV, rfl, hfz, hnd⟩ := hW
  have hA : DataW.TrodAll enc Tryf.prog W 0 (fun _ => true) true Tryf.f3.params.toList args.toList ds p := hA0
  rw [Tryf.params3] at hA hval
  obtain ⟨v0, vs0, d0, ds0, p0, q0, hargs, rfl, rfl, h0, r0⟩ := trodAll_cons hA
  obtain ⟨v1, vs1, d1, ds1, p1, q1, rfl, rfl, rfl, h1, r1⟩ := trodAll_cons r0
  obtain ⟨v2, vs2, d2, ds2, p2, q2, rfl, rfl, rfl, h2, r2⟩ := trodAll_cons r1
  obtain ⟨rfl, rfl, rfl⟩ := trodAll_nil r2
  obtain rfl : args = #[v0, v1, v2] := by cases args; simp_all
  obtain ⟨rfl, rfl⟩ := trodVars_none hV
  obtain ⟨key, rfl, rfl, rfl, w0⟩ := open_string Tryf.underlying9 (hval 0 9 v0 rfl rfl) h0
  obtain ⟨n, rfl, rfl, rfl, w1⟩ := open_int Tryf.underlying2 (hval 1 2 v1 rfl rfl) h1
  obtain ⟨start, rfl, rfl, rfl, w2⟩ := open_int Tryf.underlying2 (hval 2 2 v2 rfl rfl) h2
  clear hA0 hval0
  have htab := tab_of_laid hL
  obtain ⟨b0, b1⟩ := bounds_i64 w1
  have hwalk : Calls Tryf.prog 3 #[.string key, .int .i64 n, .int .i64 start] W fun e w' => e = .returned (.bool true) ∧ Below W.heap.size W w' := by
    by_cases hk : key.size ≤ 1048576
    · exact Law.law_small F.told key n start W hk b0 b1 hF htab
    · exact Law.law_big key n start W (by omega) (by unfold maxLen at w0; omega)
  refine hwalk.mono fun e W' ⟨he, bel⟩ => ?_
  subst he
  exact ⟨_, rfl, _, _, _, [], _, [], hW', trodAll_mk1 (shut_bool Tryf.underlying4 _), (trodAll_cons_mk (shut_string Tryf.underlying9 w0) (trodAll_cons_mk (shut_int Tryf.underlying2 w1) (trodAll_cons_mk (shut_int Tryf.underlying2 w2) trodAll_mk0))), rfl, bel.frame _, fun h => by cases h⟩

theorem proved : Rows.FnLengthFieldWritesDecimalAndReadsItBackToldSaid :=
  Claim7.holds_of_told_tied_any_at .later 3 Tryf.f3 "fmt.errorf" [] [] _ _ _ _ _ (by kernel_rfl) rfl rfl rfl laidOut (by kernel_rfl) rfl ⟨rfl, rfl, rfl, rfl, rfl, rfl, rfl⟩ rfl rfl (by kernel_rfl) (by kernel_rfl) Tryf.func3 (by kernel_rfl)
    (of_decide_eq_true (by kernel_rfl)) (by unfold Func.isWrapper; first | (rw [if_pos (by decide +kernel)]; kernel_rfl) | (rw [if_neg (by decide +kernel)]; exact ⟨rfl, rfl⟩)) stops.symm rfl stopKnobs.symm (by kernel_rfl)
    (by kernel_rfl) (by kernel_rfl) (by kernel_rfl) (by kernel_rfl) (by kernel_rfl) (by kernel_rfl) (by kernel_rfl) (by kernel_rfl) (by kernel_rfl) rfl (by kernel_rfl) rfl rfl
    rfl rfl
    rfl (by kernel_rfl) (by kernel_rfl) (by kernel_rfl) (by decide) (by kernel_rfl) fnLengthFieldWritesDecimalAndReadsItBack_row_tie
    (OpenClaim.moreEntering_of (by kernel_rfl) (by kernel_rfl) (by kernel_rfl) (by kernel_rfl) (by kernel_rfl) (by kernel_rfl) (by kernel_rfl) (by kernel_rfl) (by kernel_rfl) (by kernel_rfl))
    ⟨_, WideRow.started_initial, quiet _⟩
    (fun os started _ H enc _ => lifted os started H enc)
end Go.Proofs.Qxb6618809aFmt.Proof
