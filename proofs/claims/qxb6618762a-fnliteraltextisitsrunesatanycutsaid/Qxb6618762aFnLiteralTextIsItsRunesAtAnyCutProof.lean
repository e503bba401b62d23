/-
  THE PROOF OF 'Rows.FnLiteralTextIsItsRunesAtAnyCutSaid' (the frame: proof-skeleton.mjs; the walks and the plain laws: by the prover of this seat).
-/
import Derived.Test.Qxb6618762aRows
import Derived.WalkKit
import Derived.ProofKit
import Derived.OpenShut
import Derived.ShutString
import Derived.ChangeOld
import Derived.Below
import Derived.Test.Qxb6618762aCutWalk
namespace Go.Proofs.Qxb6618762a.fnLiteralTextIsItsRunesAtAnyCut
open Go.ChangeShapes Go.WideShapes Go.ChangeAt Go.RowKit
open Go.ChangeMaps (open_string shut_string)
set_option linter.unusedVariables false

theorem own : ownKnob Try.prog.godebug = none := by kernel_rfl
theorem laidOut : laidOutB Try.prog = true := by kernel_rfl

/-- WHAT THE WALK IS TOLD OF A SLICE OF INTEGERS THAT CAME IN: it is nil; or it leads to a row of 'cap' cells, the numbers 'zs' (the first 'len' are its elements, the rest its spare room), each fitting its kind. -/
def IsRow (k : IntKind) (w : World) (a : Option Addr) (len cap : Nat) (zs : List Int) : Prop :=
  (a = none ∧ len = 0 ∧ cap = 0 ∧ zs = []) ∨
  ∃ x, a = some x ∧ len ≤ cap ∧ cap ≤ maxLen ∧ zs.length = cap ∧ (∀ i, i < zs.length → w.cell? (x.add i) = some (.int k (zs.getD i 0))) ∧ ∀ n ∈ zs, (Lit.int k n).wf = true

/-! ### STEP 1: THE WALK -/
open LitWalks CutWalk in
set_option maxHeartbeats 2000000 in
theorem walk_nil (a1 : Int) (w : World) :
    Calls Try.prog 3 #[.slice none 0 0, .int .i64 a1] w fun e w' => e = .returned (.bool true) ∧ Below w.heap.size w w' := by
  have hne := fun wx (t : Nat) (c : Nat) => run_neq_slice_nil_any (P := Try.prog) wx 22 21 none t c 0 0 Try.underlying22
  have hr : ∀ wx, Reads wx none [] := fun _ => .inl rfl
  have hcat : (ByteArray.mk #[] ++ ByteArray.mk #[]) = ByteArray.mk #[] := rfl
  have hwf : ∀ z ∈ ([] : List Int), -2147483648 ≤ z ∧ z ≤ 2147483647 := fun z hz => by simp at hz
  rcases (show a1 < 0 ∨ 0 < a1 ∨ a1 = 0 by omega) with h1 | h1 | rfl
  all_goals
    go_enter Try.func3, Try.ntmps3
    go_wp2_with (go_at_call 6; go_in)
    refine (zz_any [] _ _ _ _ rfl (by simp) hwf (hr _)).mono ?_
    rintro e w3 ⟨h, rfl, hb3, hheld⟩
    go_wp2_with fail
    refine (zz_any [] _ _ _ _ rfl (by simp) hwf (hr _)).mono ?_
    rintro e w4 ⟨h4, rfl, hb4, _⟩
    go_wp2_with fail
    refine (zz_any [] _ _ _ _ rfl (by simp) hwf (hr _)).mono ?_
    rintro e w5 ⟨h5, rfl, hb5, _⟩
    have hW5 : Below w.heap.size w w5 := (hb3.trans (hb4.mono hb3.size)).trans (hb5.mono (by have := hb3.size; have := hb4.size; omega))
    rcases hheld with ⟨he, rfl⟩ | ⟨he, _⟩
    · simp only [Lit.encs_nil]
      go_wp2
      go_ret
      exact ⟨rfl, hW5⟩
    · exact absurd (ByteArray.toList_mk []) he

set_option maxHeartbeats 1000000 in
theorem walk_big (a0 : Option Addr) (len cap : Nat) (a1 : Int) (w : World) (h : 65536 < len) (hm : len ≤ maxLen) :
    Calls Try.prog 3 #[.slice a0 len cap, .int .i64 a1] w fun e w' => e = .returned (.bool true) ∧ Below w.heap.size w w' := by
  unfold maxLen at hm
  by_cases h2 : len ≤ 1048576
  · go_enter Try.func3, Try.ntmps3
    go_wp2
    go_ret
    exact ⟨rfl, Below.refl _ _⟩
  · go_enter Try.func3, Try.ntmps3
    go_wp2
    go_ret
    exact ⟨rfl, Below.refl _ _⟩

theorem wf_i32 {n : Int} (h : (Lit.int .i32 n).wf = true) : -2147483648 ≤ n ∧ n ≤ 2147483647 := by
  have := bounds_i32 h
  omega

theorem walk (a0 : Option Addr) (len0 cap0 : Nat) (z0 : List Int) (a1 : Int) (w : World) (w0 : IsRow .i32 w a0 len0 cap0 z0) (w1 : (Lit.int .i64 a1).wf = true) :
    Calls Try.prog 3 #[.slice a0 len0 cap0, .int .i64 a1] w fun e w' => e = .returned (.bool true) ∧ Below w.heap.size w w' := by
  rcases w0 with ⟨rfl, rfl, rfl, rfl⟩ | ⟨x, rfl, hlc, hm, hz, hcell, hwf⟩
  · exact walk_nil a1 w
  · by_cases hb : 65536 < len0
    · exact walk_big _ _ _ _ _ hb (by omega)
    · have hlen : (z0.take len0).length = len0 := by rw [List.length_take]; omega
      have hc' : ∀ i, i < (z0.take len0).length → w.cell? (x.add i) = some (.int .i32 ((z0.take len0).getD i 0)) := fun i hi => by
        rw [hcell i (by omega)]
        have : i < len0 := by omega
        simp [this]
      have hw' : ∀ z ∈ z0.take len0, -2147483648 ≤ z ∧ z ≤ 2147483647 := fun z hz => wf_i32 (hwf z (List.mem_of_mem_take hz))
      obtain ⟨kk, hkk, hcase⟩ : ∃ kk : Nat, kk ≤ (z0.take len0).length ∧ ((a1 < 0 ∧ kk = 0) ∨ (((z0.take len0).length : Int) < a1 ∧ kk = (z0.take len0).length) ∨ (((z0.take len0).length : Int) = a1 ∧ kk = (z0.take len0).length) ∨ (a1 = kk ∧ kk < (z0.take len0).length)) := by
        by_cases c1 : a1 < 0
        · exact ⟨0, by omega, by omega⟩
        · by_cases c2 : a1 < (z0.take len0).length
          · exact ⟨a1.toNat, by omega, by omega⟩
          · exact ⟨(z0.take len0).length, by omega, by omega⟩
      have := CutWalk.walk_some x cap0 (z0.take len0) a1 kk w (by omega) hc' hw' hkk hcase
      rw [hlen] at this
      exact this

/-! ### THE ROW's STEP: WRITTEN OUT: LEAVE IT -/
set_option maxRecDepth 100000 in
theorem lifted (os : Os) (started : os.Started) (H : Type) (enc : TypeId × Value → H) :
    ReturnsInHanded {} Try.checked os 3 .any (Rows.fnLiteralTextIsItsRunesAtAnyCutSpec.pre6 enc Try.prog Try.f3 Rows.fnLiteralTextIsItsRunesAtAnyCutRow.domain false) (Rows.fnLiteralTextIsItsRunesAtAnyCutSpec.post enc Try.prog Try.f3 false true false false) := by
  refine returnsInHanded_of_change (C := Try.checked) own started (by kernel_rfl) Try.func3
    (ChangeSpec.witness6 (enc := enc) (C := Try.checked) false ⟨#[], #[.slice none 0 0, .int .i64 0], []⟩ 8 (by kernel_rfl) (by kernel_rfl) (by kernel_rfl) (by kernel_rfl)) ?_
  intro W base args ds gs before hval0 hW hcnd _
  have hval : ∀ (j : Nat) t v, Try.f3.params[j]? = some t → args[j]? = some v → Value.okWide Try.prog W .any base t v := hval0
  have hW' := hW
  obtain ⟨p, q, hA0, hV, rfl, hfz, hnd⟩ := hW
  have hA : DataW.TrodAll enc Try.prog W 0 (fun _ => true) true Try.f3.params.toList args.toList ds p := hA0
  rw [Try.params3] at hA hval
  obtain ⟨v0, vs0, d0, ds0, p0, q0, hargs, rfl, rfl, h0, r0⟩ := trodAll_cons hA
  obtain ⟨v1, vs1, d1, ds1, p1, q1, rfl, rfl, rfl, h1, r1⟩ := trodAll_cons r0
  obtain ⟨rfl, rfl, rfl⟩ := trodAll_nil r1
  obtain rfl : args = #[v0, v1] := by cases args; simp_all
  obtain ⟨rfl, rfl⟩ := trodVars_none hV
  obtain ⟨a0, len0, cap0, rfl⟩ := okWide_slice Try.underlying22 (hval 0 22 v0 rfl rfl)
  have k0 := h0
  have lt0 : ∀ x ∈ p0, x.block < W.heap.size := by obtain ⟨m, hm⟩ := k0; exact DataW.trod_lt m _ _ _ hm
  obtain ⟨z0, w0⟩ : ∃ zs, IsRow .i32 W a0 len0 cap0 zs := by
    obtain ⟨fuel, hf⟩ := h0
    rcases open_ints Try.underlying22 Try.underlying21 (by kernel_rfl) hf with ⟨hcs, _⟩ | ⟨x, l, c, zs, hcs, _, hl, hm, hz, _, hcell, hwz⟩
    · simp [Value.cells] at hcs
      obtain ⟨rfl, rfl, rfl⟩ := hcs
      exact ⟨[], .inl ⟨rfl, rfl, rfl, rfl⟩⟩
    · simp [Value.cells] at hcs
      obtain ⟨rfl, rfl, rfl⟩ := hcs
      exact ⟨zs, .inr ⟨_, rfl, hl, hm, by simpa using hz, hcell, hwz⟩⟩
  obtain ⟨a1, rfl, rfl, rfl, w1⟩ := open_int Try.underlying3 (hval 1 3 v1 rfl rfl) h1
  clear hA0 hval0
  refine (walk a0 len0 cap0 z0 a1 W w0 w1).mono fun e W' ⟨he, bel⟩ => ?_
  subst he
  exact ⟨_, rfl, _, _, _, [], _, [], hW', trodAll_mk1 (shut_bool Try.underlying4 _), (trodAll_cons_mk (Below.trod laidOut (by kernel_rfl) (of_decide_eq_true (by kernel_rfl)) k0 bel lt0) (trodAll_cons_mk (shut_int Try.underlying3 w1) trodAll_mk0)), rfl, bel.frame _, fun h => by cases h⟩

theorem over : Rows.fnLiteralTextIsItsRunesAtAnyCutRow.holds Try.pinned (OpenSpec.ofChange Rows.fnLiteralTextIsItsRunesAtAnyCutSpec) :=
  OpenClaim.holds_of_wide 3 Try.f3 rfl rfl rfl rfl rfl rfl rfl ⟨rfl, rfl, rfl, rfl, rfl⟩ rfl rfl rfl rfl rfl (by kernel_rfl) Try.func3 (by kernel_rfl)
    (of_decide_eq_true (by kernel_rfl)) (by unfold Func.isWrapper; first | (rw [if_pos (by decide +kernel)]; kernel_rfl) | (rw [if_neg (by decide +kernel)]; exact ⟨rfl, rfl⟩))
    (fun os started H enc _ => lifted os started H enc)

/-- ████ THE STATEMENT ████ -/
theorem proved : Rows.FnLiteralTextIsItsRunesAtAnyCutSaid := over
end Go.Proofs.Qxb6618762a.fnLiteralTextIsItsRunesAtAnyCut
