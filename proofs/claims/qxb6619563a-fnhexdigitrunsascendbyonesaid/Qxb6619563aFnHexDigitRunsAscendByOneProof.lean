/-
  THE PROOF OF 'Rows.FnHexDigitRunsAscendByOneSaid' (the frame: proof-skeleton.mjs; the walks and the plain laws: by the prover of this seat).
-/
import Derived.Test.Qxb6619563aRows
import Derived.WalkKit
import Derived.ProofKit
import Derived.OpenShut
import Derived.ShutString
import Derived.Test.Qxb6619563aHex
namespace Go.Proofs.Qxb6619563a.fnHexDigitRunsAscendByOne
open Go.ChangeShapes Go.WideShapes Go.ChangeAt Go.RowKit
open Go.ChangeMaps (open_string shut_string)
set_option linter.unusedVariables false      -- a walk need not use every 'w<i>' (that an integer argument fits its kind)

theorem own : ownKnob Try.prog.godebug = none := by kernel_rfl

/-! ### STEP 1: THE WALK -/
open Hex in
set_option maxHeartbeats 1000000 in
theorem walk_0 (c : Int) (h0 : 0 ≤ c) (h1 : c ≤ 46) (w : World) :
    Calls Try.prog 4 #[.int .u8 c] w fun e w' => e = .returned (.bool true) ∧ Grown w w' := by
  have k0 : hk (c) = false := by simp [hk]; omega
  have v0 : hv (c) = 0 := by unfold hv; (repeat' split) <;> omega
  have k1 : hk (c + 1) = false := by simp [hk]; omega
  go_enter Try.func4, Try.ntmps4
  go_wp2_with (first
    | (go_at_call 5; refine (zz_any _ (by omega) (by omega) _).mono ?_; rintro e w' ⟨rfl, rfl⟩)
    | (go_at_call 7; refine (nib_any _ (by omega) (by omega) _).mono ?_; rintro e w' ⟨rfl, rfl⟩))
  go_ret
  exact ⟨rfl, Grown.refl _⟩
open Hex in
set_option maxHeartbeats 1000000 in
theorem walk_47 (c : Int) (h0 : 47 ≤ c) (h1 : c ≤ 47) (w : World) :
    Calls Try.prog 4 #[.int .u8 c] w fun e w' => e = .returned (.bool true) ∧ Grown w w' := by
  obtain rfl : c = 47 := by omega
  have k0 : hk 47 = false := by decide
  have v0 : hv 47 = 0 := by decide
  have k1 : hk 48 = true := by decide
  have v1 : hv 48 = 0 := by decide
  go_enter Try.func4, Try.ntmps4
  go_wp2_with (first
    | (go_at_call 5; refine (zz_any _ (by omega) (by omega) _).mono ?_; rintro e w' ⟨rfl, rfl⟩)
    | (go_at_call 7; refine (nib_any _ (by omega) (by omega) _).mono ?_; rintro e w' ⟨rfl, rfl⟩))
  go_ret
  exact ⟨rfl, Grown.refl _⟩
open Hex in
set_option maxHeartbeats 1000000 in
theorem walk_48 (c : Int) (h0 : 48 ≤ c) (h1 : c ≤ 56) (w : World) :
    Calls Try.prog 4 #[.int .u8 c] w fun e w' => e = .returned (.bool true) ∧ Grown w w' := by
  have k0 : hk (c) = true := by simp [hk]; omega
  have v0 : hv (c) = c - 48 := by unfold hv; (repeat' split) <;> omega
  have k1 : hk (c + 1) = true := by simp [hk]; omega
  have v1 : hv (c + 1) = c - 48 + 1 := by unfold hv; (repeat' split) <;> omega
  have t1 : (c - 48 == 9) = false := by simp; omega
  have t2 : (c - 48 == 15) = false := by simp; omega
  go_enter Try.func4, Try.ntmps4
  go_wp2_with (first
    | (go_at_call 5; refine (zz_any _ (by omega) (by omega) _).mono ?_; rintro e w' ⟨rfl, rfl⟩)
    | (go_at_call 7; refine (nib_any _ (by omega) (by omega) _).mono ?_; rintro e w' ⟨rfl, rfl⟩))
  go_ret
  exact ⟨rfl, Grown.refl _⟩
open Hex in
set_option maxHeartbeats 1000000 in
theorem walk_57 (c : Int) (h0 : 57 ≤ c) (h1 : c ≤ 57) (w : World) :
    Calls Try.prog 4 #[.int .u8 c] w fun e w' => e = .returned (.bool true) ∧ Grown w w' := by
  obtain rfl : c = 57 := by omega
  have k0 : hk 57 = true := by decide
  have v0 : hv 57 = 9 := by decide
  have k1 : hk 58 = false := by decide
  have v1 : hv 58 = 0 := by decide
  go_enter Try.func4, Try.ntmps4
  go_wp2_with (first
    | (go_at_call 5; refine (zz_any _ (by omega) (by omega) _).mono ?_; rintro e w' ⟨rfl, rfl⟩)
    | (go_at_call 7; refine (nib_any _ (by omega) (by omega) _).mono ?_; rintro e w' ⟨rfl, rfl⟩))
  go_ret
  exact ⟨rfl, Grown.refl _⟩
open Hex in
set_option maxHeartbeats 1000000 in
theorem walk_58 (c : Int) (h0 : 58 ≤ c) (h1 : c ≤ 63) (w : World) :
    Calls Try.prog 4 #[.int .u8 c] w fun e w' => e = .returned (.bool true) ∧ Grown w w' := by
  have k0 : hk (c) = false := by simp [hk]; omega
  have v0 : hv (c) = 0 := by unfold hv; (repeat' split) <;> omega
  have k1 : hk (c + 1) = false := by simp [hk]; omega
  go_enter Try.func4, Try.ntmps4
  go_wp2_with (first
    | (go_at_call 5; refine (zz_any _ (by omega) (by omega) _).mono ?_; rintro e w' ⟨rfl, rfl⟩)
    | (go_at_call 7; refine (nib_any _ (by omega) (by omega) _).mono ?_; rintro e w' ⟨rfl, rfl⟩))
  go_ret
  exact ⟨rfl, Grown.refl _⟩
open Hex in
set_option maxHeartbeats 1000000 in
theorem walk_64 (c : Int) (h0 : 64 ≤ c) (h1 : c ≤ 64) (w : World) :
    Calls Try.prog 4 #[.int .u8 c] w fun e w' => e = .returned (.bool true) ∧ Grown w w' := by
  obtain rfl : c = 64 := by omega
  have k0 : hk 64 = false := by decide
  have v0 : hv 64 = 0 := by decide
  have k1 : hk 65 = true := by decide
  have v1 : hv 65 = 10 := by decide
  go_enter Try.func4, Try.ntmps4
  go_wp2_with (first
    | (go_at_call 5; refine (zz_any _ (by omega) (by omega) _).mono ?_; rintro e w' ⟨rfl, rfl⟩)
    | (go_at_call 7; refine (nib_any _ (by omega) (by omega) _).mono ?_; rintro e w' ⟨rfl, rfl⟩))
  go_ret
  exact ⟨rfl, Grown.refl _⟩
open Hex in
set_option maxHeartbeats 1000000 in
theorem walk_65 (c : Int) (h0 : 65 ≤ c) (h1 : c ≤ 69) (w : World) :
    Calls Try.prog 4 #[.int .u8 c] w fun e w' => e = .returned (.bool true) ∧ Grown w w' := by
  have k0 : hk (c) = true := by simp [hk]; omega
  have v0 : hv (c) = c - 55 := by unfold hv; (repeat' split) <;> omega
  have k1 : hk (c + 1) = true := by simp [hk]; omega
  have v1 : hv (c + 1) = c - 55 + 1 := by unfold hv; (repeat' split) <;> omega
  have t1 : (c - 55 == 9) = false := by simp; omega
  have t2 : (c - 55 == 15) = false := by simp; omega
  go_enter Try.func4, Try.ntmps4
  go_wp2_with (first
    | (go_at_call 5; refine (zz_any _ (by omega) (by omega) _).mono ?_; rintro e w' ⟨rfl, rfl⟩)
    | (go_at_call 7; refine (nib_any _ (by omega) (by omega) _).mono ?_; rintro e w' ⟨rfl, rfl⟩))
  go_ret
  exact ⟨rfl, Grown.refl _⟩
open Hex in
set_option maxHeartbeats 1000000 in
theorem walk_70 (c : Int) (h0 : 70 ≤ c) (h1 : c ≤ 70) (w : World) :
    Calls Try.prog 4 #[.int .u8 c] w fun e w' => e = .returned (.bool true) ∧ Grown w w' := by
  obtain rfl : c = 70 := by omega
  have k0 : hk 70 = true := by decide
  have v0 : hv 70 = 15 := by decide
  have k1 : hk 71 = false := by decide
  have v1 : hv 71 = 0 := by decide
  go_enter Try.func4, Try.ntmps4
  go_wp2_with (first
    | (go_at_call 5; refine (zz_any _ (by omega) (by omega) _).mono ?_; rintro e w' ⟨rfl, rfl⟩)
    | (go_at_call 7; refine (nib_any _ (by omega) (by omega) _).mono ?_; rintro e w' ⟨rfl, rfl⟩))
  go_ret
  exact ⟨rfl, Grown.refl _⟩
open Hex in
set_option maxHeartbeats 1000000 in
theorem walk_71 (c : Int) (h0 : 71 ≤ c) (h1 : c ≤ 95) (w : World) :
    Calls Try.prog 4 #[.int .u8 c] w fun e w' => e = .returned (.bool true) ∧ Grown w w' := by
  have k0 : hk (c) = false := by simp [hk]; omega
  have v0 : hv (c) = 0 := by unfold hv; (repeat' split) <;> omega
  have k1 : hk (c + 1) = false := by simp [hk]; omega
  go_enter Try.func4, Try.ntmps4
  go_wp2_with (first
    | (go_at_call 5; refine (zz_any _ (by omega) (by omega) _).mono ?_; rintro e w' ⟨rfl, rfl⟩)
    | (go_at_call 7; refine (nib_any _ (by omega) (by omega) _).mono ?_; rintro e w' ⟨rfl, rfl⟩))
  go_ret
  exact ⟨rfl, Grown.refl _⟩
open Hex in
set_option maxHeartbeats 1000000 in
theorem walk_96 (c : Int) (h0 : 96 ≤ c) (h1 : c ≤ 96) (w : World) :
    Calls Try.prog 4 #[.int .u8 c] w fun e w' => e = .returned (.bool true) ∧ Grown w w' := by
  obtain rfl : c = 96 := by omega
  have k0 : hk 96 = false := by decide
  have v0 : hv 96 = 0 := by decide
  have k1 : hk 97 = true := by decide
  have v1 : hv 97 = 10 := by decide
  go_enter Try.func4, Try.ntmps4
  go_wp2_with (first
    | (go_at_call 5; refine (zz_any _ (by omega) (by omega) _).mono ?_; rintro e w' ⟨rfl, rfl⟩)
    | (go_at_call 7; refine (nib_any _ (by omega) (by omega) _).mono ?_; rintro e w' ⟨rfl, rfl⟩))
  go_ret
  exact ⟨rfl, Grown.refl _⟩
open Hex in
set_option maxHeartbeats 1000000 in
theorem walk_97 (c : Int) (h0 : 97 ≤ c) (h1 : c ≤ 101) (w : World) :
    Calls Try.prog 4 #[.int .u8 c] w fun e w' => e = .returned (.bool true) ∧ Grown w w' := by
  have k0 : hk (c) = true := by simp [hk]; omega
  have v0 : hv (c) = c - 87 := by unfold hv; (repeat' split) <;> omega
  have k1 : hk (c + 1) = true := by simp [hk]; omega
  have v1 : hv (c + 1) = c - 87 + 1 := by unfold hv; (repeat' split) <;> omega
  have t1 : (c - 87 == 9) = false := by simp; omega
  have t2 : (c - 87 == 15) = false := by simp; omega
  go_enter Try.func4, Try.ntmps4
  go_wp2_with (first
    | (go_at_call 5; refine (zz_any _ (by omega) (by omega) _).mono ?_; rintro e w' ⟨rfl, rfl⟩)
    | (go_at_call 7; refine (nib_any _ (by omega) (by omega) _).mono ?_; rintro e w' ⟨rfl, rfl⟩))
  go_ret
  exact ⟨rfl, Grown.refl _⟩
open Hex in
set_option maxHeartbeats 1000000 in
theorem walk_102 (c : Int) (h0 : 102 ≤ c) (h1 : c ≤ 102) (w : World) :
    Calls Try.prog 4 #[.int .u8 c] w fun e w' => e = .returned (.bool true) ∧ Grown w w' := by
  obtain rfl : c = 102 := by omega
  have k0 : hk 102 = true := by decide
  have v0 : hv 102 = 15 := by decide
  have k1 : hk 103 = false := by decide
  have v1 : hv 103 = 0 := by decide
  go_enter Try.func4, Try.ntmps4
  go_wp2_with (first
    | (go_at_call 5; refine (zz_any _ (by omega) (by omega) _).mono ?_; rintro e w' ⟨rfl, rfl⟩)
    | (go_at_call 7; refine (nib_any _ (by omega) (by omega) _).mono ?_; rintro e w' ⟨rfl, rfl⟩))
  go_ret
  exact ⟨rfl, Grown.refl _⟩
open Hex in
set_option maxHeartbeats 1000000 in
theorem walk_103 (c : Int) (h0 : 103 ≤ c) (h1 : c ≤ 254) (w : World) :
    Calls Try.prog 4 #[.int .u8 c] w fun e w' => e = .returned (.bool true) ∧ Grown w w' := by
  have k0 : hk (c) = false := by simp [hk]; omega
  have v0 : hv (c) = 0 := by unfold hv; (repeat' split) <;> omega
  have k1 : hk (c + 1) = false := by simp [hk]; omega
  go_enter Try.func4, Try.ntmps4
  go_wp2_with (first
    | (go_at_call 5; refine (zz_any _ (by omega) (by omega) _).mono ?_; rintro e w' ⟨rfl, rfl⟩)
    | (go_at_call 7; refine (nib_any _ (by omega) (by omega) _).mono ?_; rintro e w' ⟨rfl, rfl⟩))
  go_ret
  exact ⟨rfl, Grown.refl _⟩
open Hex in
set_option maxHeartbeats 1000000 in
theorem walk_255 (w : World) :
    Calls Try.prog 4 #[.int .u8 255] w fun e w' => e = .returned (.bool true) ∧ Grown w w' := by
  have k0 : hk 255 = false := by decide
  have v0 : hv 255 = 0 := by decide
  have k1 : hk 0 = false := by decide
  go_enter Try.func4, Try.ntmps4
  go_wp2_with (first
    | (go_at_call 5; refine (zz_any _ (by omega) (by omega) _).mono ?_; rintro e w' ⟨rfl, rfl⟩)
    | (go_at_call 7; refine (nib_any _ (by omega) (by omega) _).mono ?_; rintro e w' ⟨rfl, rfl⟩))
  go_ret
  exact ⟨rfl, Grown.refl _⟩

theorem walk (a0 : Int) (w0 : (Lit.int .u8 a0).wf = true) (w : World) :
    Calls Try.prog 4 #[.int .u8 a0] w fun e w' => e = .returned (.bool true) ∧ Grown w w' := by
  obtain ⟨h0, h1⟩ := bounds_u8 w0
  by_cases c0 : a0 ≤ 46
  · exact walk_0 a0 (by omega) c0 w
  by_cases c47 : a0 ≤ 47
  · exact walk_47 a0 (by omega) c47 w
  by_cases c48 : a0 ≤ 56
  · exact walk_48 a0 (by omega) c48 w
  by_cases c57 : a0 ≤ 57
  · exact walk_57 a0 (by omega) c57 w
  by_cases c58 : a0 ≤ 63
  · exact walk_58 a0 (by omega) c58 w
  by_cases c64 : a0 ≤ 64
  · exact walk_64 a0 (by omega) c64 w
  by_cases c65 : a0 ≤ 69
  · exact walk_65 a0 (by omega) c65 w
  by_cases c70 : a0 ≤ 70
  · exact walk_70 a0 (by omega) c70 w
  by_cases c71 : a0 ≤ 95
  · exact walk_71 a0 (by omega) c71 w
  by_cases c96 : a0 ≤ 96
  · exact walk_96 a0 (by omega) c96 w
  by_cases c97 : a0 ≤ 101
  · exact walk_97 a0 (by omega) c97 w
  by_cases c102 : a0 ≤ 102
  · exact walk_102 a0 (by omega) c102 w
  by_cases c103 : a0 ≤ 254
  · exact walk_103 a0 (by omega) c103 w
  obtain rfl : a0 = 255 := by omega
  exact walk_255 w

/-! ### THE ROW's STEP: WRITTEN OUT: LEAVE IT -/
set_option maxRecDepth 100000 in
theorem lifted (os : Os) (started : os.Started) (H : Type) (enc : TypeId × Value → H) :
    ReturnsInHanded {} Try.checked os 4 .any (Rows.fnHexDigitRunsAscendByOneSpec.pre6 enc Try.prog Try.f4 Rows.fnHexDigitRunsAscendByOneRow.domain false) (Rows.fnHexDigitRunsAscendByOneSpec.post enc Try.prog Try.f4 false true false false) := by
  refine returnsInHanded_of_change (C := Try.checked) own started (by kernel_rfl) Try.func4
    (ChangeSpec.witness6 (enc := enc) (C := Try.checked) false ⟨#[], #[.int .u8 0], []⟩ 8 (by kernel_rfl) (by kernel_rfl) (by kernel_rfl) (by kernel_rfl)) ?_
  intro W base args ds gs before hval0 hW hcnd _
  have hval : ∀ (j : Nat) t v, Try.f4.params[j]? = some t → args[j]? = some v → Value.okWide Try.prog W .any base t v := hval0
  have hW' := hW
  obtain ⟨p, q, hA0, hV, rfl, hfz, hnd⟩ := hW
  have hA : DataW.TrodAll enc Try.prog W 0 (fun _ => true) true Try.f4.params.toList args.toList ds p := hA0
  rw [Try.params4] at hA hval
  obtain ⟨v0, vs0, d0, ds0, p0, q0, hargs, rfl, rfl, h0, r0⟩ := trodAll_cons hA
  obtain ⟨rfl, rfl, rfl⟩ := trodAll_nil r0
  obtain rfl : args = #[v0] := by cases args; simp_all
  obtain ⟨rfl, rfl⟩ := trodVars_none hV
  obtain ⟨a0, rfl, rfl, rfl, w0⟩ := open_int Try.underlying5 (hval 0 5 v0 rfl rfl) h0
  clear hA0 hval0
  simp only [List.append_nil] at hW'
  refine (walk a0 w0 W).mono fun e W' ⟨he, hg⟩ => ?_
  subst he
  exact ⟨_, rfl, post_of_same (pa := []) (pv := []) hW' (fun _ _ _ => (trodAll_cons_mk (shut_bool Try.underlying4 _) trodAll_mk0)) (fun sp _ => (trodAll_cons_mk (shut_int Try.underlying5 w0) trodAll_mk0)) (fun _ _ => rfl) rfl
    (hg.frame _) hg.2.1 (ok_one (by kernel_rfl) rfl (okWide_bool_mk Try.underlying4 _))⟩

theorem over : Rows.fnHexDigitRunsAscendByOneRow.holds Try.pinned (OpenSpec.ofChange Rows.fnHexDigitRunsAscendByOneSpec) :=
  OpenClaim.holds_of_wide 4 Try.f4 rfl rfl rfl rfl rfl rfl rfl ⟨rfl, rfl, rfl, rfl, rfl⟩ rfl rfl rfl rfl rfl (by kernel_rfl) Try.func4 (by kernel_rfl)
    (of_decide_eq_true (by kernel_rfl)) (by unfold Func.isWrapper; first | (rw [if_pos (by decide +kernel)]; kernel_rfl) | (rw [if_neg (by decide +kernel)]; exact ⟨rfl, rfl⟩))
    (fun os started H enc _ => lifted os started H enc)

/-- ████ THE STATEMENT ████ -/
theorem proved : Rows.FnHexDigitRunsAscendByOneSaid :=
  over
end Go.Proofs.Qxb6619563a.fnHexDigitRunsAscendByOne
