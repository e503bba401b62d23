/-
  THE PROOF OF 'Rows.FnUnreservedCountsSixtyFiveBytesSaid' (the frame: proof-skeleton.mjs; the walk and the plain law: by the prover of this seat).
-/
import Derived.Test.Qxb6618762aRows
import Derived.WalkKit
import Derived.ProofKit
import Derived.OpenShut
import Derived.ShutString
namespace Go.Proofs.Qxb6618762a.fnUnreservedCountsSixtyFiveBytes
open Go.ChangeShapes Go.WideShapes Go.ChangeAt Go.RowKit
open Go.ChangeMaps (open_string shut_string)
set_option linter.unusedVariables false      -- a walk need not use every 'w<i>' (that an integer argument fits its kind)

theorem own : ownKnob Try.prog.godebug = none := by kernel_rfl

/-! ### THE PLAIN LAW -/
def alnB (c : Int) : Bool := decide (97 ≤ c ∧ c ≤ 122 ∨ 65 ≤ c ∧ c ≤ 90 ∨ 48 ≤ c ∧ c ≤ 57)
def unrB (c : Int) : Bool := decide (97 ≤ c ∧ c ≤ 122 ∨ 65 ≤ c ∧ c ≤ 90 ∨ 48 ≤ c ∧ c ≤ 57 ∨ c = 45 ∨ c = 95 ∨ c = 126)
def cntA : Nat → Nat
  | 0 => 0
  | k + 1 => cntA k + if alnB k then 1 else 0
def cntU : Nat → Nat
  | 0 => 0
  | k + 1 => cntU k + if unrB k then 1 else 0
theorem cntA_le (k : Nat) : cntA k ≤ k := by
  induction k with
  | zero => simp [cntA]
  | succ k ih => unfold cntA; split <;> omega
theorem cntU_le (k : Nat) : cntU k ≤ k := by
  induction k with
  | zero => simp [cntU]
  | succ k ih => unfold cntU; split <;> omega
theorem cntA_t {k : Nat} (h : alnB k = true) : cntA (k + 1) = cntA k + 1 := by show cntA k + _ = _; rw [if_pos h]
theorem cntA_f {k : Nat} (h : alnB k = false) : cntA (k + 1) = cntA k := by show cntA k + _ = _; simp [h]
theorem cntU_t {k : Nat} (h : unrB k = true) : cntU (k + 1) = cntU k + 1 := by show cntU k + _ = _; rw [if_pos h]
theorem cntU_f {k : Nat} (h : unrB k = false) : cntU (k + 1) = cntU k := by show cntU k + _ = _; simp [h]
theorem cntA_256 : cntA 256 = 62 := by decide +kernel
theorem cntU_256 : cntU 256 = 65 := by decide +kernel
theorem ret_bool {a b : Bool} (h : a = b) : Ending.returned (.bool a) = .returned (.bool b) := by rw [h]

/-! ### STEP 1: THE WALKS -/
set_option maxHeartbeats 400000 in
theorem alnum_any (c : Int) (w : World) :
    Calls Try.prog 17 #[.int .u8 c] w fun e w' => e = .returned (.bool (alnB c)) ∧ w' = w := by
  go_enter Try.func17, Try.ntmps17
  go_wp2
  all_goals
    go_ret
    exact ⟨ret_bool (by rw [Bool.eq_iff_iff]; simp [alnB]; omega), rfl⟩
set_option maxHeartbeats 400000 in
theorem unres_any (c : Int) (w : World) :
    Calls Try.prog 16 #[.int .u8 c] w fun e w' => e = .returned (.bool (unrB c)) ∧ w' = w := by
  by_cases h : alnB c = true
  · go_enter Try.func16, Try.ntmps16
    go_wp2_with (go_at_call 17; refine (alnum_any _ _).mono ?_; rintro e w' ⟨rfl, rfl⟩)
    all_goals
      go_ret
      exact ⟨ret_bool (by rw [Bool.eq_iff_iff]; simp [alnB, unrB] at h ⊢; omega), rfl⟩
  · have h' : alnB c = false := by simpa using h
    clear h
    go_enter Try.func16, Try.ntmps16
    go_wp2_with (go_at_call 17; refine (alnum_any _ _).mono ?_; rintro e w' ⟨rfl, rfl⟩)
    all_goals
      go_ret
      exact ⟨ret_bool (by rw [Bool.eq_iff_iff]; simp [alnB, unrB] at h' ⊢; omega), rfl⟩
theorem zzunres_any (c : Int) (w : World) :
    Calls Try.prog 12 #[.int .u8 c] w fun e w' => e = .returned (.bool (unrB c)) ∧ w' = w := by
  go_enter Try.func12, Try.ntmps12
  go_wp2_with (go_at_call 16; refine (unres_any _ _).mono ?_; rintro e w' ⟨rfl, rfl⟩)
  go_ret
  exact ⟨rfl, rfl⟩
theorem zzalnum_any (c : Int) (w : World) :
    Calls Try.prog 13 #[.int .u8 c] w fun e w' => e = .returned (.bool (alnB c)) ∧ w' = w := by
  go_enter Try.func13, Try.ntmps13
  go_wp2_with (go_at_call 17; refine (alnum_any _ _).mono ?_; rintro e w' ⟨rfl, rfl⟩)
  go_ret
  exact ⟨rfl, rfl⟩

set_option maxRecDepth 100000 in
set_option maxHeartbeats 1000000 in
theorem walk  (w : World) :
    Calls Try.prog 5 #[] w fun e w' => e = .returned (.bool true) ∧ Grown w w' := by
  go_enter Try.func5, Try.ntmps5
  go_wp2
  go_loop [1, 2, 3] (fun u a i => ∃ k : Nat, k ≤ 256 ∧ i = .int .i64 k ∧ u = .int .i64 (cntU k) ∧ a = .int .i64 (cntA k)) (fun _ _ i => 256 - (intOf i).toNat)
  case atStart => exact ⟨0, Nat.zero_le _, rfl, rfl, rfl⟩
  case round =>
    obtain ⟨k, hk, rfl, rfl, rfl⟩ := hrel
    have ha := cntA_le k
    have hu := cntU_le k
    by_cases hlt : k < 256
    · by_cases h1 : alnB k = true
      · have h2 : unrB k = true := by simp [alnB, unrB] at h1 ⊢; omega
        have h3 : (k : Int) < 128 := by simp [alnB] at h1; omega
        go_wp2_with (first | (go_at_call 12; refine (zzunres_any _ _).mono ?_; rintro e w' ⟨rfl, rfl⟩) | (go_at_call 13; refine (zzalnum_any _ _).mono ?_; rintro e w' ⟨rfl, rfl⟩))
        go_round
        case rel => exact ⟨k + 1, by omega, by go_num, by rw [cntU_t h2]; go_num, by rw [cntA_t h1]; go_num⟩
        case measure => simp [intOf]; omega
      · have h1' : alnB k = false := by simpa using h1
        clear h1
        by_cases h2 : unrB k = true
        · have h3 : (k : Int) < 128 := by simp [alnB, unrB] at h1' h2; omega
          go_wp2_with (first | (go_at_call 12; refine (zzunres_any _ _).mono ?_; rintro e w' ⟨rfl, rfl⟩) | (go_at_call 13; refine (zzalnum_any _ _).mono ?_; rintro e w' ⟨rfl, rfl⟩))
          go_round
          case rel => exact ⟨k + 1, by omega, by go_num, by rw [cntU_t h2]; go_num, by rw [cntA_f h1']⟩
          case measure => simp [intOf]; omega
        · have h2' : unrB k = false := by simpa using h2
          clear h2
          go_wp2_with (first | (go_at_call 12; refine (zzunres_any _ _).mono ?_; rintro e w' ⟨rfl, rfl⟩) | (go_at_call 13; refine (zzalnum_any _ _).mono ?_; rintro e w' ⟨rfl, rfl⟩))
          go_round
          case rel => exact ⟨k + 1, by omega, by go_num, by rw [cntU_f h2'], by rw [cntA_f h1']⟩
          case measure => simp [intOf]; omega
    · obtain rfl : k = 256 := by omega
      rw [cntA_256, cntU_256]
      have hdot : unrB 46 = false := by decide
      clear ha hu
      go_wp2_with (first | (go_at_call 12; refine (zzunres_any _ _).mono ?_; rintro e w' ⟨rfl, rfl⟩))
      go_ret
      exact ⟨rfl, by repeat (first | exact Grown.refl _ | apply Grown.drew | apply Grown.alloc)⟩

/-! ### THE ROW's STEP: WRITTEN OUT: LEAVE IT -/
set_option maxRecDepth 100000 in
theorem lifted (os : Os) (started : os.Started) (H : Type) (enc : TypeId × Value → H) :
    ReturnsInHanded {} Try.checked os 5 .any (Rows.fnUnreservedCountsSixtyFiveBytesSpec.pre6 enc Try.prog Try.f5 Rows.fnUnreservedCountsSixtyFiveBytesRow.domain false) (Rows.fnUnreservedCountsSixtyFiveBytesSpec.post enc Try.prog Try.f5 false true false false) := by
  refine returnsInHanded_of_change (C := Try.checked) own started (by kernel_rfl) Try.func5
    (ChangeSpec.witness6 (enc := enc) (C := Try.checked) false ⟨#[], #[], []⟩ 8 (by kernel_rfl) (by kernel_rfl) (by kernel_rfl) (by kernel_rfl)) ?_
  intro W base args ds gs before hval0 hW hcnd _
  have hval : ∀ (j : Nat) t v, Try.f5.params[j]? = some t → args[j]? = some v → Value.okWide Try.prog W .any base t v := hval0
  have hW' := hW
  obtain ⟨p, q, hA0, hV, rfl, hfz, hnd⟩ := hW
  have hA : DataW.TrodAll enc Try.prog W 0 (fun _ => true) true Try.f5.params.toList args.toList ds p := hA0
  rw [Try.params5] at hA hval
  obtain ⟨rfl, rfl, rfl⟩ := trodAll_none hA
  obtain ⟨rfl, rfl⟩ := trodVars_none hV
  clear hA0 hval0
  simp only [List.append_nil] at hW'
  refine (walk  W).mono fun e W' ⟨he, hg⟩ => ?_
  subst he
  exact ⟨_, rfl, post_of_same (pa := []) (pv := []) hW' (fun _ _ _ => (trodAll_cons_mk (shut_bool Try.underlying4 _) trodAll_mk0)) (fun sp _ => rfl) (fun _ _ => rfl) rfl
    (hg.frame _) hg.2.1 (ok_one (by kernel_rfl) rfl (okWide_bool_mk Try.underlying4 _))⟩

theorem over : Rows.fnUnreservedCountsSixtyFiveBytesRow.holds Try.pinned (OpenSpec.ofChange Rows.fnUnreservedCountsSixtyFiveBytesSpec) :=
  OpenClaim.holds_of_wide 5 Try.f5 rfl rfl rfl rfl rfl rfl rfl ⟨rfl, rfl, rfl, rfl, rfl⟩ rfl rfl rfl rfl rfl (by kernel_rfl) Try.func5 (by kernel_rfl)
    (of_decide_eq_true (by kernel_rfl)) (by unfold Func.isWrapper; first | (rw [if_pos (by decide +kernel)]; kernel_rfl) | (rw [if_neg (by decide +kernel)]; exact ⟨rfl, rfl⟩))
    (fun os started H enc _ => lifted os started H enc)

/-- ████ THE STATEMENT ████ -/
theorem proved : Rows.FnUnreservedCountsSixtyFiveBytesSaid :=
  over
end Go.Proofs.Qxb6618762a.fnUnreservedCountsSixtyFiveBytes
