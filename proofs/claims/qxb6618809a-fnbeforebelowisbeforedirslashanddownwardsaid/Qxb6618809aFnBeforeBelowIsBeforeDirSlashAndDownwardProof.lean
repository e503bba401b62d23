/-
  THE PROOF OF 'Rows.FnBeforeBelowIsBeforeDirSlashAndDownwardSaid' (the frame: proof-skeleton.mjs; the walks and the plain laws: by the prover of this seat).
-/
import Derived.Test.Qxb6618809aRows
import Derived.WalkKit
import Derived.ProofKit
import Derived.OpenShut
import Derived.ShutString
import Derived.Test.Qxb6618809aBelow
namespace Go.Proofs.Qxb6618809a.fnBeforeBelowIsBeforeDirSlashAndDownward
open Go.ChangeShapes Go.WideShapes Go.ChangeAt Go.RowKit
open Go.ChangeMaps (open_string shut_string)
set_option linter.unusedVariables false      -- a walk need not use every 'w<i>' (that an integer argument fits its kind)

theorem own : ownKnob Try.prog.godebug = none := by kernel_rfl

/-! ### STEP 1: THE WALK -/
set_option maxHeartbeats 2000000 in
theorem walk_big (a0 a1 a2 : ByteArray) (w : World) (h0 : a0.size ≤ 9223372036854775807) (h1 : a1.size ≤ 9223372036854775807) (h2 : a2.size ≤ 9223372036854775807) (h : 262144 < a0.size ∨ 262144 < a1.size ∨ 262144 < a2.size) :
    Calls Try.prog 3 #[.string a0, .string a1, .string a2] w fun e w' => e = .returned (.bool true) ∧ Grown w w' := by
  rcases (show 1048576 < a0.size ∨ (a0.size ≤ 1048576 ∧ 1048576 < a1.size) ∨ (a0.size ≤ 1048576 ∧ a1.size ≤ 1048576 ∧ 1048576 < a0.size + a1.size) ∨ (a0.size + a1.size ≤ 1048576 ∧ 1048576 < a2.size) ∨ (a0.size + a1.size ≤ 1048576 ∧ a2.size ≤ 1048576 ∧ 1048576 < a0.size + a1.size + a2.size) ∨ (a0.size + a1.size + a2.size ≤ 1048576 ∧ 262144 < a0.size) ∨ (a0.size + a1.size + a2.size ≤ 1048576 ∧ a0.size ≤ 262144 ∧ 262144 < a1.size) ∨ (a0.size + a1.size + a2.size ≤ 1048576 ∧ a0.size ≤ 262144 ∧ a1.size ≤ 262144 ∧ 262144 < a2.size) by omega) with c | ⟨c1, c2⟩ | ⟨c1, c2, c3⟩ | ⟨c1, c2⟩ | ⟨c1, c2, c3⟩ | ⟨c1, c2⟩ | ⟨c1, c2, c3⟩ | ⟨c1, c2, c3, c4⟩
  all_goals
    clear h
    go_enter Try.func3, Try.ntmps3
    go_wp2
    go_ret
    exact ⟨rfl, Grown.refl _⟩

open Below in
set_option maxHeartbeats 4000000 in
theorem walk_small (p q d : ByteArray) (w : World) (h0 : p.size ≤ 262144) (h1 : q.size ≤ 262144) (h2 : d.size ≤ 262144) :
    Calls Try.prog 3 #[.string p, .string q, .string d] w fun e w' => e = .returned (.bool true) ∧ Grown w w' := by
  have hcat : (d ++ ByteArray.mk #[47]).toList = d.toList ++ [47] := by rw [toList_append, toList_slash]
  have hsl : (ByteArray.mk #[47]).size = 1 := rfl
  by_cases ho : Op.bytesLess q.toList p.toList = true
  · have hd : Op.bytesLess p.toList q.toList = false := less_asymm _ _ ho
    by_cases hA : Op.bytesLess q.toList (d.toList ++ [47]) = true
    · have hA' : bbB q d = true := hA
      by_cases hB : Op.bytesLess p.toList (d.toList ++ [47]) = true
      · have hB' : bbB p d = true := hB
        go_enter Try.func3, Try.ntmps3
        go_wp2_with (first | (go_at_call 6; refine (zz_any _ _ _ (by omega) (by omega)).mono ?_; rintro e w' ⟨rfl, rfl⟩) | (go_at_call 5; go_in))
        go_ret
        exact ⟨rfl, Grown.refl _⟩
      · have hB : Op.bytesLess p.toList (d.toList ++ [47]) = false := by simpa using hB
        have hB' : bbB p d = false := hB
        go_enter Try.func3, Try.ntmps3
        go_wp2_with (first | (go_at_call 6; refine (zz_any _ _ _ (by omega) (by omega)).mono ?_; rintro e w' ⟨rfl, rfl⟩) | (go_at_call 5; go_in))
        go_ret
        exact ⟨rfl, Grown.refl _⟩
    · have hA : Op.bytesLess q.toList (d.toList ++ [47]) = false := by simpa using hA
      have hA' : bbB q d = false := hA
      have hB : Op.bytesLess p.toList (d.toList ++ [47]) = false := by
        cases h : Op.bytesLess p.toList (d.toList ++ [47]) with
        | false => rfl
        | true => rw [less_down _ _ _ h hd] at hA; cases hA
      have hB' : bbB p d = false := hB
      go_enter Try.func3, Try.ntmps3
      go_wp2_with (first | (go_at_call 6; refine (zz_any _ _ _ (by omega) (by omega)).mono ?_; rintro e w' ⟨rfl, rfl⟩) | (go_at_call 5; go_in))
      go_ret
      exact ⟨rfl, Grown.refl _⟩
  · have hd : Op.bytesLess q.toList p.toList = false := by simpa using ho
    clear ho
    by_cases hA : Op.bytesLess p.toList (d.toList ++ [47]) = true
    · have hA' : bbB p d = true := hA
      by_cases hB : Op.bytesLess q.toList (d.toList ++ [47]) = true
      · have hB' : bbB q d = true := hB
        go_enter Try.func3, Try.ntmps3
        go_wp2_with (first | (go_at_call 6; refine (zz_any _ _ _ (by omega) (by omega)).mono ?_; rintro e w' ⟨rfl, rfl⟩) | (go_at_call 5; go_in))
        go_ret
        exact ⟨rfl, Grown.refl _⟩
      · have hB : Op.bytesLess q.toList (d.toList ++ [47]) = false := by simpa using hB
        have hB' : bbB q d = false := hB
        go_enter Try.func3, Try.ntmps3
        go_wp2_with (first | (go_at_call 6; refine (zz_any _ _ _ (by omega) (by omega)).mono ?_; rintro e w' ⟨rfl, rfl⟩) | (go_at_call 5; go_in))
        go_ret
        exact ⟨rfl, Grown.refl _⟩
    · have hA : Op.bytesLess p.toList (d.toList ++ [47]) = false := by simpa using hA
      have hA' : bbB p d = false := hA
      have hB : Op.bytesLess q.toList (d.toList ++ [47]) = false := by
        cases h : Op.bytesLess q.toList (d.toList ++ [47]) with
        | false => rfl
        | true => rw [less_down _ _ _ h hd] at hA; cases hA
      have hB' : bbB q d = false := hB
      go_enter Try.func3, Try.ntmps3
      go_wp2_with (first | (go_at_call 6; refine (zz_any _ _ _ (by omega) (by omega)).mono ?_; rintro e w' ⟨rfl, rfl⟩) | (go_at_call 5; go_in))
      go_ret
      exact ⟨rfl, Grown.refl _⟩

theorem walk (a0 : ByteArray) (a1 : ByteArray) (a2 : ByteArray) (w0 : a0.size ≤ maxLen) (w1 : a1.size ≤ maxLen) (w2 : a2.size ≤ maxLen) (w : World) :
    Calls Try.prog 3 #[.string a0, .string a1, .string a2] w fun e w' => e = .returned (.bool true) ∧ Grown w w' := by
  unfold maxLen at w0 w1 w2
  by_cases h : a0.size ≤ 262144 ∧ a1.size ≤ 262144 ∧ a2.size ≤ 262144
  · exact walk_small a0 a1 a2 w h.1 h.2.1 h.2.2
  · exact walk_big a0 a1 a2 w w0 w1 w2 (by omega)

/-! ### THE ROW's STEP: WRITTEN OUT: LEAVE IT -/
set_option maxRecDepth 100000 in
theorem lifted (os : Os) (started : os.Started) (H : Type) (enc : TypeId × Value → H) :
    ReturnsInHanded {} Try.checked os 3 .any (Rows.fnBeforeBelowIsBeforeDirSlashAndDownwardSpec.pre6 enc Try.prog Try.f3 Rows.fnBeforeBelowIsBeforeDirSlashAndDownwardRow.domain false) (Rows.fnBeforeBelowIsBeforeDirSlashAndDownwardSpec.post enc Try.prog Try.f3 false true false false) := by
  refine returnsInHanded_of_change (C := Try.checked) own started (by kernel_rfl) Try.func3
    (ChangeSpec.witness6 (enc := enc) (C := Try.checked) false ⟨#[], #[.string ByteArray.empty, .string ByteArray.empty, .string ByteArray.empty], []⟩ 8 (by kernel_rfl) (by kernel_rfl) (by kernel_rfl) (by kernel_rfl)) ?_
  intro W base args ds gs before hval0 hW hcnd _
  have hval : ∀ (j : Nat) t v, Try.f3.params[j]? = some t → args[j]? = some v → Value.okWide Try.prog W .any base t v := hval0
  have hW' := hW
  obtain ⟨p, q, hA0, hV, rfl, hfz, hnd⟩ := hW
  have hA : DataW.TrodAll enc Try.prog W 0 (fun _ => true) true Try.f3.params.toList args.toList ds p := hA0
  rw [Try.params3] at hA hval
  obtain ⟨v0, vs0, d0, ds0, p0, q0, hargs, rfl, rfl, h0, r0⟩ := trodAll_cons hA
  obtain ⟨v1, vs1, d1, ds1, p1, q1, rfl, rfl, rfl, h1, r1⟩ := trodAll_cons r0
  obtain ⟨v2, vs2, d2, ds2, p2, q2, rfl, rfl, rfl, h2, r2⟩ := trodAll_cons r1
  obtain ⟨rfl, rfl, rfl⟩ := trodAll_nil r2
  obtain rfl : args = #[v0, v1, v2] := by cases args; simp_all
  obtain ⟨rfl, rfl⟩ := trodVars_none hV
  obtain ⟨a0, rfl, rfl, rfl, w0⟩ := open_string Try.underlying9 (hval 0 9 v0 rfl rfl) h0
  obtain ⟨a1, rfl, rfl, rfl, w1⟩ := open_string Try.underlying9 (hval 1 9 v1 rfl rfl) h1
  obtain ⟨a2, rfl, rfl, rfl, w2⟩ := open_string Try.underlying9 (hval 2 9 v2 rfl rfl) h2
  clear hA0 hval0
  simp only [List.append_nil] at hW'
  refine (walk a0 a1 a2 w0 w1 w2 W).mono fun e W' ⟨he, hg⟩ => ?_
  subst he
  exact ⟨_, rfl, post_of_same (pa := []) (pv := []) hW' (fun _ _ _ => (trodAll_cons_mk (shut_bool Try.underlying4 _) trodAll_mk0)) (fun sp _ => (trodAll_cons_mk (shut_string Try.underlying9 w0) (trodAll_cons_mk (shut_string Try.underlying9 w1) (trodAll_cons_mk (shut_string Try.underlying9 w2) trodAll_mk0)))) (fun _ _ => rfl) rfl
    (hg.frame _) hg.2.1 (ok_one (by kernel_rfl) rfl (okWide_bool_mk Try.underlying4 _))⟩

theorem over : Rows.fnBeforeBelowIsBeforeDirSlashAndDownwardRow.holds Try.pinned (OpenSpec.ofChange Rows.fnBeforeBelowIsBeforeDirSlashAndDownwardSpec) :=
  OpenClaim.holds_of_wide 3 Try.f3 rfl rfl rfl rfl rfl rfl rfl ⟨rfl, rfl, rfl, rfl, rfl⟩ rfl rfl rfl rfl rfl (by kernel_rfl) Try.func3 (by kernel_rfl)
    (of_decide_eq_true (by kernel_rfl)) (by unfold Func.isWrapper; first | (rw [if_pos (by decide +kernel)]; kernel_rfl) | (rw [if_neg (by decide +kernel)]; exact ⟨rfl, rfl⟩))
    (fun os started H enc _ => lifted os started H enc)

/-- ████ THE STATEMENT ████ -/
theorem proved : Rows.FnBeforeBelowIsBeforeDirSlashAndDownwardSaid :=
  over
end Go.Proofs.Qxb6618809a.fnBeforeBelowIsBeforeDirSlashAndDownward
