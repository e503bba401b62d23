/-
  THE WALKS OF hexDigit, ZZhexDigit, hexNibbleModel AND caseFlip, and the plain facts on one byte's bits: by the prover of this seat.
-/
import Derived.Test.Qxb6619563aRows
import Derived.WalkKit
import Derived.ProofKit
import Derived.OpenShut
import Derived.WalkLawsBesides
namespace Go.Proofs.Qxb6619563a.Hex
open Go.RowKit
set_option linter.unusedVariables false

def hv (c : Int) : Int := if 48 ≤ c ∧ c ≤ 57 then c - 48 else if 97 ≤ c ∧ c ≤ 102 then c - 87 else if 65 ≤ c ∧ c ≤ 70 then c - 55 else 0
def hk (c : Int) : Bool := decide ((48 ≤ c ∧ c ≤ 57) ∨ (97 ≤ c ∧ c ≤ 102) ∨ (65 ≤ c ∧ c ≤ 70))

theorem ret_two {a a' : Int} {b b' : Bool} (h : a = a') (k : b = b') : Ending.returned (.tuple #[.int .i64 a, .bool b]) = .returned (.tuple #[.int .i64 a', .bool b']) := by rw [h, k]

set_option maxHeartbeats 1000000 in
theorem hex_any (c : Int) (h0 : 0 ≤ c) (h1 : c ≤ 255) (w : World) :
    Calls Try.prog 8 #[.int .u8 c] w fun e w' => e = .returned (.tuple #[.int .i64 (hv c), .bool (hk c)]) ∧ w' = w := by
  rcases (show c < 48 ∨ (48 ≤ c ∧ c ≤ 57) ∨ (58 ≤ c ∧ c < 65) ∨ (65 ≤ c ∧ c ≤ 70) ∨ (70 < c ∧ c < 97) ∨ (97 ≤ c ∧ c ≤ 102) ∨ 102 < c by omega) with t | ⟨t, u⟩ | ⟨t, u⟩ | ⟨t, u⟩ | ⟨t, u⟩ | ⟨t, u⟩ | t
  all_goals
    go_enter Try.func8, Try.ntmps8
    go_wp2
    go_ret2
    refine ⟨?_, rfl⟩
    refine ret_two ?_ ?_
    · unfold hv; (repeat' split) <;> omega
    · rw [Bool.eq_iff_iff]; simp [hk]; omega
theorem zz_any (c : Int) (h0 : 0 ≤ c) (h1 : c ≤ 255) (w : World) :
    Calls Try.prog 5 #[.int .u8 c] w fun e w' => e = .returned (.tuple #[.int .i64 (hv c), .bool (hk c)]) ∧ w' = w := by
  go_enter Try.func5, Try.ntmps5
  go_wp2_with (go_at_call 8; refine (hex_any _ h0 h1 _).mono ?_; rintro e w' ⟨rfl, rfl⟩)
  go_ret2
  exact ⟨rfl, rfl⟩

/-! ### one byte's bits, by the kernel over all 256 -/
theorem or_fin : ∀ n : Fin 256, bits BinOp.or IntKind.u8 (n.val : Int) 32 = if (n.val : Int) / 32 % 2 = 1 then (n.val : Int) else (n.val : Int) + 32 := by decide +kernel
theorem xor_fin : ∀ n : Fin 256, bits BinOp.xor IntKind.u8 (n.val : Int) 32 = if (n.val : Int) / 32 % 2 = 1 then (n.val : Int) - 32 else (n.val : Int) + 32 := by decide +kernel
theorem and_fin : ∀ n : Fin 256, bits BinOp.and IntKind.u8 ((n.val : Int) / 64) 1 = (n.val : Int) / 64 % 2 := by decide +kernel
theorem or_byte {c : Int} (h0 : 0 ≤ c) (h1 : c ≤ 255) : bits BinOp.or IntKind.u8 c 32 = if c / 32 % 2 = 1 then c else c + 32 := by
  have := or_fin ⟨c.toNat, by omega⟩
  simpa [Int.toNat_of_nonneg h0] using this
theorem xor_byte {c : Int} (h0 : 0 ≤ c) (h1 : c ≤ 255) : bits BinOp.xor IntKind.u8 c 32 = if c / 32 % 2 = 1 then c - 32 else c + 32 := by
  have := xor_fin ⟨c.toNat, by omega⟩
  simpa [Int.toNat_of_nonneg h0] using this
theorem and_byte {c : Int} (h0 : 0 ≤ c) (h1 : c ≤ 255) : bits BinOp.and IntKind.u8 (c / 64) 1 = c / 64 % 2 := by
  have := and_fin ⟨c.toNat, by omega⟩
  simpa [Int.toNat_of_nonneg h0] using this

set_option maxHeartbeats 1000000 in
theorem nib_any (c : Int) (h0 : 0 ≤ c) (h1 : c ≤ 255) (w : World) :
    Calls Try.prog 7 #[.int .u8 c] w fun e w' => e = .returned (.tuple #[.int .i64 (hv c), .bool (hk c)]) ∧ w' = w := by
  have HO : Hid (bits BinOp.or IntKind.u8 c 32 = if c / 32 % 2 = 1 then c else c + 32) := or_byte h0 h1
  have HA : Hid (bits BinOp.and IntKind.u8 (c / 64) 1 = c / 64 % 2) := and_byte h0 h1
  go_enter Try.func7, Try.ntmps7
  go_wp2
  all_goals
    go_ret2
    have ho := HO.out
    have ha := HA.out
    refine ⟨ret_two ?_ ?_, rfl⟩
    · unfold hv
      first
        | (rw [ha]; unfold wrap64; split at ho <;> (repeat' split) <;> omega)
        | (split at ho <;> (repeat' split) <;> omega)
    · rw [Bool.eq_iff_iff]; simp [hk]; split at ho <;> omega

/-- caseFlip. -/
def fl (c : Int) : Int := if 65 ≤ c ∧ c ≤ 90 then c + 32 else if 97 ≤ c ∧ c ≤ 122 then c - 32 else c
theorem ret_int {k : IntKind} {a b : Int} (h : a = b) : Ending.returned (.int k a) = .returned (.int k b) := by rw [h]
set_option maxHeartbeats 1000000 in
theorem flip_any (c : Int) (h0 : 0 ≤ c) (h1 : c ≤ 255) (w : World) :
    Calls Try.prog 6 #[.int .u8 c] w fun e w' => e = .returned (.int .u8 (fl c)) ∧ w' = w := by
  have HO : Hid (bits BinOp.or IntKind.u8 c 32 = if c / 32 % 2 = 1 then c else c + 32) := or_byte h0 h1
  have HX : Hid (bits BinOp.xor IntKind.u8 c 32 = if c / 32 % 2 = 1 then c - 32 else c + 32) := xor_byte h0 h1
  go_enter Try.func6, Try.ntmps6
  go_wp2
  all_goals
    go_ret
    have ho := HO.out
    have hx := HX.out
    refine ⟨ret_int ?_, rfl⟩
    unfold fl
    first
      | (rw [hx]; split at ho <;> (repeat' split) <;> omega)
      | (split at ho <;> (repeat' split) <;> omega)
theorem fl_byte {c : Int} (h0 : 0 ≤ c) (h1 : c ≤ 255) : 0 ≤ fl c ∧ fl c ≤ 255 := by unfold fl; (repeat' split) <;> omega
theorem hv_fl (c : Int) : hv (fl c) = hv c := by unfold hv fl; (repeat' split) <;> omega
theorem hk_fl (c : Int) : hk (fl c) = hk c := by
  rw [Bool.eq_iff_iff]; simp only [hk, decide_eq_true_eq]; unfold fl; (repeat' split) <;> omega
end Go.Proofs.Qxb6619563a.Hex
