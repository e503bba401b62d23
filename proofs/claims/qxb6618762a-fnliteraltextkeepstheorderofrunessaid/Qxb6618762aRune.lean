/-
  THE WALK OF unicode/utf8.AppendRune (func 18) AND appendRuneNonASCII (func 20) OVER THIS SEAT's PROGRAM, onto a row of bytes that the call owns.
  Turned to this program from the library's Derived/Shelf/Utf8/AppendRunePlain.lean.
-/
import Derived.Test.Qxb6618762aRows
import Derived.WalkKit
import Derived.OwnWalk
import Derived.WalkLawsBesides
import Derived.Lib.RuneBytes
namespace Go.Proofs.Qxb6618762a.Rune
open Go.RowKit
set_option linter.unusedVariables false

theorem info5 : (Try.prog.info? 5).map (fun i => (i.zero, i.size, i.bytes)) = some (some (.int .u8 0), 1, 1) := by kernel_rfl

set_option maxHeartbeats 4000000 in
set_option maxRecDepth 100000 in
theorem non_two (B : Nat) (v : Value) (n : Nat) (xs : List Value) (r : Int) (h0 : 128 ≤ r) (h1 : r ≤ 2047) (w : World) (hown : w.ownsRow B 5 1 v n xs) (hlen : n + 4 ≤ 140737488355328) (hBw : B ≤ w.heap.size) :
    Calls Try.prog 20 #[v, .int .i32 r] w fun e w' => ∃ v', e = .returned v' ∧ w'.ownsRow B 5 1 v' (n + 2) (xs ++ [.int .u8 (192 + r / 64), .int .u8 (128 + r % 64)]) ∧ ∃ o, (w.alloc o).grownBy w' v.ownBlock := by
  obtain ⟨i0, hi, hz0, hz1, hz2⟩ := info_parts info5
  go_enter Try.func20, Try.ntmps20
  go_wp2_with (at_builtin; refine wpList_append_own _ rfl _ _ 36 rfl B 5 i0 (.int .u8 0) 1 1 Try.underlying36 hi hz0 hz1 hz2 rfl (by decide) _ _ _ rfl (hown.alloc _) ⟨w.heap.size, 0, none⟩ 2 2 [.int .u8 (192 + r / 64), .int .u8 (128 + r % 64)] rfl rfl ?c1 ?c2 ?c3 ?c4 ?c5 ?_)
  all_goals first
    | (intro v' w2 hown' hgrow _; go_wp2; go_ret; exact ⟨_, rfl, hown', _, hgrow⟩)
    | (unfold maxLen; omega)
    | omega
    | (simp; omega)
    | exact ⟨rfl, rfl⟩
    | rfl
    | (intro u hu; simp at hu; rcases hu with rfl | rfl <;> rfl)
    | (intro j u hj
       match j, hj with
       | 0, hj => simp at hj; subst hj; simp [Addr.add]
       | 1, hj => simp at hj; subst hj; simp [Addr.add]
       | (j + 2), hj => simp at hj)

set_option maxHeartbeats 4000000 in
set_option maxRecDepth 100000 in
theorem non_three_lo (B : Nat) (v : Value) (n : Nat) (xs : List Value) (r : Int) (h0 : 2048 ≤ r) (h1 : r < 55296) (w : World) (hown : w.ownsRow B 5 1 v n xs) (hlen : n + 4 ≤ 140737488355328) (hBw : B ≤ w.heap.size) :
    Calls Try.prog 20 #[v, .int .i32 r] w fun e w' => ∃ v', e = .returned v' ∧ w'.ownsRow B 5 1 v' (n + 3) (xs ++ [.int .u8 (224 + r / 4096), .int .u8 (128 + r / 64 % 64), .int .u8 (128 + r % 64)]) ∧ ∃ o, (w.alloc o).grownBy w' v.ownBlock := by
  obtain ⟨i0, hi, hz0, hz1, hz2⟩ := info_parts info5
  go_enter Try.func20, Try.ntmps20
  go_wp2_with (at_builtin; refine wpList_append_own _ rfl _ _ 36 rfl B 5 i0 (.int .u8 0) 1 1 Try.underlying36 hi hz0 hz1 hz2 rfl (by decide) _ _ _ rfl (hown.alloc _) ⟨w.heap.size, 0, none⟩ 3 3 [.int .u8 (224 + r / 4096), .int .u8 (128 + r / 64 % 64), .int .u8 (128 + r % 64)] rfl rfl ?c1 ?c2 ?c3 ?c4 ?c5 ?_)
  all_goals first
    | (intro v' w2 hown' hgrow _; go_wp2; go_ret; exact ⟨_, rfl, hown', _, hgrow⟩)
    | (unfold maxLen; omega)
    | omega
    | (simp; omega)
    | exact ⟨rfl, rfl, rfl⟩
    | rfl
    | (intro u hu; simp at hu; rcases hu with rfl | rfl | rfl <;> rfl)
    | (intro j u hj
       match j, hj with
       | 0, hj => simp at hj; subst hj; simp [Addr.add]
       | 1, hj => simp at hj; subst hj; simp [Addr.add]
       | 2, hj => simp at hj; subst hj; simp [Addr.add]
       | (j + 3), hj => simp at hj)

set_option maxHeartbeats 4000000 in
set_option maxRecDepth 100000 in
theorem non_three_hi (B : Nat) (v : Value) (n : Nat) (xs : List Value) (r : Int) (h0 : 57343 < r) (h1 : r ≤ 65535) (w : World) (hown : w.ownsRow B 5 1 v n xs) (hlen : n + 4 ≤ 140737488355328) (hBw : B ≤ w.heap.size) :
    Calls Try.prog 20 #[v, .int .i32 r] w fun e w' => ∃ v', e = .returned v' ∧ w'.ownsRow B 5 1 v' (n + 3) (xs ++ [.int .u8 (224 + r / 4096), .int .u8 (128 + r / 64 % 64), .int .u8 (128 + r % 64)]) ∧ ∃ o, (w.alloc o).grownBy w' v.ownBlock := by
  obtain ⟨i0, hi, hz0, hz1, hz2⟩ := info_parts info5
  go_enter Try.func20, Try.ntmps20
  go_wp2_with (at_builtin; refine wpList_append_own _ rfl _ _ 36 rfl B 5 i0 (.int .u8 0) 1 1 Try.underlying36 hi hz0 hz1 hz2 rfl (by decide) _ _ _ rfl (hown.alloc _) ⟨w.heap.size, 0, none⟩ 3 3 [.int .u8 (224 + r / 4096), .int .u8 (128 + r / 64 % 64), .int .u8 (128 + r % 64)] rfl rfl ?c1 ?c2 ?c3 ?c4 ?c5 ?_)
  all_goals first
    | (intro v' w2 hown' hgrow _; go_wp2; go_ret; exact ⟨_, rfl, hown', _, hgrow⟩)
    | (unfold maxLen; omega)
    | omega
    | (simp; omega)
    | exact ⟨rfl, rfl, rfl⟩
    | rfl
    | (intro u hu; simp at hu; rcases hu with rfl | rfl | rfl <;> rfl)
    | (intro j u hj
       match j, hj with
       | 0, hj => simp at hj; subst hj; simp [Addr.add]
       | 1, hj => simp at hj; subst hj; simp [Addr.add]
       | 2, hj => simp at hj; subst hj; simp [Addr.add]
       | (j + 3), hj => simp at hj)

set_option maxHeartbeats 4000000 in
set_option maxRecDepth 100000 in
theorem non_four (B : Nat) (v : Value) (n : Nat) (xs : List Value) (r : Int) (h0 : 65536 ≤ r) (h1 : r ≤ 1114111) (w : World) (hown : w.ownsRow B 5 1 v n xs) (hlen : n + 4 ≤ 140737488355328) (hBw : B ≤ w.heap.size) :
    Calls Try.prog 20 #[v, .int .i32 r] w fun e w' => ∃ v', e = .returned v' ∧ w'.ownsRow B 5 1 v' (n + 4) (xs ++ [.int .u8 (240 + r / 262144), .int .u8 (128 + r / 4096 % 64), .int .u8 (128 + r / 64 % 64), .int .u8 (128 + r % 64)]) ∧ ∃ o, (w.alloc o).grownBy w' v.ownBlock := by
  obtain ⟨i0, hi, hz0, hz1, hz2⟩ := info_parts info5
  go_enter Try.func20, Try.ntmps20
  go_wp2_with (at_builtin; refine wpList_append_own _ rfl _ _ 36 rfl B 5 i0 (.int .u8 0) 1 1 Try.underlying36 hi hz0 hz1 hz2 rfl (by decide) _ _ _ rfl (hown.alloc _) ⟨w.heap.size, 0, none⟩ 4 4 [.int .u8 (240 + r / 262144), .int .u8 (128 + r / 4096 % 64), .int .u8 (128 + r / 64 % 64), .int .u8 (128 + r % 64)] rfl rfl ?c1 ?c2 ?c3 ?c4 ?c5 ?_)
  all_goals first
    | (intro v' w2 hown' hgrow _; go_wp2; go_ret; exact ⟨_, rfl, hown', _, hgrow⟩)
    | (unfold maxLen; omega)
    | omega
    | (simp; omega)
    | exact ⟨rfl, rfl, rfl, rfl⟩
    | rfl
    | (intro u hu; simp at hu; rcases hu with rfl | rfl | rfl | rfl <;> rfl)
    | (intro j u hj
       match j, hj with
       | 0, hj => simp at hj; subst hj; simp [Addr.add]
       | 1, hj => simp at hj; subst hj; simp [Addr.add]
       | 2, hj => simp at hj; subst hj; simp [Addr.add]
       | 3, hj => simp at hj; subst hj; simp [Addr.add]
       | (j + 4), hj => simp at hj)

set_option maxHeartbeats 4000000 in
set_option maxRecDepth 100000 in
theorem non_neg (B : Nat) (v : Value) (n : Nat) (xs : List Value) (r : Int) (h0 : -2147483648 ≤ r) (h1 : r < 0) (w : World) (hown : w.ownsRow B 5 1 v n xs) (hlen : n + 4 ≤ 140737488355328) (hBw : B ≤ w.heap.size) :
    Calls Try.prog 20 #[v, .int .i32 r] w fun e w' => ∃ v', e = .returned v' ∧ w'.ownsRow B 5 1 v' (n + 3) (xs ++ [.int .u8 239, .int .u8 191, .int .u8 189]) ∧ ∃ o, (w.alloc o).grownBy w' v.ownBlock := by
  obtain ⟨i0, hi, hz0, hz1, hz2⟩ := info_parts info5
  go_enter Try.func20, Try.ntmps20
  go_wp2_with (at_builtin; refine wpList_append_own _ rfl _ _ 36 rfl B 5 i0 (.int .u8 0) 1 1 Try.underlying36 hi hz0 hz1 hz2 rfl (by decide) _ _ _ rfl (hown.alloc _) ⟨w.heap.size, 0, none⟩ 3 3 [.int .u8 239, .int .u8 191, .int .u8 189] rfl rfl ?c1 ?c2 ?c3 ?c4 ?c5 ?_)
  all_goals first
    | (intro v' w2 hown' hgrow _; go_wp2; go_ret; exact ⟨_, rfl, hown', _, hgrow⟩)
    | (unfold maxLen; omega)
    | omega
    | (simp; omega)
    | exact ⟨rfl, rfl, rfl⟩
    | rfl
    | (intro u hu; simp at hu; rcases hu with rfl | rfl | rfl <;> rfl)
    | (intro j u hj
       match j, hj with
       | 0, hj => simp at hj; subst hj; simp [Addr.add]
       | 1, hj => simp at hj; subst hj; simp [Addr.add]
       | 2, hj => simp at hj; subst hj; simp [Addr.add]
       | (j + 3), hj => simp at hj)

set_option maxHeartbeats 4000000 in
set_option maxRecDepth 100000 in
theorem non_sur (B : Nat) (v : Value) (n : Nat) (xs : List Value) (r : Int) (h0 : 55296 ≤ r) (h1 : r ≤ 57343) (w : World) (hown : w.ownsRow B 5 1 v n xs) (hlen : n + 4 ≤ 140737488355328) (hBw : B ≤ w.heap.size) :
    Calls Try.prog 20 #[v, .int .i32 r] w fun e w' => ∃ v', e = .returned v' ∧ w'.ownsRow B 5 1 v' (n + 3) (xs ++ [.int .u8 239, .int .u8 191, .int .u8 189]) ∧ ∃ o, (w.alloc o).grownBy w' v.ownBlock := by
  obtain ⟨i0, hi, hz0, hz1, hz2⟩ := info_parts info5
  go_enter Try.func20, Try.ntmps20
  go_wp2_with (at_builtin; refine wpList_append_own _ rfl _ _ 36 rfl B 5 i0 (.int .u8 0) 1 1 Try.underlying36 hi hz0 hz1 hz2 rfl (by decide) _ _ _ rfl (hown.alloc _) ⟨w.heap.size, 0, none⟩ 3 3 [.int .u8 239, .int .u8 191, .int .u8 189] rfl rfl ?c1 ?c2 ?c3 ?c4 ?c5 ?_)
  all_goals first
    | (intro v' w2 hown' hgrow _; go_wp2; go_ret; exact ⟨_, rfl, hown', _, hgrow⟩)
    | (unfold maxLen; omega)
    | omega
    | (simp; omega)
    | exact ⟨rfl, rfl, rfl⟩
    | rfl
    | (intro u hu; simp at hu; rcases hu with rfl | rfl | rfl <;> rfl)
    | (intro j u hj
       match j, hj with
       | 0, hj => simp at hj; subst hj; simp [Addr.add]
       | 1, hj => simp at hj; subst hj; simp [Addr.add]
       | 2, hj => simp at hj; subst hj; simp [Addr.add]
       | (j + 3), hj => simp at hj)

set_option maxHeartbeats 4000000 in
set_option maxRecDepth 100000 in
theorem non_big (B : Nat) (v : Value) (n : Nat) (xs : List Value) (r : Int) (h0 : 1114111 < r) (h1 : r ≤ 2147483647) (w : World) (hown : w.ownsRow B 5 1 v n xs) (hlen : n + 4 ≤ 140737488355328) (hBw : B ≤ w.heap.size) :
    Calls Try.prog 20 #[v, .int .i32 r] w fun e w' => ∃ v', e = .returned v' ∧ w'.ownsRow B 5 1 v' (n + 3) (xs ++ [.int .u8 239, .int .u8 191, .int .u8 189]) ∧ ∃ o, (w.alloc o).grownBy w' v.ownBlock := by
  obtain ⟨i0, hi, hz0, hz1, hz2⟩ := info_parts info5
  go_enter Try.func20, Try.ntmps20
  go_wp2_with (at_builtin; refine wpList_append_own _ rfl _ _ 36 rfl B 5 i0 (.int .u8 0) 1 1 Try.underlying36 hi hz0 hz1 hz2 rfl (by decide) _ _ _ rfl (hown.alloc _) ⟨w.heap.size, 0, none⟩ 3 3 [.int .u8 239, .int .u8 191, .int .u8 189] rfl rfl ?c1 ?c2 ?c3 ?c4 ?c5 ?_)
  all_goals first
    | (intro v' w2 hown' hgrow _; go_wp2; go_ret; exact ⟨_, rfl, hown', _, hgrow⟩)
    | (unfold maxLen; omega)
    | omega
    | (simp; omega)
    | exact ⟨rfl, rfl, rfl⟩
    | rfl
    | (intro u hu; simp at hu; rcases hu with rfl | rfl | rfl <;> rfl)
    | (intro j u hj
       match j, hj with
       | 0, hj => simp at hj; subst hj; simp [Addr.add]
       | 1, hj => simp at hj; subst hj; simp [Addr.add]
       | 2, hj => simp at hj; subst hj; simp [Addr.add]
       | (j + 3), hj => simp at hj)

set_option maxHeartbeats 4000000 in
set_option maxRecDepth 100000 in
theorem app_ascii (B : Nat) (v : Value) (n : Nat) (xs : List Value) (r : Int) (h0 : 0 ≤ r) (h1 : r ≤ 127) (w : World) (hown : w.ownsRow B 5 1 v n xs) (hlen : n + 4 ≤ 140737488355328) (hBw : B ≤ w.heap.size) :
    Calls Try.prog 18 #[v, .int .i32 r] w fun e w' => ∃ v', e = .returned v' ∧ w'.ownsRow B 5 1 v' (n + 1) (xs ++ [.int .u8 r]) ∧ ∃ o, (w.alloc o).grownBy w' v.ownBlock := by
  obtain ⟨i0, hi, hz0, hz1, hz2⟩ := info_parts info5
  go_enter Try.func18, Try.ntmps18
  go_wp2_with (at_builtin; refine wpList_append_own _ rfl _ _ 36 rfl B 5 i0 (.int .u8 0) 1 1 Try.underlying36 hi hz0 hz1 hz2 rfl (by decide) _ _ _ rfl (hown.alloc _) ⟨w.heap.size, 0, none⟩ 1 1 [.int .u8 r] rfl rfl ?c1 ?c2 ?c3 ?c4 ?c5 ?_)
  all_goals first
    | (intro v' w2 hown' hgrow _; go_wp2; go_ret; exact ⟨_, rfl, hown', _, hgrow⟩)
    | (unfold maxLen; omega)
    | omega
    | (simp; omega)
    | exact ⟨rfl⟩
    | rfl
    | (intro u hu; simp at hu; rcases hu with rfl <;> rfl)
    | (intro j u hj
       match j, hj with
       | 0, hj => simp at hj; subst hj; simp [Addr.add]
       | (j + 1), hj => simp at hj)

theorem non_any (B : Nat) (v : Value) (n : Nat) (xs : List Value) (r : Int) (hr0 : -2147483648 ≤ r) (hr1 : r ≤ 2147483647) (hna : r < 0 ∨ 128 ≤ r) (w : World) (hown : w.ownsRow B 5 1 v n xs) (hlen : n + 4 ≤ 140737488355328) (hBw : B ≤ w.heap.size) :
    Calls Try.prog 20 #[v, .int .i32 r] w fun e w' => ∃ v', e = .returned v' ∧ w'.ownsRow B 5 1 v' (n + (Lib.runeCells r).length) (xs ++ Lib.runeCells r) ∧ ∃ o, (w.alloc o).grownBy w' v.ownBlock := by
  by_cases c0 : r < 0
  · rw [show Lib.runeCells r = [.int .u8 239, .int .u8 191, .int .u8 189] by simp [Lib.runeCells, Lib.encodeRuneZ_bad (Or.inl c0)]]
    exact non_neg B v n xs r hr0 c0 w hown hlen hBw
  by_cases c1 : r ≤ 2047
  · rw [show Lib.runeCells r = [.int .u8 (192 + r / 64), .int .u8 (128 + r % 64)] by simp [Lib.runeCells, Lib.encodeRuneZ_two (by omega) c1]]
    exact non_two B v n xs r (by omega) c1 w hown hlen hBw
  by_cases c2 : r < 55296
  · rw [show Lib.runeCells r = [.int .u8 (224 + r / 4096), .int .u8 (128 + r / 64 % 64), .int .u8 (128 + r % 64)] by simp [Lib.runeCells, Lib.encodeRuneZ_three (Or.inl ⟨by omega, c2⟩)]]
    exact non_three_lo B v n xs r (by omega) c2 w hown hlen hBw
  by_cases c3 : r ≤ 57343
  · rw [show Lib.runeCells r = [.int .u8 239, .int .u8 191, .int .u8 189] by simp [Lib.runeCells, Lib.encodeRuneZ_bad (Or.inr (Or.inl ⟨by omega, c3⟩))]]
    exact non_sur B v n xs r (by omega) c3 w hown hlen hBw
  by_cases c4 : r ≤ 65535
  · rw [show Lib.runeCells r = [.int .u8 (224 + r / 4096), .int .u8 (128 + r / 64 % 64), .int .u8 (128 + r % 64)] by simp [Lib.runeCells, Lib.encodeRuneZ_three (Or.inr ⟨by omega, c4⟩)]]
    exact non_three_hi B v n xs r (by omega) c4 w hown hlen hBw
  by_cases c5 : r ≤ 1114111
  · rw [show Lib.runeCells r = [.int .u8 (240 + r / 262144), .int .u8 (128 + r / 4096 % 64), .int .u8 (128 + r / 64 % 64), .int .u8 (128 + r % 64)] by simp [Lib.runeCells, Lib.encodeRuneZ_four (by omega) c5]]
    exact non_four B v n xs r (by omega) c5 w hown hlen hBw
  · rw [show Lib.runeCells r = [.int .u8 239, .int .u8 191, .int .u8 189] by simp [Lib.runeCells, Lib.encodeRuneZ_bad (r := r) (Or.inr (Or.inr (by omega)))]]
    exact non_big B v n xs r (by omega) hr1 w hown hlen hBw

set_option maxHeartbeats 4000000 in
set_option maxRecDepth 100000 in
theorem app_other (B : Nat) (v : Value) (n : Nat) (xs : List Value) (r : Int) (hr0 : -2147483648 ≤ r) (hr1 : r ≤ 2147483647) (hna : r < 0 ∨ 128 ≤ r) (w : World) (hown : w.ownsRow B 5 1 v n xs) (hlen : n + 4 ≤ 140737488355328) (hBw : B ≤ w.heap.size) :
    Calls Try.prog 18 #[v, .int .i32 r] w fun e w' => ∃ v', e = .returned v' ∧ w'.ownsRow B 5 1 v' (n + (Lib.runeCells r).length) (xs ++ Lib.runeCells r) ∧ ∃ o, (w.alloc o).grownBy w' v.ownBlock := by
  rcases hna with hna | hna
  all_goals
    go_enter Try.func18, Try.ntmps18
    go_wp2_with (go_at_call 20; refine (non_any B v n xs r hr0 hr1 (by omega) _ hown hlen hBw).mono ?_)
    rintro e w1 ⟨v', rfl, h1, o, h2⟩
    go_wp2
    go_ret
    exact ⟨_, rfl, h1, o, h2⟩

/-- AppendRune at every int32. -/
theorem app_any (B : Nat) (v : Value) (n : Nat) (xs : List Value) (r : Int) (hr0 : -2147483648 ≤ r) (hr1 : r ≤ 2147483647) (w : World) (hown : w.ownsRow B 5 1 v n xs) (hlen : n + 4 ≤ 140737488355328) (hBw : B ≤ w.heap.size) :
    Calls Try.prog 18 #[v, .int .i32 r] w fun e w' => ∃ v', e = .returned v' ∧ w'.ownsRow B 5 1 v' (n + (Lib.runeCells r).length) (xs ++ Lib.runeCells r) ∧ ∃ o, (w.alloc o).grownBy w' v.ownBlock := by
  by_cases c : 0 ≤ r ∧ r ≤ 127
  · rw [show Lib.runeCells r = [.int .u8 r] by simp [Lib.runeCells, Lib.encodeRuneZ_one c.1 c.2]]
    exact app_ascii B v n xs r c.1 c.2 w hown hlen hBw
  · exact app_other B v n xs r hr0 hr1 (by omega) w hown hlen hBw

end Go.Proofs.Qxb6618762a.Rune
