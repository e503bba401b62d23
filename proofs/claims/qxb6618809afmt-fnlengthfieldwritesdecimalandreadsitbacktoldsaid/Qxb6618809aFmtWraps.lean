/-
  THE WALKS OF ZZlengthFieldParse AND ZZlengthFieldSame: by the prover of this seat.
-/
import Derived.Test.Qxb6618809aFmtErr
namespace Go.Proofs.Qxb6618809aFmt.Wraps
open Go.RowKit Go.Extern.Stop Go.Stop Go.Extern
open Go.Proofs.Qxb6618809aFmt.Field Go.Proofs.Qxb6618809aFmt.Err
set_option linter.unusedVariables false

set_option maxRecDepth 100000 in
set_option maxHeartbeats 1000000 in
theorem zzparse_ok (n start : Int) (h0 : 0 ≤ n) (h1 : n ≤ 9223372036854775807) (key v : ByteArray) (hv : v.data.toList = Lib.itoa n) (w : World) :
    Calls Tryf.prog 7 #[.string key, .string v, .int .i64 start] w fun e w' => e = .returned (.tuple #[.int .i64 n, .bool false]) ∧ Below w.heap.size w w' := by
  go_enter Tryf.func7, Tryf.ntmps7
  go_upto_region 1 with fail
  refine wp_entry start 2 10 11 8 rfl rfl rfl rfl rfl rfl rfl rfl rfl rfl rfl rfl ?_
  go_wp2_with fail
  refine (len_any key _).mono ?_
  rintro e w1 ⟨rfl, hb1, hc1, hc2, hc3, hsz⟩
  rw [World.size_alloc] at hb1 hc1 hc2 hc3 hsz
  rw [World.size_alloc]
  have hE := entry_cell hb1
  have hfz : w1.frozen? ⟨w.heap.size, 8, none⟩ = false := by
    rw [hb1.frozen (p := ⟨w.heap.size, 8, none⟩) (by simp)]; simp
  have hB : Below w.heap.size w w1 := ((Below.refl _ _).alloc (Nat.le_refl _) _).trans (hb1.mono (by omega))
  have hf := field2 key (w.heap.size + 1)
  go_wp2_with fail
  refine (parse_ok n h0 h1 v hv w.heap.size w.heap.size (w.heap.size + 1) (w.heap.size + 1 + 1) _ _ (Nat.le_refl _) (by omega) hE hfz (by omega) hc2).mono ?_
  rintro e w2 ⟨rfl, hc, hb2⟩
  go_wp2
  go_quiet (fail)
  go_wp2
  go_ret2
  exact ⟨rfl, below_drewN (hB.trans hb2) _⟩

set_option maxRecDepth 100000 in
set_option maxHeartbeats 1000000 in
theorem zzparse_neg (F : Interp) (n start : Int) (h0 : -9223372036854775808 ≤ n) (h1 : n < 0) (key v : ByteArray) (hv : v.data.toList = Lib.itoa n) (w : World) (hF : F.answers w.tape) :
    Calls Tryf.prog 7 #[.string key, .string v, .int .i64 start] w fun e w' => e = .returned (.tuple #[.int .i64 start, .bool true]) ∧ Below w.heap.size w w' := by
  go_enter Tryf.func7, Tryf.ntmps7
  go_upto_region 1 with fail
  refine wp_entry start 2 10 11 8 rfl rfl rfl rfl rfl rfl rfl rfl rfl rfl rfl rfl ?_
  go_wp2_with fail
  refine (len_any key _).mono ?_
  rintro e w1 ⟨rfl, hb1, hc1, hc2, hc3, hsz⟩
  rw [World.size_alloc] at hb1 hc1 hc2 hc3 hsz
  rw [World.size_alloc]
  have hE := entry_cell hb1
  have hB : Below w.heap.size w w1 := ((Below.refl _ _).alloc (Nat.le_refl _) _).trans (hb1.mono (by omega))
  have hF1 : F.answers w1.tape := by rw [hB.tape]; exact hF
  have hf := field2 key (w.heap.size + 1)
  go_wp2_with fail
  refine (parse_neg F n h0 h1 key v hv w.heap.size (w.heap.size + 1) (w.heap.size + 1 + 1) _ hF1 (by omega) hc1).mono ?_
  rintro e w2 ⟨a, rfl, hb2⟩
  have hE2 : w2.cell? ⟨w.heap.size, 8, none⟩ = some (.int .i64 start) := by
    rw [hb2.cell (p := ⟨w.heap.size, 8, none⟩) (by simp; omega)]; exact hE
  go_wp2
  go_quiet (fail)
  go_wp2
  go_ret2
  exact ⟨rfl, below_drewN (hB.trans (hb2.mono hB.size)) _⟩

set_option maxRecDepth 100000 in
set_option maxHeartbeats 1000000 in
theorem zzsame_any (key : ByteArray) (a b : Int) (w : World) :
    Calls Tryf.prog 9 #[.string key, .int .i64 a, .int .i64 b] w fun e w' => e = .returned (.bool (a == b)) ∧ Below w.heap.size w w' := by
  go_enter Tryf.func9, Tryf.ntmps9
  go_upto_region 1 with fail
  refine wp_entry a 1 9 10 7 rfl rfl rfl rfl rfl rfl rfl rfl rfl rfl rfl rfl ?_
  go_upto_region 2 with fail
  refine wp_entry b 2 11 12 8 rfl rfl rfl rfl rfl rfl rfl rfl rfl rfl rfl rfl ?_
  go_wp2_with fail
  refine (len_any key _).mono ?_
  rintro e w1 ⟨rfl, hb1, hc1, hc2, hc3, hsz⟩
  rw [World.size_alloc, World.size_alloc] at hb1 hc1 hc2 hc3 hsz
  rw [World.size_alloc, World.size_alloc]
  have hE2 : w1.cell? ⟨w.heap.size + 1, 8, none⟩ = some (.int .i64 b) := by
    rw [hb1.cell (p := ⟨w.heap.size + 1, 8, none⟩) (by simp)]
    exact (World.cell?_alloc_at _ _ _ _ (by simp)).trans (entry_at b)
  have hE1 : w1.cell? ⟨w.heap.size, 8, none⟩ = some (.int .i64 a) := by
    rw [hb1.cell (p := ⟨w.heap.size, 8, none⟩) (by simp; omega), World.cell?_alloc_past _ _ _ (by simp)]
    exact (World.cell?_alloc_new _ _ _ _).trans (entry_at a)
  have hB : Below w.heap.size w w1 := (((Below.refl _ _).alloc (Nat.le_refl _) _).alloc (by simp) _).trans (hb1.mono (by omega))
  have hf := field3 key (w.heap.size + 1 + 1)
  go_wp2_with fail
  refine (eq_any a b w.heap.size (w.heap.size + 1) (w.heap.size + 1 + 1 + 1 + 1 + 1) _ hE1 hE2 hc3).mono ?_
  rintro e w2 ⟨rfl, hb2⟩
  go_wp2
  go_ret
  exact ⟨rfl, hB.trans (hb2.mono hB.size)⟩
end Go.Proofs.Qxb6618809aFmt.Wraps
