/-
  THE WALKS OF lengthField, ITS CLOSURES AND THE EXPORTED WRAPPERS: by the prover of this seat.
-/
import Derived.Test.Qxb6618809aFmtRows
import Derived.Test.Qxb6618809aFmtShelf
import Derived.Test.Qxb6618809aFmtPlain
import Derived.WalkKit
import Derived.OwnWalk
import Derived.WalkLawsBesides
import Derived.WalkSpells
import Derived.Laws.IdiomStrings
import Derived.Laws.ResultCell
import Derived.Laws.EntriesVeiled
import Derived.Laws.Tables
import Derived.Deep.WholeRow
import Derived.Deep.Cut
import Derived.RegionTactic
import Derived.Deep.RegionHeld3
import Derived.Deep.QuietTactic
import Derived.BigQuiet
namespace Go.Proofs.Qxb6618809aFmt.Field
open Go.RowKit
set_option linter.unusedVariables false

set_option maxHeartbeats 2000000 in
theorem same_any (w : World) :
    Calls Tryf.prog 17 #[.func (.func 11) #[] #[]] w fun e w' => e = .returned (.func (.func 23) #[] #[.pointer (some ⟨w.heap.size, 0, none⟩)]) ∧ w' = w.alloc (.cells #[.func (.func 11) #[] #[]] 46) := by
  go_enter Tryf.func17, Tryf.ntmps17
  go_wp2
  go_ret
  exact ⟨rfl, rfl⟩

/-- The function value zzEntrySize. -/
def sizeFn : Value := .func (.func 11) #[] #[]
/-- What lengthField hands back: its closures' captured variables lie in the blocks N, N + 1 and N + 3. -/
def fieldV (key : ByteArray) (N : Nat) : Value :=
  .agg #[.string key, .func (.func 12) #[] #[.pointer (some ⟨N + 1, 0, none⟩)], .func (.func 14) #[] #[.pointer (some ⟨N, 0, none⟩), .pointer (some ⟨N + 1, 0, none⟩)], .func (.func 23) #[] #[.pointer (some ⟨N + 1 + 1 + 1, 0, none⟩)], .bool false, .string ⟨#[]⟩]
/-- .. and what those blocks hold. -/
def Caught (key : ByteArray) (N : Nat) (w : World) : Prop :=
  w.cell? ⟨N, 0, none⟩ = some (.string key) ∧ w.cell? ⟨N + 1, 0, none⟩ = some (.func (.func 11) #[] #[]) ∧ w.cell? ⟨N + 1 + 1 + 1, 0, none⟩ = some (.func (.func 11) #[] #[]) ∧ N + 3 < w.heap.size

set_option maxHeartbeats 1000000 in
theorem len_any (key : ByteArray) (w : World) :
    Calls Tryf.prog 10 #[.string key, .func (.func 11) #[] #[]] w fun e w' => e = .returned (fieldV key w.heap.size) ∧ Below w.heap.size w w' ∧ Caught key w.heap.size w' := by
  go_enter Tryf.func10, Tryf.ntmps10
  go_wp2
  go_region_held3 (fun w' => w'.cell? ⟨w.heap.size, 0, none⟩ = some (.string key) ∧ w'.cell? ⟨w.heap.size + 1, 0, none⟩ = some (.func (.func 11) #[] #[])) (go_keep)
    ((go_at_call 17; refine (same_any _).mono ?_; rintro e w' ⟨rfl, rfl⟩))
  all_goals
    go_wp2
    refine bodyPost_ret (v := fieldV key w.heap.size) (by simp [results, Tryf.results10, go_sem, fieldV]) rfl ⟨rfl, ?_, ?_⟩
    · exact (((((Below.refl _ _).alloc (Nat.le_refl _) _).alloc (by simp) _).alloc (by simp; omega) _).alloc (by simp; omega) _).drew
    · rename_i hh
      exact ⟨hh.1, hh.2, World.cell?_alloc_at _ _ _ _ (by simp), by simp⟩

/-- The closure 'format'. -/
theorem format_any (n : Int) (h0 : -9223372036854775808 ≤ n) (h1 : n ≤ 9223372036854775807) (q p : Nat) (w : World) (hq : w.cell? ⟨q, 8, none⟩ = some (.int .i64 n)) (hp : w.cell? ⟨p, 0, none⟩ = some (.func (.func 11) #[] #[]))
    (htab : Lib.TabBelow Tryf.prog w.heap.size w Shelf.powName .u64 Lib.pow10Tab) :
    Calls Tryf.prog 12 #[.slice none 0 0, .pointer (some ⟨q, 0, none⟩), .pointer (some ⟨p, 0, none⟩)] w fun e w' => ∃ v', e = .returned v' ∧ w'.ownsRow w.heap.size 5 1 v' (Lib.itoa n).length (Lib.byteCells (Lib.itoa n)) ∧ Below w.heap.size w w' := by
  go_enter Tryf.func12, Tryf.ntmps12
  go_wp2_with (go_at_call 11; go_in)
  refine (Shelf.strconv_AppendInt_10 w.heap.size 0 n h0 h1 (.slice none 0 0) [] _ (World.ownsRow_nil _ _ _ _) (Nat.le_refl _) (by omega) htab).mono ?_
  rintro e w1 ⟨v', rfl, hown, hb, _⟩
  go_wp2
  go_ret
  exact ⟨_, rfl, by simpa using hown, hb⟩

/-- Entry{Size: n}, cell by cell. -/
def entry (n : Int) : Array Value := #[Value.string { data := #[] }, Value.string { data := #[] }, Value.int IntKind.u32 0, Value.int IntKind.u32 0,
          Value.int IntKind.u32 0, Value.int IntKind.u64 0, Value.int IntKind.i64 0, Value.pointer none,
          Value.int IntKind.i64 n, Value.string { data := #[] }, Value.int IntKind.i64 0, Value.string { data := #[] },
          Value.bool false, Value.int IntKind.u64 0, Value.int IntKind.i64 0, Value.pointer none,
          Value.int IntKind.u64 0, Value.string { data := #[] }, Value.int IntKind.u32 0, Value.int IntKind.u32 0,
          Value.string { data := #[] }, Value.slice none 0 0]
theorem entry_size (n : Int) : (Tryf.prog.info? 38).map (·.size) = some (entry n).size := by kernel_rfl
theorem entry_one (n : Int) : (entry n).all (·.oneCell') = true := by
  rw [Array.all_eq_true_iff_forall_mem]
  intro v hv
  simp [entry] at hv
  repeat (first | (rcases hv with rfl | hv; · rfl) | (subst hv; rfl))
theorem entry_at (n : Int) : (entry n)[8]? = some (.int .i64 n) := rfl

theorem run_alloc38 (w : World) : (Instr.alloc 38 true (.tuple #[])).run Tryf.prog w = .ok (.pointer (some ⟨w.heap.size, 0, none⟩)) (w.alloc (.cells (entry 0) 38)) := by kernel_rfl
theorem built38 (n : Int) : Tryf.prog.built 38 [(6, .int .i64 n)] = some (entry n) := by kernel_rfl
theorem wp_alloc38 {o : Oper} {a : Act} {w : World} {K : Act → World → Prop} {Q : Exit → Act → World → Prop} (ho : o.op = .alloc 38)
    (h : K (a.put o.dst (.pointer (some ⟨w.heap.size, 0, none⟩))) (w.alloc (.cells (entry 0) 38))) : o.wp Tryf.prog a w K Q := by
  unfold Oper.wp execOp
  simp only [ho, run_alloc38, Sem.run_bind, Sem.run_pure, Result.andThen_ok]
  exact h

/-- 'e := Entry{Size: n}': the region's four operations, with no unrolling of the 22 cells. -/
theorem wp_entry {id : Nat} {Q : Exit → Act → World → Prop} {a : Act} {w : World} {o1 o2 o3 o4 : Oper} (n : Int) (i b0 b1 p : Nat)
    (g1 : o1.guard = none) (g2 : o2.guard = none) (g3 : o3.guard = none) (g4 : o4.guard = none)
    (e1 : o1.op = .move (.tmp i)) (e2 : o2.op = .build 38 #[(6, .tmp b0)]) (e3 : o3.op = .alloc 38) (e4 : o4.op = .store 38 (.tmp p) (.tmp b1))
    (hi : a.eval (.tmp i) = .int .i64 n) (hb0 : (a.put o1.dst (.int .i64 n)).eval (.tmp b0) = .int .i64 n)
    (hp : (((a.put o1.dst (.int .i64 n)).put o2.dst (.agg (entry n))).put o3.dst (.pointer (some ⟨w.heap.size, 0, none⟩))).eval (.tmp p) = .pointer (some ⟨w.heap.size, 0, none⟩))
    (hb1 : (((a.put o1.dst (.int .i64 n)).put o2.dst (.agg (entry n))).put o3.dst (.pointer (some ⟨w.heap.size, 0, none⟩))).eval (.tmp b1) = .agg (entry n))
    (h : Q .normal ((((a.put o1.dst (.int .i64 n)).put o2.dst (.agg (entry n))).put o3.dst (.pointer (some ⟨w.heap.size, 0, none⟩))).put o4.dst undef) (w.alloc (.cells (entry n) 38))) :
    (Code.region id #[o1, o2, o3, o4] false).wp Tryf.prog Q a w := by
  refine wp_region_lit (l := [o1, o2, o3, o4]) ?_
  refine wpList_plain g1 fun K hK => BigFrame.wp_move (.tmp i) e1 (hK _ _ ?_)
  rw [hi]
  have hbt : Tryf.prog.built 38 ((#[(6, Operand.tmp b0)].map fun (i, x) => (i, (a.put o1.dst (.int .i64 n)).eval x)).toList) = some (entry n) := by
    simp only [List.map_toArray, List.map_cons, List.map_nil, hb0]
    exact built38 n
  refine wpList_build g2 38 #[(6, .tmp b0)] e2 (by rw [hbt]; rfl) ?_
  rw [hbt, Option.getD_some]
  refine wpList_plain g3 fun K hK => wp_alloc38 e3 (hK _ _ ?_)
  refine wpList_store_row g4 38 (.tmp p) (.tmp b1) e4 w.heap.size (entry n) hp hb1 38 (entry 0) (heap_alloc_new w _) (entry_size n) rfl (entry_one n) ?_
  rw [World.setRow_alloc_new]
  exact h

theorem field0 (key : ByteArray) (N : Nat) (w : World) : (Instr.field 44 (fieldV key N) 0).run Tryf.prog w = .ok (.string key) w := by kernel_rfl
theorem field1 (key : ByteArray) (N : Nat) (w : World) : (Instr.field 44 (fieldV key N) 1).run Tryf.prog w = .ok (.func (.func 12) #[] #[.pointer (some ⟨N + 1, 0, none⟩)]) w := by kernel_rfl
theorem field2 (key : ByteArray) (N : Nat) (w : World) : (Instr.field 44 (fieldV key N) 2).run Tryf.prog w = .ok (.func (.func 14) #[] #[.pointer (some ⟨N, 0, none⟩), .pointer (some ⟨N + 1, 0, none⟩)]) w := by kernel_rfl
theorem field3 (key : ByteArray) (N : Nat) (w : World) : (Instr.field 44 (fieldV key N) 3).run Tryf.prog w = .ok (.func (.func 23) #[] #[.pointer (some ⟨N + 1 + 1 + 1, 0, none⟩)]) w := by kernel_rfl

/-- Facts on the entry's block and on lengthField's, behind lengthField. -/
theorem entry_cell {n : Int} {w w1 : World} (hb : Below (w.heap.size + 1) (w.alloc (.cells (entry n) 38)) w1) : w1.cell? ⟨w.heap.size, 8, none⟩ = some (.int .i64 n) := by
  rw [hb.cell (p := ⟨w.heap.size, 8, none⟩) (by simp)]
  exact (World.cell?_alloc_new _ _ _ _).trans (entry_at n)

set_option maxRecDepth 100000 in
set_option maxHeartbeats 1000000 in
theorem zzformat_any (key : ByteArray) (n : Int) (h0 : -9223372036854775808 ≤ n) (h1 : n ≤ 9223372036854775807) (w : World)
    (htab : Lib.TabBelow Tryf.prog w.heap.size w Shelf.powName .u64 Lib.pow10Tab) :
    Calls Tryf.prog 5 #[.string key, .int .i64 n] w fun e w' => ∃ v', e = .returned v' ∧ w'.ownsRow w.heap.size 5 1 v' (Lib.itoa n).length (Lib.byteCells (Lib.itoa n)) ∧ Below w.heap.size w w' := by
  go_enter Tryf.func5, Tryf.ntmps5
  go_upto_region 1 with fail
  refine wp_entry n 1 6 7 5 rfl rfl rfl rfl rfl rfl rfl rfl rfl rfl rfl rfl ?_
  go_wp2_with fail
  refine (len_any key _).mono ?_
  rintro e w1 ⟨rfl, hb1, hc1, hc2, hc3, hsz⟩
  rw [World.size_alloc] at hb1 hc1 hc2 hc3 hsz
  rw [World.size_alloc]
  have hE := entry_cell hb1
  have hB : Below w.heap.size w w1 := ((Below.refl _ _).alloc (Nat.le_refl _) _).trans (hb1.mono (by omega))
  have htab1 : Lib.TabBelow Tryf.prog w1.heap.size w1 Shelf.powName .u64 Lib.pow10Tab := fun w' h => htab w' (hB.trans (h.mono hB.size))
  have hf := field1 key (w.heap.size + 1)
  go_wp2_with fail
  refine (format_any n h0 h1 w.heap.size (w.heap.size + 1 + 1) _ hE hc2 htab1).mono ?_
  rintro e w2 ⟨v', rfl, hown, hb2⟩
  go_wp2
  go_ret
  refine ⟨_, rfl, ?_, hB.trans (hb2.mono hB.size)⟩
  obtain ⟨ho1, ho2⟩ := hown
  refine ⟨ho1, ?_⟩
  rcases ho2 with ho2 | ⟨g, c, cur, k1, k2, k3⟩
  · exact .inl ho2
  · exact .inr ⟨g, c, cur, k1, by have := hB.size; omega, k3⟩

set_option maxRecDepth 100000 in
set_option maxHeartbeats 1000000 in
theorem zzkey_any (key : ByteArray) (w : World) :
    Calls Tryf.prog 8 #[.string key] w fun e w' => e = .returned (.string key) ∧ Below w.heap.size w w' := by
  go_enter Tryf.func8, Tryf.ntmps8
  go_wp2_with fail
  refine (len_any key _).mono ?_
  rintro e w1 ⟨rfl, hb1, hc1, hc2, hc3, hsz⟩
  have hf := field0 key w.heap.size
  go_wp2
  go_ret
  exact ⟨rfl, hb1⟩

/-- The closure 'same'. -/
theorem eq_any (a b : Int) (q r p : Nat) (w : World) (hq : w.cell? ⟨q, 8, none⟩ = some (.int .i64 a)) (hr : w.cell? ⟨r, 8, none⟩ = some (.int .i64 b)) (hp : w.cell? ⟨p, 0, none⟩ = some (.func (.func 11) #[] #[])) :
    Calls Tryf.prog 23 #[.pointer (some ⟨q, 0, none⟩), .pointer (some ⟨r, 0, none⟩), .pointer (some ⟨p, 0, none⟩)] w fun e w' => e = .returned (.bool (a == b)) ∧ Below w.heap.size w w' := by
  have hs : ∀ (q : Nat) (wx : World), Calls Tryf.prog 11 #[.pointer (some ⟨q, 0, none⟩)] wx fun e w' => e = .returned (.pointer (some ⟨q, 8, none⟩)) ∧ w' = wx := fun q wx => by
    go_enter Tryf.func11, Tryf.ntmps11
    go_wp2
    go_ret
    exact ⟨rfl, rfl⟩
  go_enter Tryf.func23, Tryf.ntmps23
  go_wp2
  go_quiet ((go_at_call 11; exact Calls.quiet_of_same (hs _ _)))
  go_wp2
  go_ret
  exact ⟨rfl, below_drewN (Below.refl _ _) _⟩
end Go.Proofs.Qxb6618809aFmt.Field
