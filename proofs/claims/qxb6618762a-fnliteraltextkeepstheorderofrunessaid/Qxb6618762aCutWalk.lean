import Derived.Test.Qxb6618762aLitWalks
import Derived.WalkKit
import Derived.OwnWalk
import Derived.WalkLawsBesides
import Derived.WalkSpells
import Derived.Laws.CopyOwn
import Derived.Deep.OwnRows
import Derived.Deep.WholeRow
import Derived.Laws.IdiomStrings
import Derived.Deep.QuietTactic
import Derived.BigQuiet
namespace Go.Proofs.Qxb6618762a.CutWalk
open Go.RowKit
open LitWalks
set_option linter.unusedVariables false

theorem info21 : (Try.prog.info? 21).map (fun i => (i.zero, i.size, i.bytes)) = some (some (.int .i32 0), 1, 4) := by kernel_rfl
theorem size21 : (Try.prog.info? 21).map (·.size) = some 1 := by kernel_rfl

theorem getElem?_ints {zs : List Int} {j : Nat} {v : Value} (h : (zs.map (Value.int .i32))[j]? = some v) : j < zs.length ∧ v = .int .i32 (zs.getD j 0) := by
  rw [List.getElem?_map] at h
  cases hz : zs[j]? with
  | none => rw [hz] at h; simp at h
  | some z =>
    rw [hz] at h
    obtain ⟨hj, _⟩ := List.getElem?_eq_some_iff.1 hz
    simp at h
    exact ⟨hj, by rw [← h, List.getD_eq_getElem?_getD, hz]; rfl⟩

/-- 'zzc := make([]rune, len(x)); copy(zzc, x)': the copy. -/
theorem copy_fresh (w : World) (x : Addr) (cap : Nat) (zs : List Int) (hcell : ∀ i, i < zs.length → w.cell? (x.add i) = some (.int .i32 (zs.getD i 0))) (ty : TypeId) :
    (Builtin.copy_ #[22, 22] ty #[.slice (some ⟨w.heap.size, 0, none⟩) zs.length zs.length, .slice (some x) zs.length cap]).run Try.prog (w.alloc (.cells (madeCells #[.int .i32 0] zs.length) 21)) =
      .ok (goInt zs.length) (w.alloc (.cells (zs.map (Value.int .i32)).toArray 21)) := by
  have h := run_copy_row (P := Try.prog) (w.alloc (.cells (madeCells #[.int .i32 0] zs.length) 21)) 22 22 ty 21 w.heap.size 0 zs.length zs.length x zs.length cap (madeCells #[.int .i32 0] zs.length) 21 (zs.map (Value.int .i32))
    Try.underlying22 size21 (heap_alloc_new w _) (by simp) (fun j v hj => by
      obtain ⟨hj', rfl⟩ := getElem?_ints hj
      exact (World.cell?_alloc_lt _ _ _ (World.block_lt_of_cell? w _ (hcell j hj'))).trans (hcell j hj')) (by simp [size_madeCells]) (ints_oneCell _ _)
  rw [h, World.setRow_alloc_new]
  rw [List.drop_eq_nil_of_le (by simp [size_madeCells])]
  simp
/-- A block that holds the runes reads as them, from any place on. -/
theorem reads_of_block {w : World} {g k : Nat} {zs : List Int} (h : w.heap[g]? = some (.cells (zs.map (Value.int .i32)).toArray 21 (0, 0))) : Reads w (some ⟨g, k, none⟩) (zs.drop k) := by
  refine .inr ⟨g, k, rfl, (Array.getElem?_eq_some_iff.1 h).1, fun j hj => ?_⟩
  rw [cell_of_row w g (k + j) _ 21 (0, 0) h]
  simp at hj
  simp [List.getElem?_drop, List.getElem?_eq_getElem (show k + j < zs.length by omega)]
theorem Reads.take {w : World} {ao : Option Addr} {zs : List Int} (h : Reads w ao zs) (k : Nat) : Reads w ao (zs.take k) := by
  rcases h with rfl | ⟨b, off, h1, h2, h3⟩
  · exact .inl (by simp)
  · refine .inr ⟨b, off, h1, h2, fun j hj => ?_⟩
    rw [List.length_take] at hj
    rw [h3 j (by omega)]
    have : j < k := by omega
    simp [this]

theorem cat_cut (zs : List Int) (kk : Nat) : (ByteArray.mk (Lit.encs (zs.take kk)).toArray) ++ (ByteArray.mk (Lit.encs (zs.drop kk)).toArray) = ByteArray.mk (Lit.encs zs).toArray := by
  have h : (ByteArray.mk (Lit.encs (zs.take kk)).toArray ++ ByteArray.mk (Lit.encs (zs.drop kk)).toArray).data = (Lit.encs zs).toArray := by
    rw [ByteArray.data_append]
    simp only [List.append_toArray]
    rw [← Lit.encs_append, List.take_append_drop]
  generalize ByteArray.mk (Lit.encs (zs.take kk)).toArray ++ ByteArray.mk (Lit.encs (zs.drop kk)).toArray = b at h
  cases b; simpa using h
/-- '[]rune(p)'. -/
def backCells (zs : List Int) (cap : Nat) : Array Value := (zs.map fun z => Value.int .i32 (Lit.vr z)).toArray ++ Array.replicate (cap - zs.length) (.int .i32 0)
theorem back_at (zs : List Int) (cap j : Nat) (h : j < zs.length) : (backCells zs cap)[j]? = some (.int .i32 (Lit.vr (zs.getD j 0))) := by
  unfold backCells
  rw [Array.getElem?_append_left (by simpa using h)]
  simp [List.getElem?_eq_getElem h]
theorem run_back (zs : List Int) (h : zs.length ≤ 65536) (w : World) :
    (convert 9 22 (.string ⟨(Lit.encs zs).toArray⟩)).run Try.prog w = .ok (.slice (some ⟨w.heap.size, 0, none⟩) zs.length (grownCap w zs.length 0 21)) (w.drew.alloc (.cells (backCells zs (grownCap w zs.length 0 21)) 21)) := by
  have e : Conv.runesFrom ⟨(Lit.encs zs).toArray⟩ (ByteArray.mk (Lit.encs zs).toArray).size 0 #[] = (zs.map fun z => Value.int .i32 (Lit.vr z)).toArray := by
    have := Lit.runes_of zs
    rw [show (ByteArray.mk (Lit.encs zs).toArray).size = (Lit.encs zs).length by simp [ByteArray.size]]
    exact this
  have := run_runes_of_string (P := Try.prog) w 9 22 21 ⟨(Lit.encs zs).toArray⟩ Try.underlying9 Try.underlying22 Try.underlying21 (by rw [e]; simp; omega)
  rw [this, e]
  simp [backCells]

set_option maxHeartbeats 4000000 in
theorem walk_some (x : Addr) (cap : Nat) (zs : List Int) (a1 : Int) (kk : Nat) (w : World) (hl : zs.length ≤ 65536)
    (hcell : ∀ i, i < zs.length → w.cell? (x.add i) = some (.int .i32 (zs.getD i 0))) (hwf : ∀ z ∈ zs, -2147483648 ≤ z ∧ z ≤ 2147483647)
    (hkk : kk ≤ zs.length) (hcase : (a1 < 0 ∧ kk = 0) ∨ ((zs.length : Int) < a1 ∧ kk = zs.length) ∨ ((zs.length : Int) = a1 ∧ kk = zs.length) ∨ (a1 = kk ∧ kk < zs.length)) :
    Calls Try.prog 3 #[.slice (some x) zs.length cap, .int .i64 a1] w fun e w' => e = .returned (.bool true) ∧ Below w.heap.size w w' := by
  have hne := fun wx (t : Nat) (c : Nat) => run_neq_slice_nil_any (P := Try.prog) wx 22 21 (some x) t c 0 0 Try.underlying22
  have hmk := run_make_row' (P := Try.prog) 22 21 (.int .i32 0) 4 Try.underlying22 info21 rfl .i64 .i64 zs.length (by omega) (by omega)
  have hcp := copy_fresh w x cap zs hcell
  have hG : (w.alloc (.cells (zs.map (Value.int .i32)).toArray 21)).heap[w.heap.size]? = some (.cells (zs.map (Value.int .i32)).toArray 21 (0, 0)) := heap_alloc_new w _
  have hrd := reads_of_block (k := 0) hG
  simp only [List.drop_zero] at hrd
  have hcat := cat_cut zs kk
  have hl1 := (Lit.encs_len (zs.take kk)).2
  have hl2 := (Lit.encs_len (zs.drop kk)).2
  have hl3 := Lit.encs_len zs
  have hl4 : (zs.take kk).length ≤ 65536 := by simp; omega
  have hl5 : (zs.drop kk).length ≤ 65536 := by simp; omega
  have hbk := run_back zs hl
  rcases hcase with ⟨h1, h2⟩ | ⟨h1, h2⟩ | ⟨h1, h2⟩ | ⟨h1, h2⟩
  · have HE : Hid (kk = 0) := h2
    have hrk : Reads (w.alloc (.cells (zs.map (Value.int .i32)).toArray 21)) (some ⟨w.heap.size, 0, none⟩) (zs.drop kk) := by rw [h2]; exact reads_of_block hG
    clear h2 hG
    go_enter Try.func3, Try.ntmps3
    go_wp2_with (go_at_call 6; go_in)
    refine (zz_any zs _ _ _ _ rfl hl hwf hrd).mono ?_
    rintro e w3 ⟨h, rfl, hb3, hheld⟩
    have hrd3 := hrd.below hb3 (Nat.le_refl _)
    have hrk3 := hrk.below hb3 (Nat.le_refl _)
    clear hrd hrk
    go_wp2_with fail
    refine (zz_any (zs.take kk) _ _ _ _ (by have := HE.out; have e := List.length_take (i := kk) (l := zs); omega) hl4 (fun z hz => hwf z (List.mem_of_mem_take hz)) (Reads.take hrd3 kk)).mono ?_
    rintro e w4 ⟨h4, rfl, hb4, hheld4⟩
    have hrd4 := hrd3.below hb4 (Nat.le_refl _)
    have hrk4 := hrk3.below hb4 (Nat.le_refl _)
    have hheld' := hheld.below hb4 (Nat.le_refl _)
    clear hrd3 hrk3 hheld4 hheld
    go_wp2_with fail
    refine (zz_any (zs.drop kk) _ _ _ _ (by have := HE.out; have e := List.length_drop (i := kk) (l := zs); omega) hl5 (fun z hz => hwf z (List.mem_of_mem_drop hz)) hrk4).mono ?_
    rintro e w5 ⟨h5, rfl, hb5, hheld5⟩
    have hrd5 := hrd4.below hb5 (Nat.le_refl _)
    have hheld := hheld'.below hb5 (Nat.le_refl _)
    clear hrd4 hrk4 hheld5 hheld'
    have hW5 : Below w.heap.size w w5 := ((((Below.refl _ _).alloc (Nat.le_refl _) _).trans (hb3.mono (by simp))).trans (hb4.mono (by have := hb3.size; simp at this; omega))).trans (hb5.mono (by have := hb3.size; have := hb4.size; simp at *; omega))
    clear hb3 hb4 hb5
    rcases hheld with ⟨he, rfl⟩ | ⟨he, g, rfl, hg0, hg1, hgc⟩
    · have hz : (Lit.encs zs).length = 0 := by rw [ByteArray.toList_mk] at he; rw [he]; rfl
      have hz0 : ((zs.length : Int) == 0) = true := by rw [show zs.length = 0 by omega]; rfl
      go_wp2
      go_ret
      exact ⟨rfl, hW5⟩
    · have hz0 : ((zs.length : Int) == 0) = false := by
        rw [ByteArray.toList_mk] at he
        have : zs ≠ [] := by rintro rfl; exact he rfl
        have := List.length_pos_iff.2 this
        simp; omega
      go_wp2
      go_loopw [25] (fun i wr => ∃ k : Nat, k ≤ zs.length ∧ i = .int .i64 k ∧ Below (w5.heap.size + 1) (w5.alloc (.cells (backCells zs (grownCap w5 zs.length 0 21)) 21)) wr) (fun i _ => zs.length - (intOf i).toNat)
      case atStart => exact ⟨0, Nat.zero_le _, rfl, (Below.refl _ _).drew⟩
      case round =>
        obtain ⟨k, hk, rfl, hbel⟩ := hrel
        by_cases hlt : k < zs.length
        · have hlt' : (k : Int) < (zs.length : Int) := by omega
          obtain ⟨r, hr⟩ : ∃ r, r = zs.getD k 0 := ⟨_, rfl⟩
          have c1 : wr.cell? ⟨w5.heap.size, k, none⟩ = some (.int .i32 (Lit.vr r)) := by
            rw [hbel.cell (p := ⟨w5.heap.size, k, none⟩) (by simp), hr]
            exact (World.cell?_alloc_new _ _ _ _).trans (back_at zs _ k hlt)
          have c2 : wr.cell? ⟨w.heap.size, k, none⟩ = some (.int .i32 r) := by
            rcases hrd5 with e | ⟨b, off, e, hb, hc⟩
            · rw [e] at hlt; simp at hlt
            · simp only [Option.some.injEq, Addr.mk.injEq, and_true] at e
              obtain ⟨rfl, rfl⟩ := e
              have := hc k hlt
              rw [Nat.zero_add] at this
              rw [hbel.cell (p := ⟨w.heap.size, k, none⟩) (by simp; omega), hr]
              exact (World.cell?_alloc_lt _ _ _ hb).trans this
          clear hr
          go_wp2
          go_quiet ((go_at_call 8; exact Calls.quiet_of_same (valid_any _ _)))
          go_wp2
          go_roundw
          case rel => exact ⟨k + 1, by omega, by go_num, below_drewN hbel _⟩
          case measure => simp [intOf]; omega
        · go_wp2
          go_ret
          exact ⟨rfl, (hW5.alloc hW5.size _).trans (hbel.mono (by have := hW5.size; omega))⟩
  · have HE : Hid (kk = zs.length) := h2
    have hrk : Reads (w.alloc (.cells (zs.map (Value.int .i32)).toArray 21)) (some ⟨w.heap.size, 0, none⟩) (zs.drop kk) := .inl (by rw [h2]; simp)
    clear h2 hG
    go_enter Try.func3, Try.ntmps3
    go_wp2_with (go_at_call 6; go_in)
    refine (zz_any zs _ _ _ _ rfl hl hwf hrd).mono ?_
    rintro e w3 ⟨h, rfl, hb3, hheld⟩
    have hrd3 := hrd.below hb3 (Nat.le_refl _)
    have hrk3 := hrk.below hb3 (Nat.le_refl _)
    clear hrd hrk
    go_wp2_with fail
    refine (zz_any (zs.take kk) _ _ _ _ (by have := HE.out; have e := List.length_take (i := kk) (l := zs); omega) hl4 (fun z hz => hwf z (List.mem_of_mem_take hz)) (Reads.take hrd3 kk)).mono ?_
    rintro e w4 ⟨h4, rfl, hb4, hheld4⟩
    have hrd4 := hrd3.below hb4 (Nat.le_refl _)
    have hrk4 := hrk3.below hb4 (Nat.le_refl _)
    have hheld' := hheld.below hb4 (Nat.le_refl _)
    clear hrd3 hrk3 hheld4 hheld
    go_wp2_with fail
    refine (zz_any (zs.drop kk) _ _ _ _ (by have := HE.out; have e := List.length_drop (i := kk) (l := zs); omega) hl5 (fun z hz => hwf z (List.mem_of_mem_drop hz)) hrk4).mono ?_
    rintro e w5 ⟨h5, rfl, hb5, hheld5⟩
    have hrd5 := hrd4.below hb5 (Nat.le_refl _)
    have hheld := hheld'.below hb5 (Nat.le_refl _)
    clear hrd4 hrk4 hheld5 hheld'
    have hW5 : Below w.heap.size w w5 := ((((Below.refl _ _).alloc (Nat.le_refl _) _).trans (hb3.mono (by simp))).trans (hb4.mono (by have := hb3.size; simp at this; omega))).trans (hb5.mono (by have := hb3.size; have := hb4.size; simp at *; omega))
    clear hb3 hb4 hb5
    rcases hheld with ⟨he, rfl⟩ | ⟨he, g, rfl, hg0, hg1, hgc⟩
    · have hz : (Lit.encs zs).length = 0 := by rw [ByteArray.toList_mk] at he; rw [he]; rfl
      have hz0 : ((zs.length : Int) == 0) = true := by rw [show zs.length = 0 by omega]; rfl
      go_wp2
      go_ret
      exact ⟨rfl, hW5⟩
    · have hz0 : ((zs.length : Int) == 0) = false := by
        rw [ByteArray.toList_mk] at he
        have : zs ≠ [] := by rintro rfl; exact he rfl
        have := List.length_pos_iff.2 this
        simp; omega
      go_wp2
      go_loopw [25] (fun i wr => ∃ k : Nat, k ≤ zs.length ∧ i = .int .i64 k ∧ Below (w5.heap.size + 1) (w5.alloc (.cells (backCells zs (grownCap w5 zs.length 0 21)) 21)) wr) (fun i _ => zs.length - (intOf i).toNat)
      case atStart => exact ⟨0, Nat.zero_le _, rfl, (Below.refl _ _).drew⟩
      case round =>
        obtain ⟨k, hk, rfl, hbel⟩ := hrel
        by_cases hlt : k < zs.length
        · have hlt' : (k : Int) < (zs.length : Int) := by omega
          obtain ⟨r, hr⟩ : ∃ r, r = zs.getD k 0 := ⟨_, rfl⟩
          have c1 : wr.cell? ⟨w5.heap.size, k, none⟩ = some (.int .i32 (Lit.vr r)) := by
            rw [hbel.cell (p := ⟨w5.heap.size, k, none⟩) (by simp), hr]
            exact (World.cell?_alloc_new _ _ _ _).trans (back_at zs _ k hlt)
          have c2 : wr.cell? ⟨w.heap.size, k, none⟩ = some (.int .i32 r) := by
            rcases hrd5 with e | ⟨b, off, e, hb, hc⟩
            · rw [e] at hlt; simp at hlt
            · simp only [Option.some.injEq, Addr.mk.injEq, and_true] at e
              obtain ⟨rfl, rfl⟩ := e
              have := hc k hlt
              rw [Nat.zero_add] at this
              rw [hbel.cell (p := ⟨w.heap.size, k, none⟩) (by simp; omega), hr]
              exact (World.cell?_alloc_lt _ _ _ hb).trans this
          clear hr
          go_wp2
          go_quiet ((go_at_call 8; exact Calls.quiet_of_same (valid_any _ _)))
          go_wp2
          go_roundw
          case rel => exact ⟨k + 1, by omega, by go_num, below_drewN hbel _⟩
          case measure => simp [intOf]; omega
        · go_wp2
          go_ret
          exact ⟨rfl, (hW5.alloc hW5.size _).trans (hbel.mono (by have := hW5.size; omega))⟩
  · subst h1
    have HE : Hid (kk = zs.length) := h2
    have hrk : Reads (w.alloc (.cells (zs.map (Value.int .i32)).toArray 21)) (some ⟨w.heap.size, 0, none⟩) (zs.drop kk) := .inl (by rw [h2]; simp)
    clear h2 hG
    go_enter Try.func3, Try.ntmps3
    go_wp2_with (go_at_call 6; go_in)
    refine (zz_any zs _ _ _ _ rfl hl hwf hrd).mono ?_
    rintro e w3 ⟨h, rfl, hb3, hheld⟩
    have hrd3 := hrd.below hb3 (Nat.le_refl _)
    have hrk3 := hrk.below hb3 (Nat.le_refl _)
    clear hrd hrk
    go_wp2_with fail
    refine (zz_any (zs.take kk) _ _ _ _ (by have := HE.out; have e := List.length_take (i := kk) (l := zs); omega) hl4 (fun z hz => hwf z (List.mem_of_mem_take hz)) (Reads.take hrd3 kk)).mono ?_
    rintro e w4 ⟨h4, rfl, hb4, hheld4⟩
    have hrd4 := hrd3.below hb4 (Nat.le_refl _)
    have hrk4 := hrk3.below hb4 (Nat.le_refl _)
    have hheld' := hheld.below hb4 (Nat.le_refl _)
    clear hrd3 hrk3 hheld4 hheld
    go_wp2_with fail
    refine (zz_any (zs.drop kk) _ _ _ _ (by have := HE.out; have e := List.length_drop (i := kk) (l := zs); omega) hl5 (fun z hz => hwf z (List.mem_of_mem_drop hz)) hrk4).mono ?_
    rintro e w5 ⟨h5, rfl, hb5, hheld5⟩
    have hrd5 := hrd4.below hb5 (Nat.le_refl _)
    have hheld := hheld'.below hb5 (Nat.le_refl _)
    clear hrd4 hrk4 hheld5 hheld'
    have hW5 : Below w.heap.size w w5 := ((((Below.refl _ _).alloc (Nat.le_refl _) _).trans (hb3.mono (by simp))).trans (hb4.mono (by have := hb3.size; simp at this; omega))).trans (hb5.mono (by have := hb3.size; have := hb4.size; simp at *; omega))
    clear hb3 hb4 hb5
    rcases hheld with ⟨he, rfl⟩ | ⟨he, g, rfl, hg0, hg1, hgc⟩
    · have hz : (Lit.encs zs).length = 0 := by rw [ByteArray.toList_mk] at he; rw [he]; rfl
      have hz0 : ((zs.length : Int) == 0) = true := by rw [show zs.length = 0 by omega]; rfl
      go_wp2
      go_ret
      exact ⟨rfl, hW5⟩
    · have hz0 : ((zs.length : Int) == 0) = false := by
        rw [ByteArray.toList_mk] at he
        have : zs ≠ [] := by rintro rfl; exact he rfl
        have := List.length_pos_iff.2 this
        simp; omega
      go_wp2
      go_loopw [25] (fun i wr => ∃ k : Nat, k ≤ zs.length ∧ i = .int .i64 k ∧ Below (w5.heap.size + 1) (w5.alloc (.cells (backCells zs (grownCap w5 zs.length 0 21)) 21)) wr) (fun i _ => zs.length - (intOf i).toNat)
      case atStart => exact ⟨0, Nat.zero_le _, rfl, (Below.refl _ _).drew⟩
      case round =>
        obtain ⟨k, hk, rfl, hbel⟩ := hrel
        by_cases hlt : k < zs.length
        · have hlt' : (k : Int) < (zs.length : Int) := by omega
          obtain ⟨r, hr⟩ : ∃ r, r = zs.getD k 0 := ⟨_, rfl⟩
          have c1 : wr.cell? ⟨w5.heap.size, k, none⟩ = some (.int .i32 (Lit.vr r)) := by
            rw [hbel.cell (p := ⟨w5.heap.size, k, none⟩) (by simp), hr]
            exact (World.cell?_alloc_new _ _ _ _).trans (back_at zs _ k hlt)
          have c2 : wr.cell? ⟨w.heap.size, k, none⟩ = some (.int .i32 r) := by
            rcases hrd5 with e | ⟨b, off, e, hb, hc⟩
            · rw [e] at hlt; simp at hlt
            · simp only [Option.some.injEq, Addr.mk.injEq, and_true] at e
              obtain ⟨rfl, rfl⟩ := e
              have := hc k hlt
              rw [Nat.zero_add] at this
              rw [hbel.cell (p := ⟨w.heap.size, k, none⟩) (by simp; omega), hr]
              exact (World.cell?_alloc_lt _ _ _ hb).trans this
          clear hr
          go_wp2
          go_quiet ((go_at_call 8; exact Calls.quiet_of_same (valid_any _ _)))
          go_wp2
          go_roundw
          case rel => exact ⟨k + 1, by omega, by go_num, below_drewN hbel _⟩
          case measure => simp [intOf]; omega
        · go_wp2
          go_ret
          exact ⟨rfl, (hW5.alloc hW5.size _).trans (hbel.mono (by have := hW5.size; omega))⟩
  · subst h1
    have HE : Hid (kk < zs.length) := h2
    have hrk : Reads (w.alloc (.cells (zs.map (Value.int .i32)).toArray 21)) (some ⟨w.heap.size, kk, none⟩) (zs.drop kk) := reads_of_block hG
    clear hG
    go_enter Try.func3, Try.ntmps3
    go_wp2_with (go_at_call 6; go_in)
    refine (zz_any zs _ _ _ _ rfl hl hwf hrd).mono ?_
    rintro e w3 ⟨h, rfl, hb3, hheld⟩
    have hrd3 := hrd.below hb3 (Nat.le_refl _)
    have hrk3 := hrk.below hb3 (Nat.le_refl _)
    clear hrd hrk
    go_wp2_with fail
    refine (zz_any (zs.take kk) _ _ _ _ (by have := HE.out; have e := List.length_take (i := kk) (l := zs); omega) hl4 (fun z hz => hwf z (List.mem_of_mem_take hz)) (Reads.take hrd3 kk)).mono ?_
    rintro e w4 ⟨h4, rfl, hb4, hheld4⟩
    have hrd4 := hrd3.below hb4 (Nat.le_refl _)
    have hrk4 := hrk3.below hb4 (Nat.le_refl _)
    have hheld' := hheld.below hb4 (Nat.le_refl _)
    clear hrd3 hrk3 hheld4 hheld
    go_wp2_with fail
    refine (zz_any (zs.drop kk) _ _ _ _ (by have := HE.out; have e := List.length_drop (i := kk) (l := zs); omega) hl5 (fun z hz => hwf z (List.mem_of_mem_drop hz)) hrk4).mono ?_
    rintro e w5 ⟨h5, rfl, hb5, hheld5⟩
    have hrd5 := hrd4.below hb5 (Nat.le_refl _)
    have hheld := hheld'.below hb5 (Nat.le_refl _)
    clear hrd4 hrk4 hheld5 hheld'
    have hW5 : Below w.heap.size w w5 := ((((Below.refl _ _).alloc (Nat.le_refl _) _).trans (hb3.mono (by simp))).trans (hb4.mono (by have := hb3.size; simp at this; omega))).trans (hb5.mono (by have := hb3.size; have := hb4.size; simp at *; omega))
    clear hb3 hb4 hb5
    rcases hheld with ⟨he, rfl⟩ | ⟨he, g, rfl, hg0, hg1, hgc⟩
    · have hz : (Lit.encs zs).length = 0 := by rw [ByteArray.toList_mk] at he; rw [he]; rfl
      have hz0 : ((zs.length : Int) == 0) = true := by rw [show zs.length = 0 by omega]; rfl
      go_wp2
      go_ret
      exact ⟨rfl, hW5⟩
    · have hz0 : ((zs.length : Int) == 0) = false := by
        rw [ByteArray.toList_mk] at he
        have : zs ≠ [] := by rintro rfl; exact he rfl
        have := List.length_pos_iff.2 this
        simp; omega
      go_wp2
      go_loopw [25] (fun i wr => ∃ k : Nat, k ≤ zs.length ∧ i = .int .i64 k ∧ Below (w5.heap.size + 1) (w5.alloc (.cells (backCells zs (grownCap w5 zs.length 0 21)) 21)) wr) (fun i _ => zs.length - (intOf i).toNat)
      case atStart => exact ⟨0, Nat.zero_le _, rfl, (Below.refl _ _).drew⟩
      case round =>
        obtain ⟨k, hk, rfl, hbel⟩ := hrel
        by_cases hlt : k < zs.length
        · have hlt' : (k : Int) < (zs.length : Int) := by omega
          obtain ⟨r, hr⟩ : ∃ r, r = zs.getD k 0 := ⟨_, rfl⟩
          have c1 : wr.cell? ⟨w5.heap.size, k, none⟩ = some (.int .i32 (Lit.vr r)) := by
            rw [hbel.cell (p := ⟨w5.heap.size, k, none⟩) (by simp), hr]
            exact (World.cell?_alloc_new _ _ _ _).trans (back_at zs _ k hlt)
          have c2 : wr.cell? ⟨w.heap.size, k, none⟩ = some (.int .i32 r) := by
            rcases hrd5 with e | ⟨b, off, e, hb, hc⟩
            · rw [e] at hlt; simp at hlt
            · simp only [Option.some.injEq, Addr.mk.injEq, and_true] at e
              obtain ⟨rfl, rfl⟩ := e
              have := hc k hlt
              rw [Nat.zero_add] at this
              rw [hbel.cell (p := ⟨w.heap.size, k, none⟩) (by simp; omega), hr]
              exact (World.cell?_alloc_lt _ _ _ hb).trans this
          clear hr
          go_wp2
          go_quiet ((go_at_call 8; exact Calls.quiet_of_same (valid_any _ _)))
          go_wp2
          go_roundw
          case rel => exact ⟨k + 1, by omega, by go_num, below_drewN hbel _⟩
          case measure => simp [intOf]; omega
        · go_wp2
          go_ret
          exact ⟨rfl, (hW5.alloc hW5.size _).trans (hbel.mono (by have := hW5.size; omega))⟩
end Go.Proofs.Qxb6618762a.CutWalk
