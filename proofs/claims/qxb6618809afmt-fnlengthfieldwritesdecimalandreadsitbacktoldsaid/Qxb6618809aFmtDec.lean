/-
  THE WALK OF zzDecimal: by the prover of this seat.
-/
import Derived.Test.Qxb6618809aFmtRows
import Derived.Test.Qxb6618809aFmtPlain
import Derived.WalkKit
import Derived.OwnWalk
import Derived.WalkLawsBesides
import Derived.WalkSpells
import Derived.Laws.IdiomStrings
import Derived.Lib.AppendIntMem
namespace Go.Proofs.Qxb6618809aFmt.Dec
open Go.RowKit
set_option linter.unusedVariables false

/-- THE BUFFER: from place m on it holds the bytes ds; below the call's own block nothing has turned. -/
def Buf (w wr : World) (m : Nat) (ds : List UInt8) : Prop :=
  ∃ arr : Array Value, wr.heap[w.heap.size]? = some (.cells arr 48 (0, 0)) ∧ arr.size = 24 ∧ m + ds.length = 24 ∧ arr.toList.drop m = Lib.byteCells ds ∧ Below w.heap.size w wr

theorem Buf.cell {w wr : World} {m : Nat} {ds : List UInt8} (h : Buf w wr m ds) (j : Nat) (hj : j < 24) : ∃ x, wr.cell? ⟨w.heap.size, j, none⟩ = some x := by
  obtain ⟨arr, h1, h2, _⟩ := h
  exact ⟨arr[j], by rw [cell_of_row wr _ j arr 48 (0, 0) h1]; simp [h2, hj]⟩
theorem Buf.frozen {w wr : World} {m : Nat} {ds : List UInt8} (h : Buf w wr m ds) (j : Nat) : wr.frozen? ⟨w.heap.size, j, none⟩ = false := by
  obtain ⟨arr, h1, _⟩ := h
  simp [World.frozen?, h1]
theorem Buf.put {w wr : World} {m : Nat} {ds : List UInt8} (h : Buf w wr (m + 1) ds) (d : UInt8) : Buf w (wr.setCell ⟨w.heap.size, m, none⟩ (.int .u8 (d.toNat : Int))) m (d :: ds) := by
  obtain ⟨arr, h1, h2, h3, h4, h5⟩ := h
  refine ⟨arr.setIfInBounds m (.int .u8 (d.toNat : Int)), ?_, by simpa using h2, by simp; omega, ?_, h5.setCell (by simp) _⟩
  · rw [setCell_eq_setRow wr w.heap.size m arr 48 (0, 0) _ h1]
    exact setRow_heap wr w.heap.size arr _ 48 (0, 0) h1
  · rw [Array.toList_setIfInBounds, List.drop_set, if_neg (by omega), Nat.sub_self]
    have hm : m < arr.toList.length := by rw [Array.length_toList]; omega
    rw [List.drop_eq_getElem_cons hm, h4]
    simp [Lib.byteCells]
theorem Buf.below {w wr : World} {m : Nat} {ds : List UInt8} (h : Buf w wr m ds) : Below w.heap.size w wr := by obtain ⟨_, _, _, _, _, h⟩ := h; exact h
/-- string(buf[m:]). -/
theorem Buf.text {w wr : World} {m : Nat} {ds : List UInt8} (h : Buf w wr m ds) (hm : m < 24) (k : Nat) (hk : k = ds.length) (c : Nat) :
    (convert 23 9 (.slice (some ⟨w.heap.size, m, none⟩) k c)).run Tryf.prog wr = .ok (.string ⟨ds.toArray⟩) wr := by
  subst hk
  obtain ⟨arr, h1, h2, h3, h4, h5⟩ := h
  refine run_convert_bytes_back wr 23 9 5 ⟨w.heap.size, m, none⟩ c ds Tryf.underlying23 Tryf.underlying5 Tryf.underlying9 ?_
  intro j hj
  have e : (⟨w.heap.size, m, none⟩ : Addr).add j = ⟨w.heap.size, m + j, none⟩ := by unfold Addr.add; split <;> simp_all
  rw [e, cell_of_row wr _ (m + j) arr 48 (0, 0) h1]
  have : (arr.toList.drop m)[j]? = some (.int .u8 (ds[j].toNat : Int)) := by
    rw [h4]; simp [Lib.byteCells, List.getElem?_eq_getElem hj]
  rw [List.getElem?_drop] at this
  simpa using this
theorem Buf.start (w : World) : Buf w (w.alloc (Obj.cells #[Value.int IntKind.u8 0, Value.int IntKind.u8 0, Value.int IntKind.u8 0, Value.int IntKind.u8 0, Value.int IntKind.u8 0, Value.int IntKind.u8 0, Value.int IntKind.u8 0, Value.int IntKind.u8 0, Value.int IntKind.u8 0, Value.int IntKind.u8 0, Value.int IntKind.u8 0, Value.int IntKind.u8 0, Value.int IntKind.u8 0, Value.int IntKind.u8 0, Value.int IntKind.u8 0, Value.int IntKind.u8 0, Value.int IntKind.u8 0, Value.int IntKind.u8 0, Value.int IntKind.u8 0, Value.int IntKind.u8 0, Value.int IntKind.u8 0, Value.int IntKind.u8 0, Value.int IntKind.u8 0, Value.int IntKind.u8 0] 48)) 24 [] :=
  ⟨_, heap_alloc_new w _, rfl, rfl, rfl, (Below.refl _ _).alloc (Nat.le_refl _) _⟩

/-- THE DIGITS STILL TO COME AND THOSE LAID ARE u's. -/
def Left (u v : Nat) (ds : List UInt8) : Prop := Lib.decDigits u = Lib.decDigits v ++ ds
theorem Left.len {u v : Nat} {ds : List UInt8} (h : Left u v ds) (hu : u < 18446744073709551616) : ds.length ≤ 19 := by
  have h1 := congrArg List.length h
  rw [List.length_append, Lib.decDigits_length, Lib.decDigits_length] at h1
  have h2 := Lib.nDigits_pos v
  have h3 : Lib.nDigits u ≤ 20 := Plain.nDigits_le u hu
  omega
theorem Left.go {u v : Nat} {ds : List UInt8} (h : Left u v ds) (hv : ¬ v < 10) : Left u (v / 10) (UInt8.ofNat (48 + v % 10) :: ds) := by
  unfold Left at *
  rw [h, Plain.decDigits_step v hv]; simp
theorem Left.done {u v : Nat} {ds : List UInt8} (h : Left u v ds) (hv : v < 10) : Lib.decDigits u = UInt8.ofNat (48 + v % 10) :: ds := by
  unfold Left at h
  rw [h, Lib.decDigits_one hv, Nat.mod_eq_of_lt hv]; rfl

/-- buf[k:]. -/
theorem run_tail (g k : Nat) (hk : k < 24) (W : World) :
    (Instr.sliceAt 48 (.pointer (some ⟨g, 0, none⟩)) (some (.int .i64 (k : Int))) none none).run Tryf.prog W = .ok (.slice (some ⟨g, k, none⟩) (24 - k) (24 - k)) W := by
  have hal : Tryf.prog.arrayLen 48 = 24 := by kernel_rfl
  have hel : Tryf.prog.elem 48 = 5 := by kernel_rfl
  have hsz : (sizeOf 5).run Tryf.prog W = .ok 1 W := by kernel_rfl
  rw [run_sliceAt_array_l W 48 ⟨g, 0, none⟩ (by rw [hal, hel]; exact Tryf.underlying48) .i64 (k : Int) (by omega) (by rw [hal]; omega), hel, hsz, hal]
  have e : (⟨g, 0, none⟩ : Addr).add (k * 1) = ⟨g, k, none⟩ := by unfold Addr.add; split <;> simp_all
  simp only [Result.andThen_ok, slicedAt, Int.toNat_natCast]
  rw [if_neg (by omega), e]

theorem ret_str {a b : ByteArray} (h : a = b) : Ending.returned (.string a) = .returned (.string b) := by rw [h]

set_option maxRecDepth 100000 in
set_option maxHeartbeats 2000000 in
theorem dec_pos (u : Nat) (h1 : u ≤ 9223372036854775807) (w : World) :
    Calls Tryf.prog 6 #[.int .i64 (u : Int)] w fun e w' => e = .returned (.string ⟨(Lib.itoa (u : Int)).toArray⟩) ∧ Below w.heap.size w w' := by
  go_enter Tryf.func6, Tryf.ntmps6
  go_wp2
  go_loopw [3, 5] (fun x i wr => ∃ (v m : Nat) (ds : List UInt8), v ≤ u ∧ x = .int .u64 v ∧ i = .int .i64 m ∧ Buf w wr m ds ∧ Left u v ds) (fun x _ _ => (intOf x).toNat)
  case atStart => exact ⟨u, 24, [], Nat.le_refl _, rfl, rfl, Buf.start w, by unfold Left; simp⟩
  case round =>
    obtain ⟨v, m, ds, hv, rfl, rfl, hbuf, hleft⟩ := hrel
    have hlen := hleft.len (by omega)
    have hm : m + ds.length = 24 := by obtain ⟨_, _, _, h, _⟩ := hbuf; exact h
    obtain ⟨k, rfl⟩ : ∃ k, m = k + 1 := ⟨m - 1, by omega⟩
    obtain ⟨x, hx⟩ := hbuf.cell k (by omega)
    have hf := hbuf.frozen k
    obtain ⟨d, hd⟩ : ∃ d, d = UInt8.ofNat (48 + v % 10) := ⟨_, rfl⟩
    have hput0 := hbuf.put d
    rw [hd, Plain.digit_toNat _ (Nat.mod_lt _ (by omega)), ← hd] at hput0
    have hput : Buf w (wr.setCell ⟨w.heap.size, k, none⟩ (.int .u8 (48 + (v : Int) % 10))) k (d :: ds) := hput0
    have Hd : Hid (d = UInt8.ofNat (48 + v % 10)) := hd
    clear hput0 hd
    have hk : k < 24 := by omega
    have HM : Hid (k + 1 + ds.length = 24) := hm
    clear hm
    by_cases hv10 : v < 10
    · have hz : ((v : Int) / 10 == 0) = true := by simp; omega
      have htail := run_tail w.heap.size k hk
      have htext := hput.text hk (24 - k) (by have := HM.out; simp; omega) (24 - k)
      have hB := hput.below
      have HD : Hid (Lib.decDigits u = d :: ds) := by show _ = _; rw [Hd.out]; exact hleft.done hv10
      go_wp2
      go_ret
      exact ⟨ret_str (by rw [Lib.itoa_nonneg, HD.out]), hB⟩
    · have hz : ((v : Int) / 10 == 0) = false := by simp; omega
      have hgo := hleft.go hv10
      rw [← Hd.out] at hgo
      go_wp2
      go_roundw
      case rel => exact ⟨v / 10, k, d :: ds, by omega, by go_num, rfl, hput, hgo⟩
      case measure => simp [intOf]; omega
set_option maxRecDepth 100000 in
set_option maxHeartbeats 2000000 in
theorem dec_neg (u : Nat) (h0 : 1 ≤ u) (h1 : u ≤ 9223372036854775808) (w : World) :
    Calls Tryf.prog 6 #[.int .i64 (-(u : Int))] w fun e w' => e = .returned (.string ⟨(Lib.itoa (-(u : Int))).toArray⟩) ∧ Below w.heap.size w w' := by
  go_enter Tryf.func6, Tryf.ntmps6
  go_wp2
  go_loopw [3, 5] (fun x i wr => ∃ (v m : Nat) (ds : List UInt8), v ≤ u ∧ x = .int .u64 v ∧ i = .int .i64 m ∧ Buf w wr m ds ∧ Left u v ds) (fun x _ _ => (intOf x).toNat)
  case atStart => exact ⟨u, 24, [], Nat.le_refl _, by go_num, rfl, Buf.start w, by unfold Left; simp⟩
  case round =>
    obtain ⟨v, m, ds, hv, rfl, rfl, hbuf, hleft⟩ := hrel
    have hlen := hleft.len (by omega)
    have hm : m + ds.length = 24 := by obtain ⟨_, _, _, h, _⟩ := hbuf; exact h
    obtain ⟨k, rfl⟩ : ∃ k, m = k + 1 := ⟨m - 1, by omega⟩
    obtain ⟨x, hx⟩ := hbuf.cell k (by omega)
    have hf := hbuf.frozen k
    obtain ⟨d, hd⟩ : ∃ d, d = UInt8.ofNat (48 + v % 10) := ⟨_, rfl⟩
    have hput0 := hbuf.put d
    rw [hd, Plain.digit_toNat _ (Nat.mod_lt _ (by omega)), ← hd] at hput0
    have hput : Buf w (wr.setCell ⟨w.heap.size, k, none⟩ (.int .u8 (48 + (v : Int) % 10))) k (d :: ds) := hput0
    have Hd : Hid (d = UInt8.ofNat (48 + v % 10)) := hd
    clear hput0 hd
    have hk : k < 24 := by omega
    have HM : Hid (k + 1 + ds.length = 24) := hm
    clear hm
    by_cases hv10 : v < 10
    · have hz : ((v : Int) / 10 == 0) = true := by simp; omega
      obtain ⟨q, rfl⟩ : ∃ q, k = q + 1 := ⟨k - 1, by have := HM.out; omega⟩
      have hput2 := hput.put 45
      have hmin : Buf w ((wr.setCell ⟨w.heap.size, q + 1, none⟩ (.int .u8 (48 + (v : Int) % 10))).setCell ⟨w.heap.size, q, none⟩ (.int .u8 45)) q (45 :: d :: ds) := hput2
      clear hput2
      obtain ⟨y, hy⟩ := hput.cell q (by omega)
      have hfy := hput.frozen q
      have hq : q < 24 := by omega
      have htail := run_tail w.heap.size q hq
      have htext := hmin.text hq (24 - q) (by have := HM.out; simp; omega) (24 - q)
      have hB := hmin.below
      have HD : Hid (Lib.decDigits u = d :: ds) := by show _ = _; rw [Hd.out]; exact hleft.done hv10
      go_wp2
      go_ret
      exact ⟨ret_str (by rw [Lib.itoa_neg u h0, HD.out]), hB⟩
    · have hz : ((v : Int) / 10 == 0) = false := by simp; omega
      have hgo := hleft.go hv10
      rw [← Hd.out] at hgo
      go_wp2
      go_roundw
      case rel => exact ⟨v / 10, k, d :: ds, by omega, by go_num, rfl, hput, hgo⟩
      case measure => simp [intOf]; omega
/-- zzDecimal, whole. -/
theorem dec_any (n : Int) (h0 : -9223372036854775808 ≤ n) (h1 : n ≤ 9223372036854775807) (w : World) :
    Calls Tryf.prog 6 #[.int .i64 n] w fun e w' => e = .returned (.string ⟨(Lib.itoa n).toArray⟩) ∧ Below w.heap.size w w' := by
  by_cases h : n < 0
  · obtain ⟨u, rfl⟩ : ∃ u : Nat, n = -(u : Int) := ⟨n.natAbs, by omega⟩
    exact dec_neg u (by omega) (by omega) w
  · obtain ⟨u, rfl⟩ : ∃ u : Nat, n = (u : Int) := ⟨n.toNat, by omega⟩
    exact dec_pos u (by omega) w

end Go.Proofs.Qxb6618809aFmt.Dec
