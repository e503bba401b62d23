/-
  THE WALKS OF compareText, compareRunes AND OF THE LAW ON THE ORDER: by the prover of this seat.
-/
import Derived.Test.Qxb6618762aCutWalk
namespace Go.Proofs.Qxb6618762a.OrderWalk
open Go.RowKit
open LitWalks CutWalk
set_option linter.unusedVariables false

set_option maxHeartbeats 1000000 in
theorem text_any (x y : ByteArray) (w : World) :
    Calls Try.prog 10 #[.string x, .string y] w fun e w' => e = .returned (.int .i64 (Lit.cmpT x.toList y.toList)) ∧ w' = w := by
  by_cases h : Op.bytesLess x.toList y.toList = true
  · go_enter Try.func10, Try.ntmps10
    go_wp2
    go_ret
    exact ⟨ret_int (by unfold Lit.cmpT; rw [if_pos h]), rfl⟩
  · have h' : Op.bytesLess x.toList y.toList = false := by simpa using h
    by_cases h2 : (x.toList == y.toList) = true
    · go_enter Try.func10, Try.ntmps10
      go_wp2
      go_ret
      exact ⟨ret_int (by unfold Lit.cmpT; rw [if_neg h, if_neg (by simp at h2; simp [h2])]), rfl⟩
    · have h2' : (x.toList == y.toList) = false := by simpa using h2
      go_enter Try.func10, Try.ntmps10
      go_wp2
      go_ret
      exact ⟨ret_int (by unfold Lit.cmpT; rw [if_neg h, if_pos ⟨h', by simpa using h2⟩]), rfl⟩

theorem cmpR_nil (zb : List Int) : Lit.cmpR [] zb = if 0 < zb.length then -1 else 0 := by cases zb <;> simp [Lit.cmpR]
theorem cmpR_nil' (za : List Int) : Lit.cmpR za [] = if 0 < za.length then 1 else 0 := by cases za <;> simp [Lit.cmpR]

set_option maxHeartbeats 1000000 in
theorem runes_nil (ao bo : Option Addr) (n ca cb : Nat) (hn : n ≤ 65536) (w : World) :
    Calls Try.prog 11 #[.slice ao 0 ca, .slice bo n cb] w fun e w' => e = .returned (.int .i64 (if 0 < n then -1 else 0)) ∧ w' = w := by
  by_cases h : 0 < n
  · have h' : (0 : Int) < (n : Int) := by omega
    go_enter Try.func11, Try.ntmps11
    go_wp2
    refine wp_loop_rounds 1 ?_
    rw [rounds_succ]
    go_wp2
    go_ret
    exact ⟨rfl, rfl⟩
  · obtain rfl : n = 0 := by omega
    go_enter Try.func11, Try.ntmps11
    go_wp2
    refine wp_loop_rounds 1 ?_
    rw [rounds_succ]
    go_wp2
    go_ret
    exact ⟨rfl, rfl⟩

set_option maxHeartbeats 1000000 in
theorem runes_nil' (ao bo : Option Addr) (n ca cb : Nat) (hn : n ≤ 65536) (h : 0 < n) (w : World) :
    Calls Try.prog 11 #[.slice ao n ca, .slice bo 0 cb] w fun e w' => e = .returned (.int .i64 1) ∧ w' = w := by
  have h' : (0 : Int) < (n : Int) := by omega
  go_enter Try.func11, Try.ntmps11
  go_wp2
  refine wp_loop_rounds 1 ?_
  rw [rounds_succ]
  go_wp2
  go_ret
  exact ⟨rfl, rfl⟩

theorem drop_cons {zs : List Int} {k : Nat} (h : k < zs.length) : zs.drop k = zs.getD k 0 :: zs.drop (k + 1) := by
  rw [List.drop_eq_getElem_cons h]; simp [List.getElem?_eq_getElem h]

set_option maxHeartbeats 2000000 in
theorem runes_some (za zb : List Int) (b1 o1 c1 b2 o2 c2 : Nat) (w : World) (ha : za.length ≤ 65536) (hb : zb.length ≤ 65536)
    (r1 : ∀ k, k < za.length → w.cell? ⟨b1, o1 + k, none⟩ = some (.int .i32 (za.getD k 0))) (r2 : ∀ k, k < zb.length → w.cell? ⟨b2, o2 + k, none⟩ = some (.int .i32 (zb.getD k 0))) :
    Calls Try.prog 11 #[.slice (some ⟨b1, o1, none⟩) za.length c1, .slice (some ⟨b2, o2, none⟩) zb.length c2] w fun e w' => e = .returned (.int .i64 (Lit.cmpR za zb)) ∧ w' = w := by
  go_enter Try.func11, Try.ntmps11
  go_wp2
  go_loop [5] (fun i => ∃ k : Nat, k ≤ za.length ∧ k ≤ zb.length ∧ i = .int .i64 k ∧ Hid (Lit.cmpR (za.drop k) (zb.drop k) = Lit.cmpR za zb)) (fun i => za.length - (intOf i).toNat)
  case atStart => exact ⟨0, Nat.zero_le _, Nat.zero_le _, rfl, rfl⟩
  case round =>
    obtain ⟨k, hk1, hk2, rfl, HC⟩ := hrel
    by_cases l1 : k < za.length
    · by_cases l2 : k < zb.length
      · obtain ⟨x, hx⟩ : ∃ x, x = za.getD k 0 := ⟨_, rfl⟩
        obtain ⟨y, hy⟩ : ∃ y, y = zb.getD k 0 := ⟨_, rfl⟩
        have e1 := r1 k l1
        have e2 := r2 k l2
        rw [← hx] at e1
        rw [← hy] at e2
        have HS : Hid (Lit.cmpR za zb = if Lit.vr x < Lit.vr y then -1 else if Lit.vr y < Lit.vr x then 1 else Lit.cmpR (za.drop (k + 1)) (zb.drop (k + 1))) := by
          show Lit.cmpR za zb = _
          rw [← HC.out, drop_cons l1, drop_cons l2, ← hx, ← hy]; rfl
        clear hx hy r1 r2
        have m1 : (k : Int) < (za.length : Int) := by omega
        have m2 : (k : Int) < (zb.length : Int) := by omega
        rcases (show Lit.vr x < Lit.vr y ∨ Lit.vr y < Lit.vr x ∨ (¬ Lit.vr x < Lit.vr y ∧ ¬ Lit.vr y < Lit.vr x) by omega) with t | t | ⟨t1, t2⟩
        · go_wp2_with (go_at_call 8; refine (valid_any _ _).mono ?_; rintro e w' ⟨rfl, rfl⟩)
          go_ret
          exact ⟨ret_int (by rw [HS.out, if_pos t]), rfl⟩
        · go_wp2_with (go_at_call 8; refine (valid_any _ _).mono ?_; rintro e w' ⟨rfl, rfl⟩)
          go_ret
          exact ⟨ret_int (by rw [HS.out, if_neg (by omega), if_pos t]), rfl⟩
        · go_wp2_with (go_at_call 8; refine (valid_any _ _).mono ?_; rintro e w' ⟨rfl, rfl⟩)
          go_round
          case rel => exact ⟨k + 1, by omega, by omega, by go_num, by show _ = _; rw [HS.out, if_neg (by omega), if_neg (by omega)]⟩
          case measure => simp [intOf]; omega
      · have hz : zb.length = k := by omega
        have m1 : (k : Int) < (za.length : Int) := by omega
        have m2 : ¬ (k : Int) < (zb.length : Int) := by omega
        have m3 : (zb.length : Int) < (za.length : Int) := by omega
        have HF : Hid (Lit.cmpR za zb = 1) := by
          show Lit.cmpR za zb = 1
          rw [← HC.out, drop_cons l1, show zb.drop k = [] from List.drop_eq_nil_of_le (by omega)]; rfl
        clear hz
        go_wp2
        go_ret
        exact ⟨ret_int (by rw [HF.out]), rfl⟩
    · have m1 : ¬ (k : Int) < (za.length : Int) := by omega
      by_cases l2 : k < zb.length
      · have m3 : (za.length : Int) < (zb.length : Int) := by omega
        have HF : Hid (Lit.cmpR za zb = -1) := by
          show Lit.cmpR za zb = -1
          rw [← HC.out, drop_cons l2, show za.drop k = [] from List.drop_eq_nil_of_le (by omega)]; rfl
        go_wp2
        go_ret
        exact ⟨ret_int (by rw [HF.out]), rfl⟩
      · have m3 : ¬ (za.length : Int) < (zb.length : Int) := by omega
        have m4 : ¬ (zb.length : Int) < (za.length : Int) := by omega
        have HF : Hid (Lit.cmpR za zb = 0) := by
          show Lit.cmpR za zb = 0
          rw [← HC.out, show za.drop k = [] from List.drop_eq_nil_of_le (by omega), show zb.drop k = [] from List.drop_eq_nil_of_le (by omega)]; rfl
        go_wp2
        go_ret
        exact ⟨ret_int (by rw [HF.out]), rfl⟩

theorem runes_any (za zb : List Int) (ao bo : Option Addr) (n m c1 c2 : Nat) (w : World) (hn : za.length = n) (hm : zb.length = m) (ha : za.length ≤ 65536) (hb : zb.length ≤ 65536) (r1 : Reads w ao za) (r2 : Reads w bo zb) :
    Calls Try.prog 11 #[.slice ao n c1, .slice bo m c2] w fun e w' => e = .returned (.int .i64 (Lit.cmpR za zb)) ∧ w' = w := by
  subst hn; subst hm
  rcases r1 with rfl | ⟨b1, o1, rfl, _, r1⟩
  · rw [cmpR_nil]; exact runes_nil ao bo _ c1 c2 hb w
  · rcases r2 with rfl | ⟨b2, o2, rfl, _, r2⟩
    · by_cases h : 0 < za.length
      · rw [cmpR_nil', if_pos h]; exact runes_nil' _ bo _ c1 c2 ha h w
      · have : za = [] := List.eq_nil_of_length_eq_zero (by omega)
        subst this
        rw [cmpR_nil]; exact runes_nil _ bo _ c1 c2 hb w
    · exact runes_some za zb b1 o1 c1 b2 o2 c2 w ha hb r1 r2

set_option maxHeartbeats 4000000 in
theorem law_ss (za : List Int) (ha : za.length ≤ 65536) (wa : ∀ z ∈ za, -2147483648 ≤ z ∧ z ≤ 2147483647) (zb : List Int) (hb : zb.length ≤ 65536) (wb : ∀ z ∈ zb, -2147483648 ≤ z ∧ z ≤ 2147483647) (w : World) (x : Addr) (ca : Nat) (hx : ∀ i, i < za.length → w.cell? (x.add i) = some (.int .i32 (za.getD i 0))) (y : Addr) (cb : Nat) (hy : ∀ i, i < zb.length → w.cell? (y.add i) = some (.int .i32 (zb.getD i 0))) :
    Calls Try.prog 4 #[.slice (some x) za.length ca, .slice (some y) zb.length cb] w fun e w' => e = .returned (.bool true) ∧ Below w.heap.size w w' := by
  have na := fun wx (t : Nat) (c : Nat) => run_neq_slice_nil_any (P := Try.prog) wx 22 21 (some x) t c 0 0 Try.underlying22
  have ma := run_make_row' (P := Try.prog) 22 21 (.int .i32 0) 4 Try.underlying22 info21 rfl .i64 .i64 za.length (by omega) (by omega)
  have pa := copy_fresh w x ca za hx
  have nb := fun wx (t : Nat) (c : Nat) => run_neq_slice_nil_any (P := Try.prog) wx 22 21 (some y) t c 0 0 Try.underlying22
  have mb := run_make_row' (P := Try.prog) 22 21 (.int .i32 0) 4 Try.underlying22 info21 rfl .i64 .i64 zb.length (by omega) (by omega)
  have hy' : ∀ i, i < zb.length → (w.alloc (.cells (za.map (Value.int .i32)).toArray 21)).cell? (y.add i) = some (.int .i32 (zb.getD i 0)) := fun i hi => (World.cell?_alloc_lt _ _ _ (World.block_lt_of_cell? w _ (hy i hi))).trans (hy i hi)
  have pb := copy_fresh (w.alloc (.cells (za.map (Value.int .i32)).toArray 21)) y cb zb hy'
  rw [World.size_alloc] at pb
  have ra1 : Reads (w.alloc (.cells (za.map (Value.int .i32)).toArray 21)) (some ⟨w.heap.size, 0, none⟩) za := by have h0 := reads_of_block (k := 0) (heap_alloc_new w (.cells (za.map (Value.int .i32)).toArray 21)); rw [List.drop_zero] at h0; exact h0
  have ra : Reads ((w.alloc (.cells (za.map (Value.int .i32)).toArray 21)).alloc (.cells (zb.map (Value.int .i32)).toArray 21)) (some ⟨w.heap.size, 0, none⟩) za := ra1.below ((Below.refl _ _).alloc (Nat.le_refl _) _) (Nat.le_refl _)
  clear ra1
  have rb : Reads ((w.alloc (.cells (za.map (Value.int .i32)).toArray 21)).alloc (.cells (zb.map (Value.int .i32)).toArray 21)) (some ⟨w.heap.size + 1, 0, none⟩) zb := by have h0 := reads_of_block (k := 0) (heap_alloc_new (w.alloc (.cells (za.map (Value.int .i32)).toArray 21)) (.cells (zb.map (Value.int .i32)).toArray 21)); rw [List.drop_zero, World.size_alloc] at h0; exact h0
  have hW : Below w.heap.size w ((w.alloc (.cells (za.map (Value.int .i32)).toArray 21)).alloc (.cells (zb.map (Value.int .i32)).toArray 21)) := ((Below.refl _ _).alloc (Nat.le_refl _) _).alloc (by simp) _
  have HC := Lit.cmp_same za zb
  go_enter Try.func4, Try.ntmps4
  go_wp2_with (go_at_call 9; go_in)
  refine (zz_any za _ _ _ _ rfl ha wa ra).mono ?_
  rintro e w3 ⟨h3, rfl, hb3, _⟩
  have ra3 := ra.below hb3 (Nat.le_refl _)
  have rb3 := rb.below hb3 (Nat.le_refl _)
  have hW3 := hW.trans (hb3.mono hW.size)
  go_wp2_with fail
  refine (zz_any zb _ _ _ _ rfl hb wb rb3).mono ?_
  rintro e w4 ⟨h4, rfl, hb4, _⟩
  have ra4 := ra3.below hb4 (Nat.le_refl _)
  have rb4 := rb3.below hb4 (Nat.le_refl _)
  have hW4 := hW3.trans (hb4.mono hW3.size)
  clear ra3 rb3 hb3 hb4 hW3
  go_wp2_with fail
  refine (text_any _ _ _).mono ?_
  rintro e w' ⟨rfl, rfl⟩
  rw [ByteArray.toList_mk, ByteArray.toList_mk, HC]
  go_wp2_with fail
  refine (runes_any za zb _ _ _ _ _ _ _ rfl rfl ha hb ra4 rb4).mono ?_
  rintro e w' ⟨rfl, rfl⟩
  go_wp2
  go_ret
  exact ⟨rfl, hW4⟩

set_option maxHeartbeats 4000000 in
theorem law_sn (za : List Int) (ha : za.length ≤ 65536) (wa : ∀ z ∈ za, -2147483648 ≤ z ∧ z ≤ 2147483647) (w : World) (x : Addr) (ca : Nat) (hx : ∀ i, i < za.length → w.cell? (x.add i) = some (.int .i32 (za.getD i 0))) :
    Calls Try.prog 4 #[.slice (some x) za.length ca, .slice none 0 0] w fun e w' => e = .returned (.bool true) ∧ Below w.heap.size w w' := by
  have na := fun wx (t : Nat) (c : Nat) => run_neq_slice_nil_any (P := Try.prog) wx 22 21 (some x) t c 0 0 Try.underlying22
  have ma := run_make_row' (P := Try.prog) 22 21 (.int .i32 0) 4 Try.underlying22 info21 rfl .i64 .i64 za.length (by omega) (by omega)
  have pa := copy_fresh w x ca za hx
  have nb := fun wx (t : Nat) (c : Nat) => run_neq_slice_nil_any (P := Try.prog) wx 22 21 none t c 0 0 Try.underlying22
  have ra1 : Reads (w.alloc (.cells (za.map (Value.int .i32)).toArray 21)) (some ⟨w.heap.size, 0, none⟩) za := by have h0 := reads_of_block (k := 0) (heap_alloc_new w (.cells (za.map (Value.int .i32)).toArray 21)); rw [List.drop_zero] at h0; exact h0
  have ra : Reads (w.alloc (.cells (za.map (Value.int .i32)).toArray 21)) (some ⟨w.heap.size, 0, none⟩) za := ra1
  clear ra1
  have rb : Reads (w.alloc (.cells (za.map (Value.int .i32)).toArray 21)) none ([] : List Int) := .inl rfl
  have hW : Below w.heap.size w (w.alloc (.cells (za.map (Value.int .i32)).toArray 21)) := (Below.refl _ _).alloc (Nat.le_refl _) _
  have HC := Lit.cmp_same za []
  go_enter Try.func4, Try.ntmps4
  go_wp2_with (go_at_call 9; go_in)
  refine (zz_any za _ _ _ _ rfl ha wa ra).mono ?_
  rintro e w3 ⟨h3, rfl, hb3, _⟩
  have ra3 := ra.below hb3 (Nat.le_refl _)
  have rb3 := rb.below hb3 (Nat.le_refl _)
  have hW3 := hW.trans (hb3.mono hW.size)
  go_wp2_with fail
  refine (zz_any [] _ _ _ _ rfl (by simp) (fun z hz => by simp at hz) rb3).mono ?_
  rintro e w4 ⟨h4, rfl, hb4, _⟩
  have ra4 := ra3.below hb4 (Nat.le_refl _)
  have rb4 := rb3.below hb4 (Nat.le_refl _)
  have hW4 := hW3.trans (hb4.mono hW3.size)
  clear ra3 rb3 hb3 hb4 hW3
  go_wp2_with fail
  refine (text_any _ _ _).mono ?_
  rintro e w' ⟨rfl, rfl⟩
  rw [ByteArray.toList_mk, ByteArray.toList_mk, HC]
  go_wp2_with fail
  refine (runes_any za [] _ _ _ _ _ _ _ rfl rfl ha (by simp) ra4 rb4).mono ?_
  rintro e w' ⟨rfl, rfl⟩
  go_wp2
  go_ret
  exact ⟨rfl, hW4⟩

set_option maxHeartbeats 4000000 in
theorem law_ns (zb : List Int) (hb : zb.length ≤ 65536) (wb : ∀ z ∈ zb, -2147483648 ≤ z ∧ z ≤ 2147483647) (w : World) (y : Addr) (cb : Nat) (hy : ∀ i, i < zb.length → w.cell? (y.add i) = some (.int .i32 (zb.getD i 0))) :
    Calls Try.prog 4 #[.slice none 0 0, .slice (some y) zb.length cb] w fun e w' => e = .returned (.bool true) ∧ Below w.heap.size w w' := by
  have na := fun wx (t : Nat) (c : Nat) => run_neq_slice_nil_any (P := Try.prog) wx 22 21 none t c 0 0 Try.underlying22
  have nb := fun wx (t : Nat) (c : Nat) => run_neq_slice_nil_any (P := Try.prog) wx 22 21 (some y) t c 0 0 Try.underlying22
  have mb := run_make_row' (P := Try.prog) 22 21 (.int .i32 0) 4 Try.underlying22 info21 rfl .i64 .i64 zb.length (by omega) (by omega)
  have pb := copy_fresh w y cb zb hy
  have ra : Reads (w.alloc (.cells (zb.map (Value.int .i32)).toArray 21)) none ([] : List Int) := .inl rfl
  have rb : Reads (w.alloc (.cells (zb.map (Value.int .i32)).toArray 21)) (some ⟨w.heap.size, 0, none⟩) zb := by have h0 := reads_of_block (k := 0) (heap_alloc_new w (.cells (zb.map (Value.int .i32)).toArray 21)); rw [List.drop_zero] at h0; exact h0
  have hW : Below w.heap.size w (w.alloc (.cells (zb.map (Value.int .i32)).toArray 21)) := (Below.refl _ _).alloc (Nat.le_refl _) _
  have HC := Lit.cmp_same [] zb
  go_enter Try.func4, Try.ntmps4
  go_wp2_with (go_at_call 9; go_in)
  refine (zz_any [] _ _ _ _ rfl (by simp) (fun z hz => by simp at hz) ra).mono ?_
  rintro e w3 ⟨h3, rfl, hb3, _⟩
  have ra3 := ra.below hb3 (Nat.le_refl _)
  have rb3 := rb.below hb3 (Nat.le_refl _)
  have hW3 := hW.trans (hb3.mono hW.size)
  go_wp2_with fail
  refine (zz_any zb _ _ _ _ rfl hb wb rb3).mono ?_
  rintro e w4 ⟨h4, rfl, hb4, _⟩
  have ra4 := ra3.below hb4 (Nat.le_refl _)
  have rb4 := rb3.below hb4 (Nat.le_refl _)
  have hW4 := hW3.trans (hb4.mono hW3.size)
  clear ra3 rb3 hb3 hb4 hW3
  go_wp2_with fail
  refine (text_any _ _ _).mono ?_
  rintro e w' ⟨rfl, rfl⟩
  rw [ByteArray.toList_mk, ByteArray.toList_mk, HC]
  go_wp2_with fail
  refine (runes_any [] zb _ _ _ _ _ _ _ rfl rfl (by simp) hb ra4 rb4).mono ?_
  rintro e w' ⟨rfl, rfl⟩
  go_wp2
  go_ret
  exact ⟨rfl, hW4⟩

set_option maxHeartbeats 4000000 in
theorem law_nn (w : World) :
    Calls Try.prog 4 #[.slice none 0 0, .slice none 0 0] w fun e w' => e = .returned (.bool true) ∧ Below w.heap.size w w' := by
  have na := fun wx (t : Nat) (c : Nat) => run_neq_slice_nil_any (P := Try.prog) wx 22 21 none t c 0 0 Try.underlying22
  have ra : Reads w none ([] : List Int) := .inl rfl
  have rb : Reads w none ([] : List Int) := .inl rfl
  have hW : Below w.heap.size w w := Below.refl _ _
  have HC := Lit.cmp_same [] []
  go_enter Try.func4, Try.ntmps4
  go_wp2_with (go_at_call 9; go_in)
  refine (zz_any [] _ _ _ _ rfl (by simp) (fun z hz => by simp at hz) ra).mono ?_
  rintro e w3 ⟨h3, rfl, hb3, _⟩
  have ra3 := ra.below hb3 (Nat.le_refl _)
  have rb3 := rb.below hb3 (Nat.le_refl _)
  have hW3 := hW.trans (hb3.mono hW.size)
  go_wp2_with fail
  refine (zz_any [] _ _ _ _ rfl (by simp) (fun z hz => by simp at hz) rb3).mono ?_
  rintro e w4 ⟨h4, rfl, hb4, _⟩
  have ra4 := ra3.below hb4 (Nat.le_refl _)
  have rb4 := rb3.below hb4 (Nat.le_refl _)
  have hW4 := hW3.trans (hb4.mono hW3.size)
  clear ra3 rb3 hb3 hb4 hW3
  go_wp2_with fail
  refine (text_any _ _ _).mono ?_
  rintro e w' ⟨rfl, rfl⟩
  rw [ByteArray.toList_mk, HC]
  go_wp2_with fail
  refine (runes_any [] [] _ _ _ _ _ _ _ rfl rfl (by simp) (by simp) ra4 rb4).mono ?_
  rintro e w' ⟨rfl, rfl⟩
  go_wp2
  go_ret
  exact ⟨rfl, hW4⟩

end Go.Proofs.Qxb6618762a.OrderWalk
