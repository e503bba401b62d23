/-
  THE WALKS OF exactText, literalText, ZZliteralText AND validRune: by the prover of this seat.
-/
import Derived.Test.Qxb6618762aRune
import Derived.Test.Qxb6618762aLitPlain
import Derived.WalkKit
import Derived.OwnWalk
import Derived.WalkLawsBesides
import Derived.Laws.IdiomStrings
import Derived.Laws.ResultCell
import Derived.Deep.QuietTactic
import Derived.BigQuiet
namespace Go.Proofs.Qxb6618762a.LitWalks
open Go.RowKit
set_option linter.unusedVariables false

/-- What 'held' reads as behind exactText(s). -/
def Held (B : Nat) (s : ByteArray) (h : Value) (w : World) : Prop :=
  (s.toList = [] ∧ h = .slice none 0 0) ∨ (s.toList ≠ [] ∧ ∃ g, h = .slice (some ⟨g, 0, none⟩) 1 1 ∧ B ≤ g ∧ g < w.heap.size ∧ w.cell? ⟨g, 0, none⟩ = some (.string s))

set_option maxHeartbeats 1000000 in
theorem exact_any (s : ByteArray) (w : World) :
    Calls Try.prog 19 #[.string s] w fun e w' => ∃ h, e = .returned (.agg #[.bool true, .string s, .string s, h, .bool false, .bool false]) ∧ Below w.heap.size w w' ∧ Held w.heap.size s h w' := by
  by_cases hs : s.toList = []
  · have hs' : s.toList.isEmpty = true := by simpa using hs
    go_enter Try.func19, Try.ntmps19
    go_wp2
    exact bodyPost_ret (v := .agg #[.bool true, .string s, .string s, .slice none 0 0, .bool false, .bool false]) (by simp [results, Try.results19, go_sem]) rfl
      ⟨_, rfl, ((Below.refl _ _).alloc (Nat.le_refl _) _).alloc (by simp) _, .inl ⟨hs, rfl⟩⟩
  · have hs' : s.toList.isEmpty = false := by simpa using hs
    go_enter Try.func19, Try.ntmps19
    go_wp2
    exact bodyPost_ret (v := .agg #[.bool true, .string s, .string s, .slice (some ⟨w.heap.size + 1 + 1, 0, none⟩) 1 1, .bool false, .bool false]) (by simp [results, Try.results19, go_sem]) rfl
      ⟨_, rfl, (((Below.refl _ _).alloc (Nat.le_refl _) _).alloc (by simp) _).alloc (by simp; omega) _, .inr ⟨hs, _, rfl, by omega, by simp, World.cell?_alloc_at _ _ _ _ (by simp)⟩⟩

/-- string(v), v a row of bytes that the call owns. -/
theorem conv_own {B : Nat} {w : World} {v : Value} {l : List UInt8} (h : w.ownsRow B 5 1 v l.length (Lib.byteCells l)) :
    (convert 36 9 v).run Try.prog w = .ok (.string ⟨l.toArray⟩) w := by
  obtain ⟨h1, h2⟩ := id h
  rcases h2 with ⟨rfl, h2⟩ | ⟨g, cap, cur, rfl, hb, hg, hle, hm, hsz, ht⟩
  · have : l = [] := List.eq_nil_of_length_eq_zero h2
    subst this
    rw [run_convert_bytes_string w 36 9 5 none 0 0 Try.underlying36 Try.underlying5 Try.underlying9]
    rfl
  · refine run_convert_bytes_back w 36 9 5 ⟨g, 0, none⟩ cap l Try.underlying36 Try.underlying5 Try.underlying9 ?_
    intro j hj
    refine h.cells rfl j _ ?_
    simp [Lib.byteCells, List.getElem?_eq_getElem hj]

theorem cell_setCell_other {w : World} {a b : Addr} {u : Value} (h : b.block ≠ a.block) : (w.setCell a u).cell? b = w.cell? b :=
  World.cell?_of_block (Below.heap_setCell w a u b.block h)
theorem size_setCell (w : World) (a : Addr) (u : Value) : (w.setCell a u).heap.size = w.heap.size := by simp [World.setCell]
/-- Held over a store into another block. -/
theorem Held.store {B : Nat} {s : ByteArray} {h : Value} {w : World} (k : Held B s h w) {a : Addr} (ha : a.block < B) (u : Value) : Held B s h (w.setCell a u) := by
  rcases k with k | ⟨k0, g, k1, k2, k3, k4⟩
  · exact .inl k
  · exact .inr ⟨k0, g, k1, k2, by rw [size_setCell]; exact k3, by rw [cell_setCell_other (by simp; omega)]; exact k4⟩
theorem Held.mono {B B' : Nat} {s : ByteArray} {h : Value} {w : World} (k : Held B s h w) (hB : B' ≤ B) : Held B' s h w := by
  rcases k with k | ⟨k0, g, k1, k2, k3, k4⟩
  · exact .inl k
  · exact .inr ⟨k0, g, k1, by omega, k3, k4⟩
theorem Held.alloc {B : Nat} {s : ByteArray} {h : Value} {w : World} (k : Held B s h w) (o : Obj) : Held B s h (w.alloc o) := by
  rcases k with k | ⟨k0, g, k1, k2, k3, k4⟩
  · exact .inl k
  · exact .inr ⟨k0, g, k1, k2, by simp; omega, by rw [World.cell?_alloc_past _ _ _ k3]; exact k4⟩
theorem Held.below {B C : Nat} {s : ByteArray} {h : Value} {w w' : World} (k : Held B s h w) (hb : Below C w w') (hC : w.heap.size ≤ C) : Held B s h w' := by
  rcases k with k | ⟨k0, g, k1, k2, k3, k4⟩
  · exact .inl k
  · exact .inr ⟨k0, g, k1, k2, by have := hb.size; omega, by rw [hb.cell (p := ⟨g, 0, none⟩) (by simp; omega)]; exact k4⟩

/-- A round's step: the row behind AppendRune. -/
theorem rel_step {B k : Nat} {zs : List Int} {w0 wr w1 : World} {o : Obj} {v v' : Value} {r : Int} (hk : k < zs.length) (hr : r = zs.getD k 0)
    (hown : wr.ownsRow B 5 1 v (Lit.encs (zs.take k)).length (Lib.byteCells (Lit.encs (zs.take k)))) (hb : Below B w0 wr) (hB : B ≤ wr.heap.size)
    (hown' : w1.ownsRow B 5 1 v' ((Lit.encs (zs.take k)).length + (Lib.runeCells r).length) (Lib.byteCells (Lit.encs (zs.take k)) ++ Lib.runeCells r)) (hg : (wr.alloc o).grownBy w1 v.ownBlock) :
    w1.ownsRow B 5 1 v' (Lit.encs (zs.take (k + 1))).length (Lib.byteCells (Lit.encs (zs.take (k + 1)))) ∧ Below B w0 w1 := by
  have e : Lit.encs (zs.take (k + 1)) = Lit.encs (zs.take k) ++ Lib.encodeRune r := by
    rw [List.take_succ_eq_append_getElem hk, Lit.encs_snoc, hr]
    simp [List.getD, List.getElem?_eq_getElem hk]
  refine ⟨?_, (hb.alloc hB o).grown hg (by simp; omega) (fun g hg => (hown.lt g hg).1)⟩
  rw [e, List.length_append, Lib.byteCells_append, Lib.byteCells_encodeRune, ← Lib.runeCells_length]
  exact hown'

set_option maxHeartbeats 2000000 in
theorem lit_some (zs : List Int) (b off c : Nat) (w : World) (hl : zs.length ≤ 65536) (hwf : ∀ z ∈ zs, -2147483648 ≤ z ∧ z ≤ 2147483647) (hb : b < w.heap.size)
    (hc : ∀ k, k < zs.length → w.cell? ⟨b, off + k, none⟩ = some (.int .i32 (zs.getD k 0))) :
    Calls Try.prog 14 #[.slice (some ⟨b, off, none⟩) zs.length c, .func (.func 15) #[] #[]] w fun e w' => ∃ h, e = .returned (.agg #[.bool true, .string ⟨(Lit.encs zs).toArray⟩, .string ⟨(Lit.encs zs).toArray⟩, h, .bool false, .bool false]) ∧ Below w.heap.size w w' ∧ Held w.heap.size ⟨(Lit.encs zs).toArray⟩ h w' := by
  go_enter Try.func14, Try.ntmps14
  go_wp2
  go_loopw [5, 10] (fun v i wr => ∃ k : Nat, k ≤ zs.length ∧ i = .int .i64 k ∧ wr.ownsRow (w.heap.size + 1) 5 1 v (Lit.encs (zs.take k)).length (Lib.byteCells (Lit.encs (zs.take k))) ∧
      Below (w.heap.size + 1) (w.alloc (Obj.cells #[Value.bool false, Value.string { data := #[] }, Value.string { data := #[] }, Value.slice none 0 0, Value.bool false, Value.bool false] 34)) wr)
    (fun _ i _ => zs.length - (intOf i).toNat)
  case atStart => exact ⟨0, Nat.zero_le _, rfl, World.ownsRow_nil _ _ _ _, Below.refl _ _⟩
  case round =>
    obtain ⟨k, hk, rfl, hown, hbel⟩ := hrel
    have hsz : w.heap.size + 1 ≤ wr.heap.size := by have := hbel.size; simpa using this
    by_cases hlt : k < zs.length
    · obtain ⟨r, hr⟩ : ∃ r, r = zs.getD k 0 := ⟨_, rfl⟩
      have hcell : wr.cell? ⟨b, off + k, none⟩ = some (.int .i32 r) := by
        rw [hbel.cell (p := ⟨b, off + k, none⟩) (by simp; omega), World.cell?_alloc_past _ _ _ (by exact hb), hc k hlt, hr]
      have hrb := hwf r (by rw [hr, List.getD_eq_getElem?_getD, List.getElem?_eq_getElem hlt]; simp)
      have hel := Lit.encs_len (zs.take k)
      have htl : (zs.take k).length ≤ k := List.length_take_le _ _
      have HR : Hid (r = zs.getD k 0) := hr
      clear hr
      go_wp2_with (first
        | (go_at_call 18; refine (Rune.app_any (w.heap.size + 1) _ _ _ r hrb.1 hrb.2 _ hown (by omega) hsz).mono ?_; rintro e w1 ⟨v', rfl, hown', o, hg⟩)
        | go_in)
      have R := rel_step hlt HR.out hown hbel hsz hown' hg
      clear hown' hg hown
      go_roundw
      case rel => exact ⟨k + 1, by omega, by go_num, R.1, R.2⟩
      case measure => simp [intOf]; omega
    · have hkk : k = zs.length := by omega
      subst hkk
      rw [List.take_length] at hown
      have hconv := conv_own hown
      go_wp2_with fail
      refine (exact_any _ _).mono ?_
      rintro e w1 ⟨h, rfl, hb1, hheld⟩
      have hcs : ∀ j, w1.cell? ⟨w.heap.size, j, none⟩ = (#[Value.bool false, Value.string { data := #[] }, Value.string { data := #[] }, Value.slice none 0 0, Value.bool false, Value.bool false] : Array Value)[j]? := fun j => by
        rw [hb1.cell (p := ⟨w.heap.size, j, none⟩) (by simp; omega), hbel.cell (p := ⟨w.heap.size, j, none⟩) (by simp)]; exact World.cell?_alloc_new _ _ _ _
      have hfs : ∀ j, w1.frozen? ⟨w.heap.size, j, none⟩ = false := fun j => by
        rw [hb1.frozen (p := ⟨w.heap.size, j, none⟩) (by simp; omega), hbel.frozen (p := ⟨w.heap.size, j, none⟩) (by simp)]; simp
      have hz1 : w.heap.size < w1.heap.size := by have := hb1.size; omega
      have hbig : Below w.heap.size w w1 := (((Below.refl _ _).alloc (Nat.le_refl _) _).trans (hbel.mono (by omega))).trans (hb1.mono (by omega))
      have hH : Hid (Held wr.heap.size ⟨(Lit.encs zs).toArray⟩ h w1) := hheld
      rcases hheld with ⟨he, rfl⟩ | ⟨he, g, rfl, hg0, hg1, hgc⟩
      all_goals
        go_wp2
        refine bodyPost_ret (v := .agg #[.bool true, .string ⟨(Lit.encs zs).toArray⟩, .string ⟨(Lit.encs zs).toArray⟩, _, .bool false, .bool false]) (by simp [results, Try.results14, go_sem, hcs]; rfl) rfl
          ⟨_, rfl, ?_, ?_⟩
        · exact (((((hbig.setCell (by simp) _).setCell (by simp) _).setCell (by simp) _).setCell (by simp) _).setCell (by simp) _).setCell (by simp) _
        · exact ((((((Held.store hH.out (by simp; omega) _).store (by simp; omega) _).store (by simp; omega) _).store (by simp; omega) _).store (by simp; omega) _).store (by simp; omega) _).mono (by omega)

set_option maxHeartbeats 2000000 in
theorem lit_zero (ao : Option Addr) (c : Nat) (w : World) :
    Calls Try.prog 14 #[.slice ao 0 c, .func (.func 15) #[] #[]] w fun e w' => e = .returned (.agg #[.bool true, .string ⟨#[]⟩, .string ⟨#[]⟩, .slice none 0 0, .bool false, .bool false]) ∧ Below w.heap.size w w' := by
  have hconv := conv_own (l := []) (World.ownsRow_nil (w.alloc (Obj.cells #[Value.bool false, Value.string { data := #[] }, Value.string { data := #[] }, Value.slice none 0 0, Value.bool false, Value.bool false] 34)) 0 5 1)
  go_enter Try.func14, Try.ntmps14
  go_wp2
  refine wp_loop_rounds 1 ?_
  rw [rounds_succ]
  go_wp2_with fail
  refine (exact_any _ _).mono ?_
  rintro e w1 ⟨h, rfl, hb1, hheld⟩
  have hcs : ∀ j, w1.cell? ⟨w.heap.size, j, none⟩ = (#[Value.bool false, Value.string { data := #[] }, Value.string { data := #[] }, Value.slice none 0 0, Value.bool false, Value.bool false] : Array Value)[j]? := fun j => by
    rw [hb1.cell (p := ⟨w.heap.size, j, none⟩) (by simp)]; exact World.cell?_alloc_new _ _ _ _
  have hfs : ∀ j, w1.frozen? ⟨w.heap.size, j, none⟩ = false := fun j => by
    rw [hb1.frozen (p := ⟨w.heap.size, j, none⟩) (by simp)]; simp
  have hz1 : w.heap.size < w1.heap.size := by have := hb1.size; simp at this; omega
  have hbig : Below w.heap.size w w1 := ((Below.refl _ _).alloc (Nat.le_refl _) _).trans (hb1.mono (by simp))
  rcases hheld with ⟨he, rfl⟩ | ⟨he, g, rfl, hg0, hg1, hgc⟩
  · go_wp2
    refine bodyPost_ret (v := .agg #[.bool true, .string ⟨#[]⟩, .string ⟨#[]⟩, .slice none 0 0, .bool false, .bool false]) (by simp [results, Try.results14, go_sem, hcs]) rfl
      ⟨rfl, ?_⟩
    exact (((((hbig.setCell (by simp) _).setCell (by simp) _).setCell (by simp) _).setCell (by simp) _).setCell (by simp) _).setCell (by simp) _
  · exact absurd (ByteArray.toList_mk []) he

set_option maxHeartbeats 2000000 in
theorem zz_some (zs : List Int) (b off c : Nat) (w : World) (hl : zs.length ≤ 65536) (hwf : ∀ z ∈ zs, -2147483648 ≤ z ∧ z ≤ 2147483647) (hb : b < w.heap.size)
    (hc : ∀ k, k < zs.length → w.cell? ⟨b, off + k, none⟩ = some (.int .i32 (zs.getD k 0))) :
    Calls Try.prog 7 #[.slice (some ⟨b, off, none⟩) zs.length c] w fun e w' => ∃ h, e = .returned (.tuple #[.bool true, .string ⟨(Lit.encs zs).toArray⟩, .string ⟨(Lit.encs zs).toArray⟩, h, .bool false, .bool false]) ∧ Below w.heap.size w w' ∧ Held w.heap.size ⟨(Lit.encs zs).toArray⟩ h w' := by
  go_enter Try.func7, Try.ntmps7
  go_wp2_with fail
  refine (lit_some zs b off c _ hl hwf hb hc).mono ?_
  rintro e w1 ⟨h, rfl, hb1, hheld⟩
  have hH : Hid (Held w.heap.size ⟨(Lit.encs zs).toArray⟩ h w1) := hheld
  rcases hheld with ⟨he, rfl⟩ | ⟨he, g, rfl, hg0, hg1, hgc⟩
  all_goals
    go_wp2
    go_quiet (fail)
    go_wp2
    refine bodyPost_ret (v := .tuple #[.bool true, .string ⟨(Lit.encs zs).toArray⟩, .string ⟨(Lit.encs zs).toArray⟩, _, .bool false, .bool false]) (by simp [results, Try.results7, go_sem]) rfl
      ⟨_, rfl, below_drewN (hb1.alloc hb1.size _) _, (hH.out.alloc _).below (below_drewN (Below.refl _ _) _) (Nat.le_refl _)⟩

set_option maxHeartbeats 2000000 in
theorem zz_zero (ao : Option Addr) (c : Nat) (w : World) :
    Calls Try.prog 7 #[.slice ao 0 c] w fun e w' => ∃ h, e = .returned (.tuple #[.bool true, .string ⟨(Lit.encs []).toArray⟩, .string ⟨(Lit.encs []).toArray⟩, h, .bool false, .bool false]) ∧ Below w.heap.size w w' ∧ Held w.heap.size ⟨(Lit.encs []).toArray⟩ h w' := by
  go_enter Try.func7, Try.ntmps7
  go_wp2_with fail
  refine (lit_zero ao c _).mono ?_
  rintro e w1 ⟨rfl, hb1⟩
  go_wp2
  go_quiet (fail)
  go_wp2
  refine bodyPost_ret (v := .tuple #[.bool true, .string ⟨#[]⟩, .string ⟨#[]⟩, .slice none 0 0, .bool false, .bool false]) (by simp [results, Try.results7, go_sem]) rfl
    ⟨_, rfl, below_drewN (hb1.alloc hb1.size _) _, .inl ⟨ByteArray.toList_mk [], rfl⟩⟩

/-- A slice that reads as the runes zs: it has none; or they lie in a block. -/
def Reads (w : World) (ao : Option Addr) (zs : List Int) : Prop :=
  zs = [] ∨ ∃ b off, ao = some ⟨b, off, none⟩ ∧ b < w.heap.size ∧ ∀ k, k < zs.length → w.cell? ⟨b, off + k, none⟩ = some (.int .i32 (zs.getD k 0))

theorem Reads.below {w w' : World} {ao : Option Addr} {zs : List Int} {C : Nat} (h : Reads w ao zs) (hb : Below C w w') (hC : w.heap.size ≤ C) : Reads w' ao zs := by
  rcases h with h | ⟨b, off, h1, h2, h3⟩
  · exact .inl h
  · exact .inr ⟨b, off, h1, by have := hb.size; omega, fun k hk => by rw [hb.cell (p := ⟨b, off + k, none⟩) (by simp; omega)]; exact h3 k hk⟩

/-- ZZliteralText, whole. -/
theorem zz_any (zs : List Int) (ao : Option Addr) (n c : Nat) (w : World) (hn : zs.length = n) (hl : zs.length ≤ 65536) (hwf : ∀ z ∈ zs, -2147483648 ≤ z ∧ z ≤ 2147483647) (hr : Reads w ao zs) :
    Calls Try.prog 7 #[.slice ao n c] w fun e w' => ∃ h, e = .returned (.tuple #[.bool true, .string ⟨(Lit.encs zs).toArray⟩, .string ⟨(Lit.encs zs).toArray⟩, h, .bool false, .bool false]) ∧ Below w.heap.size w w' ∧ Held w.heap.size ⟨(Lit.encs zs).toArray⟩ h w' := by
  subst hn
  rcases hr with rfl | ⟨b, off, rfl, h2, h3⟩
  · exact zz_zero ao c w
  · exact zz_some zs b off c w hl hwf h2 h3

theorem ret_int {k : IntKind} {a b : Int} (h : a = b) : Ending.returned (.int k a) = .returned (.int k b) := by rw [h]
set_option maxHeartbeats 1000000 in
theorem valid_any (r : Int) (w : World) :
    Calls Try.prog 8 #[.int .i32 r] w fun e w' => e = .returned (.int .i32 (Lit.vr r)) ∧ w' = w := by
  go_enter Try.func8, Try.ntmps8
  go_wp2
  all_goals
    go_ret
    exact ⟨ret_int (by unfold Lit.vr; split <;> omega), rfl⟩
end Go.Proofs.Qxb6618762a.LitWalks
