/-
  THE WALK OF THE LAW, for whatever function stands in fmt's place: by the prover of this seat.
-/
import Derived.Test.Qxb6618809aFmtWraps
import Derived.Test.Qxb6618809aFmtDec
namespace Go.Proofs.Qxb6618809aFmt.Law
open Go.RowKit Go.Extern.Stop Go.Stop Go.Extern
open Go.Proofs.Qxb6618809aFmt.Field Go.Proofs.Qxb6618809aFmt.Err Go.Proofs.Qxb6618809aFmt.Wraps Go.Proofs.Qxb6618809aFmt.Dec
set_option linter.unusedVariables false

/-- string(v), v a row of bytes that the call owns. -/
theorem conv_own {B : Nat} {w : World} {v : Value} {l : List UInt8} (h : w.ownsRow B 5 1 v l.length (Lib.byteCells l)) :
    (convert 23 9 v).run Tryf.prog w = .ok (.string ⟨l.toArray⟩) w := by
  obtain ⟨h1, h2⟩ := id h
  rcases h2 with ⟨rfl, h2⟩ | ⟨g, cap, cur, rfl, hb, hg, hle, hm, hsz, ht⟩
  · have : l = [] := List.eq_nil_of_length_eq_zero h2
    subst this
    rw [run_convert_bytes_string w 23 9 5 none 0 0 Tryf.underlying23 Tryf.underlying5 Tryf.underlying9]
    rfl
  · refine run_convert_bytes_back w 23 9 5 ⟨g, 0, none⟩ cap l Tryf.underlying23 Tryf.underlying5 Tryf.underlying9 ?_
    intro j hj
    refine h.cells rfl j _ ?_
    simp [Lib.byteCells, List.getElem?_eq_getElem hj]

set_option maxRecDepth 100000 in
set_option maxHeartbeats 1000000 in
theorem law_big (key : ByteArray) (n start : Int) (w : World) (hk : 1048576 < key.size) (hm : key.size ≤ 9223372036854775807) :
    Calls Tryf.prog 3 #[.string key, .int .i64 n, .int .i64 start] w fun e w' => e = .returned (.bool true) ∧ Below w.heap.size w w' := by
  go_enter Tryf.func3, Tryf.ntmps3
  go_wp2
  go_ret
  exact ⟨rfl, Below.refl _ _⟩

set_option maxRecDepth 100000 in
set_option maxHeartbeats 2000000 in
theorem law_small (F : Interp) (key : ByteArray) (n start : Int) (w : World) (hk : key.size ≤ 1048576) (h0 : -9223372036854775808 ≤ n) (h1 : n ≤ 9223372036854775807) (hF : F.answers w.tape)
    (htab : Lib.TabBelow Tryf.prog w.heap.size w Shelf.powName .u64 Lib.pow10Tab) :
    Calls Tryf.prog 3 #[.string key, .int .i64 n, .int .i64 start] w fun e w' => e = .returned (.bool true) ∧ Below w.heap.size w w' := by
  obtain ⟨X, hX⟩ : ∃ X, X = ByteArray.mk (Lib.itoa n).toArray := ⟨_, rfl⟩
  have hXl : X.data.toList = Lib.itoa n := by rw [hX]
  by_cases hn : n < 0
  · go_enter Tryf.func3, Tryf.ntmps3
    go_wp2_with (go_at_call 4; go_in)
    refine (zzformat_any key n h0 h1 _ htab).mono ?_
    rintro e w1 ⟨v', rfl, hown, hb1⟩
    have hconv := conv_own hown
    rw [← hX] at hconv
    go_wp2_with fail
    refine (dec_any n h0 h1 _).mono ?_
    rw [← hX]
    rintro e w2 ⟨rfl, hb2⟩
    have hB2 : Below w.heap.size w w2 := hb1.trans (hb2.mono hb1.size)
    have hF2 : F.answers w2.tape := by rw [hB2.tape]; exact hF
    have HX : Hid (X.data.toList = Lib.itoa n) := hXl
    clear hconv hown hb2 hX hXl
    go_wp2_with fail
    refine (zzparse_neg F n start h0 hn key X HX.out _ hF2).mono ?_
    rintro e w3 ⟨rfl, hb3⟩
    have hB3 := hB2.trans (hb3.mono hB2.size)
    go_wp2_with fail
    refine (zzkey_any key _).mono ?_
    rintro e w4 ⟨rfl, hb4⟩
    have hB4 := hB3.trans (hb4.mono hB3.size)
    go_wp2_with fail
    refine (zzsame_any key n start _).mono ?_
    rintro e w5 ⟨rfl, hb5⟩
    have hB5 := hB4.trans (hb5.mono hB4.size)
    go_wp2
    go_ret
    exact ⟨rfl, hB5⟩
  · go_enter Tryf.func3, Tryf.ntmps3
    go_wp2_with (go_at_call 4; go_in)
    refine (zzformat_any key n h0 h1 _ htab).mono ?_
    rintro e w1 ⟨v', rfl, hown, hb1⟩
    have hconv := conv_own hown
    rw [← hX] at hconv
    go_wp2_with fail
    refine (dec_any n h0 h1 _).mono ?_
    rw [← hX]
    rintro e w2 ⟨rfl, hb2⟩
    have hB2 : Below w.heap.size w w2 := hb1.trans (hb2.mono hb1.size)
    have HX : Hid (X.data.toList = Lib.itoa n) := hXl
    clear hconv hown hb2 hX hXl
    go_wp2_with fail
    refine (zzparse_ok n start (by omega) h1 key X HX.out _).mono ?_
    rintro e w3 ⟨rfl, hb3⟩
    have hB3 := hB2.trans (hb3.mono hB2.size)
    go_wp2_with fail
    refine (zzkey_any key _).mono ?_
    rintro e w4 ⟨rfl, hb4⟩
    have hB4 := hB3.trans (hb4.mono hB3.size)
    go_wp2_with fail
    refine (zzsame_any key n start _).mono ?_
    rintro e w5 ⟨rfl, hb5⟩
    have hB5 := hB4.trans (hb5.mono hB4.size)
    go_wp2
    go_ret
    exact ⟨rfl, hB5⟩
end Go.Proofs.Qxb6618809aFmt.Law
