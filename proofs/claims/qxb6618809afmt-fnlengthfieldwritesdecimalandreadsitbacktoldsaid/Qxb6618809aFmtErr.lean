/-
  THE WALK OF fmt.Errorf AT THIS PROGRAM's ONE FORMAT, AND OF THE CLOSURE 'parse': by the prover of this seat. (The closed facts over fmt's stop: after the kit's Derived/Test/CheckFmt.lean, at this program's numbers.)
-/
import Derived.Test.Qxb6618809aFmtField
import Derived.Stop.CallBack
import Derived.Stop.IfaceNil
import GoSem.ClaimData
namespace Go.Proofs.Qxb6618809aFmt.Err
open Go.RowKit Go.Extern.Stop Go.Stop Go.Extern
set_option linter.unusedVariables false

theorem call21 (args : Array Value) (w : World) : (callFunc 21 args).run Tryf.prog w = ((FmtStop.errorf #[9, 58] #[50] args).run Tryf.prog w).andThen fun v w' => .ok (.value v) w' :=
  run_callFunc_extern Tryf.func21 (by kernel_rfl) (by kernel_rfl) (by kernel_rfl) (by kernel_rfl) args w
theorem guardF (name : String) (w : World) : (FmtStop.guard name).run Tryf.prog w = .ok () w := by kernel_rfl
/-- The format's bytes. -/
theorem fmt0 : FmtStop.printed? ⟨#[37, 115, 32, 37, 113, 32, 105, 115, 32, 110, 111, 116, 32, 97, 32, 119, 104, 111, 108, 101, 32, 110, 117, 109, 98, 101, 114, 32, 111, 102, 32, 98, 121, 116, 101, 115]⟩ 2 = some [(0, 115, false), (1, 113, false)] := by kernel_rfl
theorem fmt0r (w : World) : (FmtDoors.printed ⟨#[37, 115, 32, 37, 113, 32, 105, 115, 32, 110, 111, 116, 32, 97, 32, 119, 104, 111, 108, 101, 32, 110, 117, 109, 98, 101, 114, 32, 111, 102, 32, 98, 121, 116, 101, 115]⟩ 2).run Tryf.prog w = .ok [(0, 115, false), (1, 113, false)] w := by kernel_rfl
def shape9 : List UInt8 := [12, 6, 0, 0, 0, 0, 0, 0, 0, 115, 116, 114, 105, 110, 103]
theorem op9_115w (name : String) (x : ByteArray) (w : World) : (FmtStop.operand name true 115 false (.iface 9 (.string x))).run Tryf.prog w = .ok (shape9, FmtStop.pack x.data.toList) w := by kernel_rfl
theorem op9_113w (name : String) (x : ByteArray) (w : World) : (FmtStop.operand name true 113 false (.iface 9 (.string x))).run Tryf.prog w = .ok (shape9, FmtStop.pack x.data.toList) w := by kernel_rfl
theorem ptr69 (w : World) : (FmtStop.ptrTo "errors.errorString").run Tryf.prog w = .ok 69 w := by kernel_rfl
theorem elem69 (w : World) : (elemOf 69).run Tryf.prog w = .ok 71 w := by kernel_rfl
attribute [local go_sem] call21 guardF fmt0 fmt0r op9_115w op9_113w ptr69 elem69

set_option maxHeartbeats 1000000 in
theorem errorf_any (F : Interp) (key v : ByteArray) (g : Nat) (w : World) (hF : F.answers w.tape) (h0 : w.cell? ⟨g, 0, none⟩ = some (.iface 9 (.string key))) (h1 : w.cell? ⟨g, 1, none⟩ = some (.iface 9 (.string v))) :
    Calls Tryf.prog 16 #[.string ⟨#[37, 115, 32, 37, 113, 32, 105, 115, 32, 110, 111, 116, 32, 97, 32, 119, 104, 111, 108, 101, 32, 110, 117, 109, 98, 101, 114, 32, 111, 102, 32, 98, 121, 116, 101, 115]⟩, .slice (some ⟨g, 0, none⟩) 2 2] w fun e w' => ∃ a, e = .returned (.iface 69 (.pointer (some a))) ∧ Below w.heap.size w w' := by
  have hF' := answers_open hF
  go_enter Tryf.func16, Tryf.ntmps16
  go_wp2
  go_ret
  exact ⟨_, rfl, ((Below.refl _ _).alloc (Nat.le_refl _) _).drew⟩

theorem below_bytes (w : World) (t : ByteArray) : Below w.heap.size w (Lib.bytesWorld w 5 t) :=
  ⟨rfl, rfl, rfl, by rw [Lib.bytesWorld_size]; omega, fun k hk => Lib.bytesWorld_at_old w 5 t k hk⟩
theorem below_parse {w w' : World} (h : w' = w ∨ ∃ t, w' = Lib.bytesWorld w 5 t) : Below w.heap.size w w' := by
  rcases h with rfl | ⟨t, rfl⟩
  · exact Below.refl _ _
  · exact below_bytes w t

theorem cell_set {w : World} {b o : Nat} {x v : Value} (h : w.cell? ⟨b, o, none⟩ = some x) : (w.setCell ⟨b, o, none⟩ v).cell? ⟨b, o, none⟩ = some v := by
  go_simp
/-- The closure 'parse' at a numeral that is not negative: it stores the number. -/
theorem parse_ok (n : Int) (h0 : 0 ≤ n) (h1 : n ≤ 9223372036854775807) (v : ByteArray) (hv : v.data.toList = Lib.itoa n) (B q k p : Nat) (x : Value) (w : World) (hB : B ≤ q) (hqs : q < w.heap.size)
    (hq : w.cell? ⟨q, 8, none⟩ = some x) (hf : w.frozen? ⟨q, 8, none⟩ = false) (hps : p < w.heap.size) (hp : w.cell? ⟨p, 0, none⟩ = some (.func (.func 11) #[] #[])) :
    Calls Tryf.prog 14 #[.pointer (some ⟨q, 0, none⟩), .string v, .pointer (some ⟨k, 0, none⟩), .pointer (some ⟨p, 0, none⟩)] w fun e w' => e = .returned .nilIface ∧ w'.cell? ⟨q, 8, none⟩ = some (.int .i64 n) ∧ Below B w w' := by
  have hpi : Lib.parseIntB 64 v.data.toList = .ok n := by rw [hv]; exact Plain.parse_itoa n (by omega) h1
  have hlen : v.size ≤ 9223372036854775806 := by
    have := Lib.itoa_length_le n (by omega) h1
    have e : v.data.toList.length = v.size := Array.length_toList
    rw [hv] at e; omega
  go_enter Tryf.func14, Tryf.ntmps14
  go_wp2_with fail
  refine (Shelf.strconv_ParseInt_10_at64_ok v hlen n hpi _).mono ?_
  rintro e w1 ⟨rfl, hw1⟩
  have hb1 := below_parse hw1
  have hq1 : w1.cell? ⟨q, 8, none⟩ = some x := by rw [hb1.cell (p := ⟨q, 8, none⟩) (by exact hqs)]; exact hq
  have hf1 : w1.frozen? ⟨q, 8, none⟩ = false := by rw [hb1.frozen (p := ⟨q, 8, none⟩) (by exact hqs)]; exact hf
  have hp1 : w1.cell? ⟨p, 0, none⟩ = some (.func (.func 11) #[] #[]) := by rw [hb1.cell (p := ⟨p, 0, none⟩) (by exact hps)]; exact hp
  clear hw1 hpi hlen
  go_wp2_with (go_at_call 11; go_in)
  go_ret
  exact ⟨rfl, cell_set hq1, (hb1.mono (by omega)).setCell (by exact hB) _⟩

/-- The closure 'parse' at a negative numeral: an error that is not nil; nothing that was there has turned. -/
theorem parse_neg (F : Interp) (n : Int) (h0 : -9223372036854775808 ≤ n) (h1 : n < 0) (key v : ByteArray) (hv : v.data.toList = Lib.itoa n) (q k p : Nat) (w : World) (hF : F.answers w.tape)
    (hks : k < w.heap.size) (hk : w.cell? ⟨k, 0, none⟩ = some (.string key)) :
    Calls Tryf.prog 14 #[.pointer (some ⟨q, 0, none⟩), .string v, .pointer (some ⟨k, 0, none⟩), .pointer (some ⟨p, 0, none⟩)] w fun e w' => ∃ a, e = .returned (.iface 69 (.pointer (some a))) ∧ Below w.heap.size w w' := by
  have hpi : Lib.parseIntB 64 v.data.toList = .ok n := by rw [hv]; exact Plain.parse_itoa n h0 (by omega)
  have hlen : v.size ≤ 9223372036854775806 := by
    have := Lib.itoa_length_le n h0 (by omega)
    have e : v.data.toList.length = v.size := Array.length_toList
    rw [hv] at e; omega
  go_enter Tryf.func14, Tryf.ntmps14
  go_wp2_with fail
  refine (Shelf.strconv_ParseInt_10_at64_ok v hlen n hpi _).mono ?_
  rintro e w1 ⟨rfl, hw1⟩
  have hb1 := below_parse hw1
  have hk1 : w1.cell? ⟨k, 0, none⟩ = some (.string key) := by rw [hb1.cell (p := ⟨k, 0, none⟩) (by exact hks)]; exact hk
  have hF1 : F.answers (w1.alloc (.cells #[.iface 9 (.string key), .iface 9 (.string v)] 20)).tape := by
    rw [show (w1.alloc (.cells #[.iface 9 (.string key), .iface 9 (.string v)] 20)).tape = w1.tape from rfl, hb1.tape]; exact hF
  clear hw1 hpi hlen
  go_wp2_with fail
  refine (errorf_any F key v w1.heap.size _ hF1 (World.cell?_alloc_new _ _ _ _) (World.cell?_alloc_new _ _ _ _)).mono ?_
  rintro e w2 ⟨a, rfl, hb2⟩
  go_wp2
  go_ret
  exact ⟨_, rfl, (hb1.alloc hb1.size _).trans (hb2.mono (by have := hb1.size; simp; omega))⟩
end Go.Proofs.Qxb6618809aFmt.Err
