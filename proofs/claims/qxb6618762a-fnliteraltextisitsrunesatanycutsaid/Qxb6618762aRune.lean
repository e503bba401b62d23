/-
  THE SHELF's CONTRACT OF unicode/utf8.AppendRune AT THIS PROGRAM, IN PLAIN WORDS: written for this program by the kit's tools (lay-shelf.mjs, lay-plain.mjs), all but this one struck: onto a row of bytes that the call owns.
-/
import Derived.Shelf.Utf8.AppendRunePlain
import Derived.Test.Qxb6618762aRows
import Derived.WalkKit
import Derived.OwnWalk
import Derived.WalkLawsBesides
import Derived.Lib.RuneBytes
namespace Go.Proofs.Qxb6618762a.Rune
open Go.Shelf
def lays242_ren : Go.Shelf.Ren := ⟨fun | 242 => 18 | 278 => 20 | n => n, fun | 37 => 36 | 21 => 21 | 51 => 39 | 4 => 4 | 5 => 5 | 46 => 40 | n => n, fun | n => n⟩
theorem lays242 : Go.Proofs.Lays.n242 Try.prog lays242_ren := {
  mixed := by kernel_rfl
  f242 := Try.func18.trans (congrArg some (by kernel_rfl))
  f278 := Try.func20.trans (congrArg some (by kernel_rfl))
  t4 := Try.underlying4
  a4 := Try.isAgg4
  z4 := Try.sizeOf4
  v4 := Try.zeroValue4
  t5 := Try.underlying5
  a5 := Try.isAgg5
  z5 := Try.sizeOf5
  v5 := Try.zeroValue5
  t21 := Try.underlying21
  a21 := Try.isAgg21
  z21 := Try.sizeOf21
  v21 := Try.zeroValue21
  t37 := Try.underlying36
  a37 := Try.isAgg36
  z37 := Try.sizeOf36
  v37 := Try.zeroValue36
  t46 := Try.underlying40
  a46 := Try.isAgg40
  z46 := Try.sizeOf40
  v46 := Try.zeroValue40
  t51 := Try.underlying39
  a51 := Try.isAgg39
  z51 := Try.sizeOf39
  v51 := Try.zeroValue39 }

open Go.RowKit in
/-- AppendRune at every int32. -/
theorem app_any (B : Nat) (v : Value) (n : Nat) (xs : List Value) (r : Int) (hr0 : -2147483648 ≤ r) (hr1 : r ≤ 2147483647) (w : World) (hown : w.ownsRow B 5 1 v n xs) (hlen : n + 4 ≤ 140737488355328) (hBw : B ≤ w.heap.size) :
    Calls Try.prog 18 #[v, .int .i32 r] w fun e w' => ∃ v', e = .returned v' ∧ w'.ownsRow B 5 1 v' (n + (Lib.runeCells r).length) (xs ++ Lib.runeCells r) ∧ ∃ o, (w.alloc o).grownBy w' v.ownBlock := Any.utf8_AppendRune_plain lays242 (by kernel_rfl) B v n xs r hr0 hr1 w hown hlen hBw
end Go.Proofs.Qxb6618762a.Rune
