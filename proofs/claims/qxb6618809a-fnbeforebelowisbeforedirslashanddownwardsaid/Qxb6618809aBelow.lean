/-
  THE PLAIN LAWS AND THE WALKS OF strings.HasPrefix, beforeBelow AND ZZbeforeBelow: by the prover of this seat.
-/
import Derived.Test.Qxb6618809aRows
import Derived.WalkKit
import Derived.ProofKit
import Derived.WalkLawsBesides
import Derived.WalkSpells
namespace Go.Proofs.Qxb6618809a.Below
open Go.RowKit
set_option linter.unusedVariables false

/-! ### plain -/
theorem lt_irrefl' (a : UInt8) : ¬ a < a := by rw [UInt8.lt_iff_toNat_lt]; omega
theorem less_same : ∀ (l p q : List UInt8), Op.bytesLess (l ++ p) (l ++ q) = Op.bytesLess p q
  | [], _, _ => rfl
  | a :: l, p, q => by simp [Op.bytesLess, less_same l p q]
theorem less_right : ∀ (p q r : List UInt8), Op.bytesLess p q = true → Op.bytesLess p (q ++ r) = true
  | _, [], _, h => by simp [Op.bytesLess] at h
  | [], b :: q, r, _ => by simp [Op.bytesLess]
  | a :: p, b :: q, r, h => by
    simp only [Op.bytesLess, List.cons_append, Bool.or_eq_true, Bool.and_eq_true, decide_eq_true_eq, beq_iff_eq] at h ⊢
    rcases h with h | ⟨rfl, h⟩
    · exact .inl h
    · exact .inr ⟨rfl, less_right p q r h⟩
/-- q < c, and q is not before p: p < c. -/
theorem less_down : ∀ (p q c : List UInt8), Op.bytesLess q c = true → Op.bytesLess q p = false → Op.bytesLess p c = true
  | _, _, [], h, _ => by simp [Op.bytesLess] at h
  | [], _, _ :: _, _, _ => by simp [Op.bytesLess]
  | _ :: _, [], _ :: _, _, h => by simp [Op.bytesLess] at h
  | a :: p, b :: q, d :: c, h, k => by
    simp only [Op.bytesLess, Bool.or_eq_true, Bool.and_eq_true, decide_eq_true_eq, beq_iff_eq, Bool.or_eq_false_iff, Bool.and_eq_false_iff, decide_eq_false_iff_not] at h k ⊢
    obtain ⟨k1, k2⟩ := k
    by_cases e : b = a
    · subst e
      rcases h with h | ⟨rfl, h⟩
      · exact .inl h
      · refine .inr ⟨rfl, less_down p q c h ?_⟩
        rcases k2 with k2 | k2
        · simp at k2
        · exact k2
    · left
      have e' : b.toNat ≠ a.toNat := fun h => e (UInt8.toNat_inj.1 h)
      rw [UInt8.lt_iff_toNat_lt] at k1 ⊢
      rcases h with h | ⟨rfl, h⟩
      · rw [UInt8.lt_iff_toNat_lt] at h; omega
      · omega
theorem less_asymm : ∀ (p q : List UInt8), Op.bytesLess p q = true → Op.bytesLess q p = false
  | _, [], h => by simp [Op.bytesLess] at h
  | [], b :: q, _ => by simp [Op.bytesLess]
  | a :: p, b :: q, h => by
    simp only [Op.bytesLess, Bool.or_eq_true, Bool.and_eq_true, decide_eq_true_eq, beq_iff_eq] at h
    rcases h with h | ⟨rfl, h⟩
    · have h1 : ¬ b < a := by rw [UInt8.lt_iff_toNat_lt] at h ⊢; omega
      have h2 : b ≠ a := by rintro rfl; rw [UInt8.lt_iff_toNat_lt] at h; omega
      simp [Op.bytesLess, h1, h2]
    · have k1 := less_asymm p q h
      simp [Op.bytesLess, k1]
/-- p <= d. -/
theorem below_le (p d : List UInt8) (h : (Op.bytesLess p d || p == d) = true) : Op.bytesLess p (d ++ [47]) = true := by
  simp only [Bool.or_eq_true, beq_iff_eq] at h
  rcases h with h | rfl
  · exact less_right p d [47] h
  · have := less_same p [] [47]
    rw [List.append_nil] at this
    rw [this]; rfl
/-- d is no head of p, and p > d. -/
theorem below_not : ∀ (p d : List UInt8), (Op.bytesLess p d || p == d) = false → ¬ d <+: p → Op.bytesLess p (d ++ [47]) = false
  | _, [], _, h => absurd (List.nil_prefix) h
  | [], b :: d, h, _ => by simp [Op.bytesLess] at h
  | a :: p, b :: d, h, k => by
    by_cases e : a = b
    · subst e
      have ih := below_not p d (by simpa [Op.bytesLess, lt_irrefl'] using h) (fun hh => k (by simpa using hh))
      simpa [Op.bytesLess, lt_irrefl'] using ih
    · have : ¬ a < b := by
        intro hl; simp [Op.bytesLess, hl] at h
      simp [Op.bytesLess, this, e]
/-- d is a head of p and a byte follows. -/
theorem below_byte (d : List UInt8) (c : UInt8) (r : List UInt8) : Op.bytesLess (d ++ c :: r) (d ++ [47]) = decide (c < 47) := by
  rw [less_same]
  simp only [Op.bytesLess]
  cases r <;> simp

/-! ### the walks -/
theorem ret_bool {a b : Bool} (h : a = b) : Ending.returned (.bool a) = .returned (.bool b) := by rw [h]

theorem take_of_extract (s : ByteArray) (n : Nat) : (s.extract 0 n).toList = s.toList.take n := by
  rw [ByteArray.toList_eq, ByteArray.toList_eq]; simp

def hpB (s t : ByteArray) : Bool := decide (t.toList <+: s.toList)
theorem size_toList (s : ByteArray) : s.toList.length = s.size := by rw [ByteArray.toList_eq]; exact Array.length_toList
theorem hpB_short {s t : ByteArray} (h : s.size < t.size) : hpB s t = false := by
  unfold hpB
  rw [decide_eq_false_iff_not]
  intro hp
  have := hp.length_le
  rw [size_toList, size_toList] at this
  omega
theorem hpB_take {s t : ByteArray} : hpB s t = (s.toList.take t.size == t.toList) := by
  rw [Bool.eq_iff_iff]
  unfold hpB
  rw [decide_eq_true_eq, beq_iff_eq, List.prefix_iff_eq_take, size_toList]
  exact eq_comm

set_option maxHeartbeats 1000000 in
theorem has_any (s t : ByteArray) (w : World) (hs : s.size ≤ 9223372036854775807) (ht : t.size ≤ 9223372036854775807) :
    Calls Try.prog 9 #[.string s, .string t] w fun e w' => e = .returned (.bool (hpB s t)) ∧ w' = w := by
  by_cases h : s.size < t.size
  · have h' : (s.size : Int) < (t.size : Int) := by omega
    go_enter Try.func9, Try.ntmps9
    go_wp2
    go_ret
    exact ⟨ret_bool (by rw [hpB_short h]), rfl⟩
  · have h' : (t.size : Int) ≤ (s.size : Int) := by omega
    go_enter Try.func9, Try.ntmps9
    go_wp2
    go_ret
    exact ⟨ret_bool (by rw [hpB_take, take_of_extract]), rfl⟩

/-- What beforeBelow answers: p < dir + the slash. -/
def bbB (p d : ByteArray) : Bool := Op.bytesLess p.toList (d.toList ++ [47])

theorem bb_byte {p d : ByteArray} (h : hpB p d = true) (hlt : d.size < p.size) : bbB p d = decide ((p[d.size].toNat : Int) < 47) := by
  unfold hpB at h
  rw [decide_eq_true_eq] at h
  obtain ⟨r, hr⟩ := h
  have hl := congrArg List.length hr
  rw [List.length_append, size_toList, size_toList] at hl
  cases r with
  | nil => simp at hl; omega
  | cons c r =>
    have hc : p[d.size] = c := by
      have h1 : p.toList[d.size]? = some c := by
        rw [← hr, List.getElem?_append_right (by rw [size_toList]; omega), size_toList]; simp
      have h2 : p.toList[d.size]? = some p[d.size] := by
        rw [ByteArray.toList_eq]
        have : d.size < p.data.toList.length := by rw [Array.length_toList]; exact hlt
        rw [List.getElem?_eq_getElem this]; rfl
      rw [h2] at h1; simpa using h1
    unfold bbB
    rw [← hr, below_byte, hc, Bool.eq_iff_iff, decide_eq_true_eq, decide_eq_true_eq, UInt8.lt_iff_toNat_lt]
    rw [show (47 : UInt8).toNat = 47 from rfl]
    omega
theorem bb_longer {p d : ByteArray} (h : hpB p d = true) (hn : (Op.bytesLess p.toList d.toList || p.toList == d.toList) = false) : d.size < p.size := by
  unfold hpB at h
  rw [decide_eq_true_eq] at h
  have hl := h.length_le
  rw [size_toList, size_toList] at hl
  rcases Nat.lt_or_ge d.size p.size with k | k
  · exact k
  · exfalso
    have := h.eq_of_length_le (by rw [size_toList, size_toList]; exact k)
    rw [this] at hn
    simp at hn

set_option maxHeartbeats 1000000 in
theorem below_any (p d : ByteArray) (w : World) (hp : p.size ≤ 1048576) (hd : d.size ≤ 1048576) :
    Calls Try.prog 8 #[.string p, .string d] w fun e w' => e = .returned (.bool (bbB p d)) ∧ w' = w := by
  by_cases h : (Op.bytesLess p.toList d.toList || p.toList == d.toList) = true
  · go_enter Try.func8, Try.ntmps8
    go_wp2_with (go_at_call 9; refine (has_any _ _ _ (by omega) (by omega)).mono ?_; rintro e w' ⟨rfl, rfl⟩)
    go_ret
    exact ⟨ret_bool (below_le _ _ h).symm, rfl⟩
  · have h' : (Op.bytesLess p.toList d.toList || p.toList == d.toList) = false := by simpa using h
    by_cases k : hpB p d = true
    · have hlt := bb_longer k h'
      have hlt' : (d.size : Int) < (p.size : Int) := by omega
      have HB : Hid (bbB p d = decide ((p[d.size].toNat : Int) < 47)) := bb_byte k hlt
      clear h
      go_enter Try.func8, Try.ntmps8
      go_wp2_with (go_at_call 9; refine (has_any _ _ _ (by omega) (by omega)).mono ?_; rintro e w' ⟨rfl, rfl⟩)
      go_ret
      exact ⟨ret_bool (by rw [HB.out]), rfl⟩
    · have k' : hpB p d = false := by simpa using k
      go_enter Try.func8, Try.ntmps8
      go_wp2_with (go_at_call 9; refine (has_any _ _ _ (by omega) (by omega)).mono ?_; rintro e w' ⟨rfl, rfl⟩)
      go_ret
      exact ⟨ret_bool (below_not _ _ h' (by unfold hpB at k; simpa using k)).symm, rfl⟩

theorem zz_any (p d : ByteArray) (w : World) (hp : p.size ≤ 1048576) (hd : d.size ≤ 1048576) :
    Calls Try.prog 6 #[.string p, .string d] w fun e w' => e = .returned (.bool (bbB p d)) ∧ w' = w := by
  go_enter Try.func6, Try.ntmps6
  go_wp2_with (go_at_call 8; refine (below_any _ _ _ hp hd).mono ?_; rintro e w' ⟨rfl, rfl⟩)
  go_ret
  exact ⟨rfl, rfl⟩

theorem toList_append (a b : ByteArray) : (a ++ b).toList = a.toList ++ b.toList := by
  rw [ByteArray.toList_eq, ByteArray.toList_eq, ByteArray.toList_eq, ByteArray.data_append]; simp
theorem toList_slash : (ByteArray.mk #[47]).toList = [47] := ByteArray.toList_mk [47]
end Go.Proofs.Qxb6618809a.Below
