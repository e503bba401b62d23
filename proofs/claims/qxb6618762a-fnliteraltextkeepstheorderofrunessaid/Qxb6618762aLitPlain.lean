/-
  THE PLAIN LAWS UNDER THE TWO STATEMENTS ON literalText: no program in sight. 'vr': a rune as the law's validRune reads it; 'encs': the bytes of the runes, one behind the other.
-/
import Derived.Lib.MapLaws
import Derived.Lib.RuneBytes
import GoSem.Conv.StringToRunes
import GoSem.Op.String
namespace Go.Proofs.Qxb6618762a.Lit

def vr (r : Int) : Int := if r < 0 ∨ 1114111 < r ∨ (55296 ≤ r ∧ r ≤ 57343) then 65533 else r
def encs (zs : List Int) : List UInt8 := zs.flatMap Lib.encodeRune

theorem vr_bad {r : Int} (h : r < 0 ∨ 1114111 < r ∨ (55296 ≤ r ∧ r ≤ 57343)) : vr r = 65533 := if_pos h
theorem vr_good {r : Int} (h : ¬ (r < 0 ∨ 1114111 < r ∨ (55296 ≤ r ∧ r ≤ 57343))) : vr r = r := if_neg h
theorem vr_valid (r : Int) : 0 ≤ vr r ∧ vr r ≤ 1114111 ∧ (vr r < 55296 ∨ 57343 < vr r) := by
  unfold vr; split <;> omega

theorem enc_vr (r : Int) : Lib.encodeRune r = Lib.encodeRune (vr r) := by
  by_cases h : r < 0 ∨ 1114111 < r ∨ (55296 ≤ r ∧ r ≤ 57343)
  · rw [vr_bad h]
    unfold Lib.encodeRune
    rw [Lib.encodeRuneZ_bad (by omega), Lib.encodeRuneZ_three (by omega)]
    decide
  · rw [vr_good h]

theorem encs_nil : encs [] = [] := rfl
theorem encs_cons (z : Int) (zs : List Int) : encs (z :: zs) = Lib.encodeRune z ++ encs zs := by simp [encs]
theorem encs_append (a b : List Int) : encs (a ++ b) = encs a ++ encs b := by simp [encs]
theorem encs_snoc (a : List Int) (z : Int) : encs (a ++ [z]) = encs a ++ Lib.encodeRune z := by simp [encs]
theorem enc_len (z : Int) : 1 ≤ (Lib.encodeRune z).length ∧ (Lib.encodeRune z).length ≤ 4 := by
  have := Lib.encodeRuneZ_length z
  simpa [Lib.encodeRune] using this
theorem encs_len (zs : List Int) : zs.length ≤ (encs zs).length ∧ (encs zs).length ≤ 4 * zs.length := by
  induction zs with
  | nil => simp [encs]
  | cons z zs ih =>
    have := enc_len z
    rw [encs_cons, List.length_append, List.length_cons]; omega

def by' (n : Int) : UInt8 := n.toNat.toUInt8
theorem by_toNat {n : Int} (h0 : 0 ≤ n) (h1 : n < 256) : (by' n).toNat = n.toNat := by
  unfold by'
  rw [show n.toNat.toUInt8 = UInt8.ofNat n.toNat from rfl, UInt8.toNat_ofNat']
  omega

theorem enc_one {r : Int} (h0 : 0 ≤ r) (h1 : r ≤ 127) : Lib.encodeRune r = [by' r] := by
  unfold Lib.encodeRune; rw [Lib.encodeRuneZ_one h0 h1]; rfl
theorem enc_two {r : Int} (h0 : 128 ≤ r) (h1 : r ≤ 2047) : Lib.encodeRune r = [by' (192 + r / 64), by' (128 + r % 64)] := by
  unfold Lib.encodeRune; rw [Lib.encodeRuneZ_two h0 h1]; rfl
theorem enc_three {r : Int} (h : (2048 ≤ r ∧ r < 55296) ∨ (57343 < r ∧ r ≤ 65535)) : Lib.encodeRune r = [by' (224 + r / 4096), by' (128 + r / 64 % 64), by' (128 + r % 64)] := by
  unfold Lib.encodeRune; rw [Lib.encodeRuneZ_three h]; rfl
theorem enc_four {r : Int} (h0 : 65536 ≤ r) (h1 : r ≤ 1114111) : Lib.encodeRune r = [by' (240 + r / 262144), by' (128 + r / 4096 % 64), by' (128 + r / 64 % 64), by' (128 + r % 64)] := by
  unfold Lib.encodeRune; rw [Lib.encodeRuneZ_four h0 h1]; rfl

/-- What is decoded at the head of a rune's own bytes. -/
theorem decodeL_valid (r : Int) (h0 : 0 ≤ r) (h1 : r ≤ 1114111) (hs : r < 55296 ∨ 57343 < r) (post : List UInt8) :
    Lib.decodeL (Lib.encodeRune r ++ post) = (r.toNat, (Lib.encodeRune r).length) := by
  rw [Lib.decodeL_N]
  by_cases c1 : r ≤ 127
  · rw [enc_one h0 c1]
    simp only [List.cons_append, List.nil_append, List.getD_cons_zero, List.length_cons, List.length_nil]
    rw [by_toNat (by omega) (by omega)]
    unfold Lib.decodeN
    rw [if_pos (by omega)]
  by_cases c2 : r ≤ 2047
  · rw [enc_two (by omega) c2]
    simp only [List.cons_append, List.nil_append, List.getD_cons_zero, List.getD_cons_succ, List.length_cons, List.length_nil]
    rw [by_toNat (by omega) (by omega), by_toNat (n := 128 + r % 64) (by omega) (by omega)]
    unfold Lib.decodeN
    rw [if_neg (by omega), if_pos (by omega), if_pos (by omega)]
    congr 1; omega
  by_cases c3 : r ≤ 65535
  · rw [enc_three (by omega)]
    simp only [List.cons_append, List.nil_append, List.getD_cons_zero, List.getD_cons_succ, List.length_cons, List.length_nil]
    rw [by_toNat (by omega) (by omega), by_toNat (n := 128 + r / 64 % 64) (by omega) (by omega), by_toNat (n := 128 + r % 64) (by omega) (by omega)]
    unfold Lib.decodeN
    rw [if_neg (by omega), if_neg (by omega), if_pos (by omega), if_pos (by omega)]
    congr 1; omega
  · rw [enc_four (by omega) h1]
    simp only [List.cons_append, List.nil_append, List.getD_cons_zero, List.getD_cons_succ, List.length_cons, List.length_nil]
    rw [by_toNat (by omega) (by omega), by_toNat (n := 128 + r / 4096 % 64) (by omega) (by omega), by_toNat (n := 128 + r / 64 % 64) (by omega) (by omega), by_toNat (n := 128 + r % 64) (by omega) (by omega)]
    unfold Lib.decodeN
    rw [if_neg (by omega), if_neg (by omega), if_neg (by omega), if_pos (by omega), if_pos (by omega)]
    congr 1; omega

theorem decodeL_enc (z : Int) (post : List UInt8) : Lib.decodeL (Lib.encodeRune z ++ post) = ((vr z).toNat, (Lib.encodeRune z).length) := by
  obtain ⟨h0, h1, h2⟩ := vr_valid z
  rw [enc_vr z]
  exact decodeL_valid (vr z) h0 h1 h2 post

/-- '[]rune(p)' of the runes' bytes: the runes, each as validRune reads it. -/
theorem runes_from : ∀ (zs : List Int) (pre : List UInt8) (acc : Array Value) (bound : Nat), (encs zs).length ≤ bound →
    Conv.runesFrom ⟨(pre ++ encs zs).toArray⟩ bound pre.length acc = acc ++ (zs.map fun z => Value.int .i32 (vr z)).toArray
  | [], pre, acc, 0, _ => by simp [Conv.runesFrom]
  | [], pre, acc, bound + 1, _ => by
    unfold Conv.runesFrom
    rw [if_neg (by simp [encs, ByteArray.size])]
    simp
  | z :: zs, pre, acc, 0, h => by
    have := enc_len z
    rw [encs_cons, List.length_append] at h
    omega
  | z :: zs, pre, acc, bound + 1, h => by
    have hl := enc_len z
    have hv := vr_valid z
    rw [encs_cons, List.length_append] at h
    have hd := Lib.decodeL_drop ⟨(pre ++ encs (z :: zs)).toArray⟩ pre.length
    rw [show (ByteArray.mk (pre ++ encs (z :: zs)).toArray).data.toList.drop pre.length = Lib.encodeRune z ++ encs zs by simp [encs_cons], decodeL_enc] at hd
    unfold Conv.runesFrom
    rw [if_pos (by simp [encs_cons, ByteArray.size]; omega), ← hd]
    have ih := runes_from zs (pre ++ Lib.encodeRune z) (acc.push (.int .i32 (Int.ofNat (vr z).toNat))) bound (by omega)
    rw [List.length_append, List.append_assoc, ← encs_cons] at ih
    simp only
    rw [ih, show Int.ofNat (vr z).toNat = vr z by simp; omega]
    simp

theorem runes_of (zs : List Int) : Conv.runesFrom ⟨(encs zs).toArray⟩ (encs zs).length 0 #[] = (zs.map fun z => Value.int .i32 (vr z)).toArray := by
  have := runes_from zs [] #[] (encs zs).length (Nat.le_refl _)
  simpa using this

/-! ### the order -/
def lessZ : List Int → List Int → Prop
  | m :: p, n :: q => m < n ∨ (m = n ∧ lessZ p q)
  | _, _ => False
def bytes (l : List Int) : Prop := ∀ x ∈ l, 0 ≤ x ∧ x < 256

theorem less_of_lessZ : ∀ (l l' : List Int) (p q : List UInt8), bytes l → bytes l' → lessZ l l' → Op.bytesLess (l.map by' ++ p) (l'.map by' ++ q) = true
  | [], _, _, _, _, _, h => by simp [lessZ] at h
  | _ :: _, [], _, _, _, _, h => by simp [lessZ] at h
  | m :: l, n :: l', p, q, hl, hl', h => by
    have a := hl m (by simp)
    have b := hl' n (by simp)
    have ta := by_toNat a.1 a.2
    have tb := by_toNat b.1 b.2
    simp only [List.map_cons, List.cons_append, Op.bytesLess, Bool.or_eq_true, Bool.and_eq_true, decide_eq_true_eq, beq_iff_eq]
    rcases h with h | ⟨h, h'⟩
    · left; rw [UInt8.lt_iff_toNat_lt, ta, tb]; omega
    · right
      exact ⟨by rw [h], less_of_lessZ l l' p q (fun x hx => hl x (by simp [hx])) (fun x hx => hl' x (by simp [hx])) h'⟩

theorem lessZ_enc (x y : Int) (hx0 : 0 ≤ x) (hx1 : x ≤ 1114111) (hxs : x < 55296 ∨ 57343 < x) (hy1 : y ≤ 1114111) (hys : y < 55296 ∨ 57343 < y) (h : x < y) : lessZ (Lib.encodeRuneZ x) (Lib.encodeRuneZ y) := by
  rcases (show x ≤ 127 ∨ (128 ≤ x ∧ x ≤ 2047) ∨ ((2048 ≤ x ∧ x < 55296) ∨ (57343 < x ∧ x ≤ 65535)) ∨ 65536 ≤ x by omega) with a | a | a | a <;>
  rcases (show y ≤ 127 ∨ (128 ≤ y ∧ y ≤ 2047) ∨ ((2048 ≤ y ∧ y < 55296) ∨ (57343 < y ∧ y ≤ 65535)) ∨ 65536 ≤ y by omega) with b | b | b | b
  all_goals first
    | (exfalso; omega)
    | (first | rw [Lib.encodeRuneZ_one hx0 a] | rw [Lib.encodeRuneZ_two a.1 a.2] | rw [Lib.encodeRuneZ_three a] | rw [Lib.encodeRuneZ_four a hx1]
       first | rw [Lib.encodeRuneZ_one (by omega) b] | rw [Lib.encodeRuneZ_two b.1 b.2] | rw [Lib.encodeRuneZ_three b] | rw [Lib.encodeRuneZ_four b hy1]
       simp only [lessZ]
       omega)

theorem less_enc (x y : Int) (p q : List UInt8) (h : vr x < vr y) : Op.bytesLess (Lib.encodeRune x ++ p) (Lib.encodeRune y ++ q) = true := by
  obtain ⟨a0, a1, a2⟩ := vr_valid x
  obtain ⟨b0, b1, b2⟩ := vr_valid y
  rw [enc_vr x, enc_vr y]
  exact less_of_lessZ _ _ p q (Lib.encodeRuneZ_byte _) (Lib.encodeRuneZ_byte _) (lessZ_enc _ _ a0 a1 a2 b1 b2 h)

theorem less_same : ∀ (l p q : List UInt8), Op.bytesLess (l ++ p) (l ++ q) = Op.bytesLess p q
  | [], _, _ => rfl
  | a :: l, p, q => by simp [Op.bytesLess, less_same l p q]
theorem less_asymm : ∀ (p q : List UInt8), Op.bytesLess p q = true → Op.bytesLess q p = false ∧ p ≠ q
  | _, [], h => by simp [Op.bytesLess] at h
  | [], b :: q, _ => by simp [Op.bytesLess]
  | a :: p, b :: q, h => by
    simp only [Op.bytesLess, Bool.or_eq_true, Bool.and_eq_true, decide_eq_true_eq, beq_iff_eq] at h
    rcases h with h | ⟨rfl, h⟩
    · have h1 : ¬ b < a := by rw [UInt8.lt_iff_toNat_lt] at h ⊢; omega
      have h2 : b ≠ a := by rintro rfl; rw [UInt8.lt_iff_toNat_lt] at h; omega
      refine ⟨by simp [Op.bytesLess, h1, h2], ?_⟩
      intro e; simp at e; exact h2 e.1.symm
    · obtain ⟨k1, k2⟩ := less_asymm p q h
      have h1 : ¬ a < a := by rw [UInt8.lt_iff_toNat_lt]; omega
      exact ⟨by simp [Op.bytesLess, k1, h1], by simpa using k2⟩

/-- compareRunes, from the lists. -/
def cmpR : List Int → List Int → Int
  | [], [] => 0
  | [], _ :: _ => -1
  | _ :: _, [] => 1
  | x :: a, y :: b => if vr x < vr y then -1 else if vr y < vr x then 1 else cmpR a b
/-- compareText, from the bytes. -/
def cmpT (p q : List UInt8) : Int := if Op.bytesLess p q = true then -1 else if Op.bytesLess p q = false ∧ p ≠ q then 1 else 0

theorem encs_ne (x : Int) (a : List Int) : ∃ u l, encs (x :: a) = u :: l := by
  have := encs_len (x :: a)
  cases h : encs (x :: a) with
  | nil => rw [h] at this; simp at this
  | cons u l => exact ⟨u, l, rfl⟩

theorem cmp_same : ∀ (a b : List Int), cmpT (encs a) (encs b) = cmpR a b
  | [], [] => by simp [cmpT, cmpR, encs, Op.bytesLess]
  | [], y :: b => by
    obtain ⟨u, l, h⟩ := encs_ne y b
    rw [h]; simp [cmpT, cmpR, encs, Op.bytesLess]
  | x :: a, [] => by
    obtain ⟨u, l, h⟩ := encs_ne x a
    rw [h]; simp [cmpT, cmpR, encs, Op.bytesLess]
  | x :: a, y :: b => by
    unfold cmpR
    rw [encs_cons, encs_cons]
    by_cases h : vr x < vr y
    · rw [if_pos h]; unfold cmpT; rw [if_pos (less_enc x y _ _ h)]
    · rw [if_neg h]
      by_cases h' : vr y < vr x
      · rw [if_pos h']
        obtain ⟨k1, k2⟩ := less_asymm _ _ (less_enc y x (encs b) (encs a) h')
        unfold cmpT
        rw [k1, if_neg (by simp), if_pos ⟨rfl, fun e => k2 e.symm⟩]
      · rw [if_neg h', ← cmp_same a b]
        have e : Lib.encodeRune x = Lib.encodeRune y := by rw [enc_vr x, enc_vr y, show vr x = vr y by omega]
        unfold cmpT
        rw [e, less_same]
        simp

end Go.Proofs.Qxb6618762a.Lit
