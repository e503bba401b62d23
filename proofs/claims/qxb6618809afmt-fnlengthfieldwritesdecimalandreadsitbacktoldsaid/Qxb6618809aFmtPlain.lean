/-
  THE PLAIN LAWS UNDER THE STATEMENT ON THE LENGTH FIELD: reading back a decimal numeral; the loop of zzDecimal. No program in sight. By the prover of this seat.
-/
import Derived.Lib.ParseIntBCases
import Derived.Lib.ItoaNum
import Derived.Lib.ItoaLen
namespace Go.Proofs.Qxb6618809aFmt.Plain
open Go.Lib

theorem parse_append (M : Nat) : ∀ (l r : List UInt8) (acc u : Nat), parseUintM M acc l = .ok u → parseUintM M acc (l ++ r) = parseUintM M u r
  | [], r, acc, u, h => by
    simp only [parseUintM] at h
    injection h with h
    rw [h]; rfl
  | c :: l, r, acc, u, h => by
    simp only [parseUintM, List.cons_append] at h ⊢
    split at h
    · rename_i hd
      rw [if_pos hd]
      split at h
      · cases h
      · rename_i hr
        rw [if_neg hr]
        split at h
        · cases h
        · rename_i hm
          rw [if_neg hm]
          exact parse_append M l r _ u h
    · cases h

theorem digit_toNat (d : Nat) (h : d < 10) : (UInt8.ofNat (48 + d)).toNat = 48 + d := by
  rw [UInt8.toNat_ofNat']; omega

theorem decDigits_step (u : Nat) (h : ¬ u < 10) : decDigits u = decDigits (u / 10) ++ [UInt8.ofNat (48 + u % 10)] := by rw [decDigits, dif_neg h]

theorem parse_digits (u : Nat) (h : u < 18446744073709551616) : parseUintM 18446744073709551615 0 (decDigits u) = .ok u := by
  induction u using Nat.strongRecOn with
  | _ u ih =>
    by_cases hs : u < 10
    · rw [decDigits_one hs]
      simp only [parseUintM, digit_toNat u hs]
      rw [if_pos (by omega), if_neg (by omega), if_neg (by omega)]
      congr 1; omega
    · rw [decDigits_step u hs, parse_append _ _ _ _ _ (ih (u / 10) (by omega) (by omega))]
      have hm : u % 10 < 10 := Nat.mod_lt _ (by omega)
      simp only [parseUintM, digit_toNat _ hm]
      rw [if_pos (by omega), if_neg (by omega), if_neg (by omega)]
      congr 1; omega

theorem decDigits_head (u : Nat) : ∃ c r, decDigits u = c :: r ∧ 48 ≤ c.toNat ∧ c.toNat ≤ 57 := by
  induction u using Nat.strongRecOn with
  | _ u ih =>
    by_cases hs : u < 10
    · rw [decDigits_one hs]
      exact ⟨_, _, rfl, by rw [digit_toNat u hs]; omega, by rw [digit_toNat u hs]; omega⟩
    · obtain ⟨c, r, e, h⟩ := ih (u / 10) (by omega)
      rw [decDigits_step u hs, e]
      exact ⟨c, _, rfl, h⟩

theorem parseB_digits (u : Nat) (h : u < 18446744073709551616) : parseUintB 64 (decDigits u) = .ok u := by
  obtain ⟨c, r, e, _⟩ := decDigits_head u
  unfold parseUintB
  rw [if_neg (by rw [e]; simp), show 2 ^ 64 - 1 = 18446744073709551615 from rfl]
  exact parse_digits u h

/-- ParseInt reads an int64's numeral back. -/
theorem parse_itoa (n : Int) (h0 : -9223372036854775808 ≤ n) (h1 : n ≤ 9223372036854775807) : parseIntB 64 (itoa n) = .ok n := by
  unfold itoa
  by_cases hn : n < 0
  · rw [if_pos hn, parseIntB_minus, parseB_digits _ (by omega)]
    show (if 2 ^ (64 - 1) < n.natAbs then _ else _) = _
    rw [if_neg (by rw [show (2 : Nat) ^ (64 - 1) = 9223372036854775808 from rfl]; omega)]
    congr 1; omega
  · rw [if_neg hn]
    obtain ⟨c, r, e, k⟩ := decDigits_head n.toNat
    have hp := parseB_digits n.toNat (by omega)
    rw [e] at hp ⊢
    rw [parseIntB_plain 64 c r (by omega) (by omega), hp]
    show (if 2 ^ (64 - 1) ≤ n.toNat then _ else _) = _
    rw [if_neg (by rw [show (2 : Nat) ^ (64 - 1) = 9223372036854775808 from rfl]; omega)]
    congr 1; omega

theorem nDigits_le (u : Nat) (h : u < 18446744073709551616) : nDigits u ≤ 20 := by
  by_cases h0 : u = 0
  · subst h0; rw [nDigits_small (by omega)]; omega
  · obtain ⟨e, k⟩ := numDigits_eq u (by omega) h
    split at e <;> omega

end Go.Proofs.Qxb6618809aFmt.Plain
