/-
  The plain laws of the seat (no Go in sight): a number's decimal digits, made from the end; read back.
-/
import Derived.Lib.ItoaNum
import Derived.Lib.AtoiAllCases
namespace Go.Proofs.Qxb6616338aFmt.Plain
open Go.Lib

/-- The digits of v; none for 0. -/
def dd (v : Nat) : List UInt8 := if v = 0 then [] else decDigits v
theorem dd_step {v : Nat} (h : 0 < v) : dd v = dd (v / 10) ++ [UInt8.ofNat (48 + v % 10)] := by
  unfold dd
  rw [if_neg (by omega), decDigits]
  split
  · rename_i h10
    rw [if_pos (by omega), show v % 10 = v by omega]; rfl
  · rw [if_neg (by omega)]
theorem dd_pos {v : Nat} (h : 0 < v) : dd v = decDigits v := by unfold dd; rw [if_neg (by omega)]

theorem parse_append (acc : Nat) (l r : List UInt8) (a : Nat) (h : parseUint10 acc l = .ok a) : parseUint10 acc (l ++ r) = parseUint10 a r := by
  induction l generalizing acc with
  | nil =>
    simp only [parseUint10] at h
    injection h with h
    subst h; rfl
  | cons c l ih =>
    simp only [parseUint10, List.cons_append] at h ⊢
    split at h
    · rename_i h1
      rw [if_pos h1]
      split at h
      · cases h
      · rename_i h2
        rw [if_neg h2]
        split at h
        · cases h
        · rename_i h3
          rw [if_neg h3]
          exact ih _ h
    · cases h
theorem parse_one (acc d : Nat) (hd : d < 10) (h : acc * 10 + d < 18446744073709551616) : parseUint10 acc [UInt8.ofNat (48 + d)] = .ok (acc * 10 + d) := by
  have e : (UInt8.ofNat (48 + d)).toNat = 48 + d := by simp; omega
  simp only [parseUint10, e]
  rw [if_pos (by omega), if_neg (by omega), show 48 + d - 48 = d by omega, if_neg (by omega)]
theorem parse_digits : ∀ (n u : Nat), u ≤ n → u < 18446744073709551616 → parseUint10 0 (decDigits u) = .ok u := by
  intro n
  induction n with
  | zero =>
    intro u hu hb
    obtain rfl : u = 0 := by omega
    rw [decDigits, dif_pos (by omega)]
    exact parse_one 0 0 (by omega) (by omega)
  | succ n ih =>
    intro u hu hb
    rw [decDigits]
    split
    · have := parse_one 0 u (by omega) (by omega)
      simpa using this
    · rw [parse_append 0 _ _ (u / 10) (ih (u / 10) (by omega) (by omega)), parse_one _ _ (by omega) (by omega)]
      congr 1; omega
theorem decDigits_head (u : Nat) : ∃ c r, decDigits u = c :: r ∧ 48 ≤ c.toNat ∧ c.toNat ≤ 57 := by
  have key : ∀ (n u : Nat), u ≤ n → ∃ c r, decDigits u = c :: r ∧ 48 ≤ c.toNat ∧ c.toNat ≤ 57 := by
    intro n
    induction n with
    | zero =>
      intro u hu
      obtain rfl : u = 0 := by omega
      exact ⟨48, [], by rw [decDigits, dif_pos (by omega)]; rfl, by decide, by decide⟩
    | succ n ih =>
      intro u hu
      rw [decDigits]
      split
      · refine ⟨_, [], rfl, ?_⟩
        have e : (UInt8.ofNat (48 + u)).toNat = 48 + u := by simp; omega
        omega
      · obtain ⟨c, r, e, h⟩ := ih (u / 10) (by omega)
        exact ⟨c, r ++ [UInt8.ofNat (48 + u % 10)], by rw [e]; rfl, h⟩
  exact key u u (Nat.le_refl _)
theorem mag_digits (u : Nat) (h : u < 18446744073709551616) : parseMag (decDigits u) = .ok u := by
  obtain ⟨c, r, e, _⟩ := decDigits_head u
  unfold parseMag
  rw [if_neg (by rw [e]; simp)]
  exact parse_digits u u (Nat.le_refl _) h
/-- Reading a decimal numeral back. -/
theorem atoi_itoa (k : Int) (h0 : -9223372036854775808 ≤ k) (h1 : k ≤ 9223372036854775807) : atoiAll (itoa k) = .ok k := by
  unfold itoa
  split
  · rw [atoiAll_minus, mag_digits _ (by omega)]
    simp only [signed]
    rw [if_neg (by omega)]
    congr 1; omega
  · obtain ⟨c, r, e, h2, h3⟩ := decDigits_head k.toNat
    have := mag_digits k.toNat (by omega)
    rw [e] at this ⊢
    rw [atoiAll_plain c r (by omega) (by omega), this]
    simp only [signless]
    rw [if_neg (by omega)]
    congr 1; omega
end Go.Proofs.Qxb6616338aFmt.Plain
