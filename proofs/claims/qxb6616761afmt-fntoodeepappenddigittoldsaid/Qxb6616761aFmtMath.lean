/-
  NUMERALS, PLAIN: the digits that decimal64 lays, one by one from the last; a digit appended; two numbers with one numeral.
-/
import Derived.Lib.ItoaNum
namespace Go.Proofs.Qxb6616761aFmt.Num
open Go.Lib

/-- the digits of u, none for 0 -/
def dd (u : Nat) : List UInt8 := if u = 0 then [] else decDigits u
theorem dd_zero : dd 0 = [] := rfl
theorem dd_pos {u : Nat} (h : 0 < u) : dd u = decDigits u := by unfold dd; rw [if_neg (by omega)]
theorem dd_step {u : Nat} (h : 0 < u) : dd u = dd (u / 10) ++ [UInt8.ofNat (48 + u % 10)] := by
  rw [dd_pos h, decDigits]
  by_cases h1 : u < 10
  · rw [dif_pos h1, show u / 10 = 0 by omega, dd_zero, Nat.mod_eq_of_lt h1]; rfl
  · rw [dif_neg h1, dd_pos (by omega)]
theorem dec_append {n d : Nat} (hn : 0 < n) (hd : d ≤ 9) : decDigits (n * 10 + d) = decDigits n ++ [UInt8.ofNat (48 + d)] := by
  rw [decDigits, dif_neg (by omega), show (n * 10 + d) / 10 = n by omega, show (n * 10 + d) % 10 = d by omega]
theorem itoa_nat (n : Nat) : itoa (n : Int) = decDigits n := by
  unfold itoa; rw [if_neg (by omega), Int.toNat_natCast]
theorem itoa_neg {n : Nat} (h : 0 < n) : itoa (-(n : Int)) = 45 :: decDigits n := by
  unfold itoa; rw [if_pos (by omega), Int.natAbs_neg, Int.natAbs_natCast]
theorem itoa_dd {n : Nat} (h : 0 < n) : itoa (n : Int) = dd n := by rw [itoa_nat, dd_pos h]
theorem itoa_neg_dd {n : Nat} (h : 0 < n) : itoa (-(n : Int)) = 45 :: dd n := by rw [itoa_neg h, dd_pos h]
/-- a digit's byte -/
theorem byte_toNat {d : Nat} (h : d ≤ 9) : (UInt8.ofNat (48 + d)).toNat = 48 + d := by
  rw [UInt8.toNat_ofNat']; omega
/-- every byte of a numeral's digits is a digit; the first is no '0' where the number is none -/
theorem dec_digit (u : Nat) : ∀ b ∈ decDigits u, 48 ≤ b.toNat ∧ b.toNat ≤ 57 := by
  induction u using Nat.strongRecOn with
  | _ u ih =>
    intro b hb
    rw [decDigits] at hb
    by_cases h : u < 10
    · rw [dif_pos h] at hb
      simp at hb; subst hb
      have := byte_toNat (d := u) (by omega)
      simp at this ⊢; omega
    · rw [dif_neg h] at hb
      rcases List.mem_append.1 hb with hb | hb
      · exact ih (u / 10) (by omega) b hb
      · simp at hb; subst hb
        have := byte_toNat (d := u % 10) (by omega)
        simp at this ⊢; omega
theorem dec_ne (u : Nat) : decDigits u ≠ [] := by
  rw [decDigits]
  by_cases h : u < 10
  · rw [dif_pos h]; simp
  · rw [dif_neg h]; simp
theorem dec_first {u : Nat} (h0 : 0 < u) : ∃ b r, decDigits u = b :: r ∧ 49 ≤ b.toNat ∧ b.toNat ≤ 57 := by
  induction u using Nat.strongRecOn with
  | _ u ih =>
    rw [decDigits]
    by_cases h : u < 10
    · rw [dif_pos h]
      have := byte_toNat (d := u) (by omega)
      exact ⟨_, [], rfl, by omega, by omega⟩
    · rw [dif_neg h]
      obtain ⟨b, r, e, h1, h2⟩ := ih (u / 10) (by omega) (by omega)
      exact ⟨b, r ++ [UInt8.ofNat (48 + u % 10)], by rw [e]; rfl, h1, h2⟩
theorem dec_small {u : Nat} (h : u < 10) : decDigits u = [UInt8.ofNat (48 + u)] := by rw [decDigits, dif_pos h]
theorem dec_big {u : Nat} (h : ¬ u < 10) : decDigits u = decDigits (u / 10) ++ [UInt8.ofNat (48 + u % 10)] := by rw [decDigits, dif_neg h]
theorem dec_inj : ∀ u v : Nat, decDigits u = decDigits v → u = v := by
  intro u
  induction u using Nat.strongRecOn with
  | _ u ih =>
    intro v h
    by_cases h1 : u < 10
    · by_cases h2 : v < 10
      · rw [dec_small h1, dec_small h2] at h
        have e : (UInt8.ofNat (48 + u)).toNat = (UInt8.ofNat (48 + v)).toNat := by rw [List.singleton_inj.1 h]
        rw [byte_toNat (by omega), byte_toNat (by omega)] at e; omega
      · rw [dec_small h1, dec_big h2] at h
        have := congrArg List.length h
        have hn : 0 < (decDigits (v / 10)).length := List.length_pos_iff.2 (dec_ne _)
        simp only [List.length_append, List.length_cons, List.length_nil] at this; omega
    · by_cases h2 : v < 10
      · rw [dec_big h1, dec_small h2] at h
        have := congrArg List.length h
        have hn : 0 < (decDigits (u / 10)).length := List.length_pos_iff.2 (dec_ne _)
        simp only [List.length_append, List.length_cons, List.length_nil] at this; omega
      · rw [dec_big h1, dec_big h2] at h
        obtain ⟨e1, e2⟩ := List.append_inj' h rfl
        have e3 := ih (u / 10) (by omega) (v / 10) e1
        have e : (UInt8.ofNat (48 + u % 10)).toNat = (UInt8.ofNat (48 + v % 10)).toNat := by rw [List.singleton_inj.1 e2]
        rw [byte_toNat (by omega), byte_toNat (by omega)] at e; omega
theorem dec_no_minus (u : Nat) (r : List UInt8) : decDigits u ≠ 45 :: r := by
  intro h
  have := dec_digit u 45 (by rw [h]; simp)
  simp at this
theorem itoa_inj {a b : Int} (h : itoa a = itoa b) : a = b := by
  unfold itoa at h
  by_cases h1 : a < 0
  · by_cases h2 : b < 0
    · rw [if_pos h1, if_pos h2] at h
      have := dec_inj _ _ (List.cons.inj h).2
      omega
    · rw [if_pos h1, if_neg h2] at h
      exact absurd h.symm (dec_no_minus _ _)
  · by_cases h2 : b < 0
    · rw [if_neg h1, if_pos h2] at h
      exact absurd h (dec_no_minus _ _)
    · rw [if_neg h1, if_neg h2] at h
      have := dec_inj _ _ h
      omega
end Go.Proofs.Qxb6616761aFmt.Num
