import Derived.Test.Qxb6617085aMath
namespace Go.Proofs.Qxb6617085a.Mth
theorem snoc_add (xs ls : List Nat) (k : Nat) : addAll xs (ls ++ [k]) = addW (addAll xs ls) k := addAll_snoc xs ls k
theorem snoc_cnt (xs ls : List Nat) (k : Nat) : cnt xs (ls ++ [k]) = cnt xs ls + if has (addAll xs ls) k then 0 else 1 := by
  rw [cnt_snoc, addAll_has]
theorem snoc_news (xs ls : List Nat) (next : Int) (k : Nat) : news xs next (ls ++ [k]) = news xs next ls ++ if has (addAll xs ls) k then [] else if (k : Int) < next then [k] else [] := by
  rw [news_snoc, addAll_has]
theorem lenAll_le {n b : Nat} {ks : List Nat} (hn : n ≤ b) (hk : ∀ k ∈ ks, k / 64 + 1 ≤ b) : lenAll n ks ≤ b := by
  induction ks generalizing n with
  | nil => exact hn
  | cons k ks ih =>
    have h1 := hk k (List.mem_cons_self ..)
    exact ih (n := max n (k / 64 + 1)) (by omega) (fun q hq => hk q (List.mem_cons_of_mem _ hq))
theorem lenAll_ge (n : Nat) (ks : List Nat) : n ≤ lenAll n ks := by
  induction ks generalizing n with
  | nil => exact Nat.le_refl _
  | cons k ks ih => have := ih (max n (k / 64 + 1)); show n ≤ lenAll (max n (k / 64 + 1)) ks; omega
theorem take_snoc {ks : List Nat} {k : Nat} (h : k < ks.length) : ks.take (k + 1) = ks.take k ++ [ks[k]] := List.take_succ_eq_append_getElem h
theorem drop_snoc {ks : List Nat} {p : Nat} (h : p < ks.length) : (ks.drop p).reverse = (ks.drop (p + 1)).reverse ++ [ks[p]] := by
  rw [List.drop_eq_getElem_cons h, List.reverse_cons]
/-- the old words lie inside the new ones -/
theorem addAll_sub {xs : List Nat} (hx : W64 xs) (ks : List Nat) (i : Nat) (hi : i < xs.length) (hi' : i < (addAll xs ks).length) : (addAll xs ks)[i] &&& xs[i] = xs[i] := by
  apply Nat.eq_of_testBit_eq
  intro b
  rw [Nat.testBit_and]
  by_cases hb : b < 64
  · have e := addAll_has xs ks (i * 64 + b)
    simp only [has] at e
    rw [show (i * 64 + b) / 64 = i by omega, show (i * 64 + b) % 64 = b by omega, getD_at hi, getD_at hi'] at e
    rw [e]
    cases xs[i].testBit b <;> simp
  · have hb' : 2 ^ 64 ≤ 2 ^ b := Nat.pow_le_pow_right (by decide) (Nat.le_of_not_lt hb)
    rw [Nat.testBit_lt_two_pow (Nat.lt_of_lt_of_le (hx _ (List.getElem_mem hi)) hb'), Bool.and_false]
theorem mem_take_of {ks : List Nat} {q k : Nat} (hq : q < k) (hk : k ≤ ks.length) : ks[q] ∈ ks.take k :=
  List.mem_iff_getElem.2 ⟨q, by simp; omega, by simp⟩
end Go.Proofs.Qxb6617085a.Mth
