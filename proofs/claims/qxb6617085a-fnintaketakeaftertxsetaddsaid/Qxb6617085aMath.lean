namespace Go.Proofs.Qxb6617085a.Mth

/-- number j is a member of the bit set -/
def has (xs : List Nat) (j : Nat) : Bool := (xs.getD (j / 64) 0).testBit (j % 64)
/-- the set, grown to n words at least -/
def pad (xs : List Nat) (n : Nat) : List Nat := xs ++ List.replicate (n - xs.length) 0
def addW (xs : List Nat) (k : Nat) : List Nat :=
  (pad xs (k / 64 + 1)).set (k / 64) ((pad xs (k / 64 + 1)).getD (k / 64) 0 ||| 2 ^ (k % 64))
/-- every word fits 64 bits -/
def W64 (xs : List Nat) : Prop := ∀ x ∈ xs, x < 2 ^ 64

theorem getD_at {xs : List Nat} {i : Nat} (h : i < xs.length) : xs.getD i 0 = xs[i] := by
  rw [List.getD, List.getElem?_eq_getElem h]; rfl
theorem pad_length (xs : List Nat) (n : Nat) : (pad xs n).length = max xs.length n := by
  simp [pad]; omega
theorem pad_getD (xs : List Nat) (n i : Nat) : (pad xs n).getD i 0 = xs.getD i 0 := by
  unfold pad
  by_cases h : i < xs.length
  · simp [List.getD, List.getElem?_append_left h]
  · simp only [List.getD, List.getElem?_append_right (Nat.le_of_not_lt h), List.getElem?_replicate]
    rw [List.getElem?_eq_none (Nat.le_of_not_lt h)]
    split <;> rfl
theorem pad_W64 {xs : List Nat} (h : W64 xs) (n : Nat) : W64 (pad xs n) := by
  intro x hx
  simp only [pad, List.mem_append, List.mem_replicate] at hx
  rcases hx with hx | ⟨_, rfl⟩
  · exact h x hx
  · decide
theorem getD_W64 {xs : List Nat} (h : W64 xs) (i : Nat) : xs.getD i 0 < 2 ^ 64 := by
  by_cases hi : i < xs.length
  · rw [getD_at hi]; exact h _ (List.getElem_mem hi)
  · rw [List.getD, List.getElem?_eq_none (Nat.le_of_not_lt hi)]; decide
theorem pad_has (xs : List Nat) (n j : Nat) : has (pad xs n) j = has xs j := by simp only [has, pad_getD]
theorem pad_self {xs : List Nat} {n : Nat} (h : n ≤ xs.length) : pad xs n = xs := by
  simp [pad, Nat.sub_eq_zero_of_le h]
theorem pad_snoc {xs : List Nat} {n : Nat} (h : xs.length < n) : pad (xs ++ [0]) n = pad xs n := by
  unfold pad
  obtain ⟨d, rfl⟩ : ∃ d, n = xs.length + 1 + d := ⟨n - xs.length - 1, by omega⟩
  have e1 : xs.length + 1 + d - (xs ++ [0]).length = d := by simp
  have e2 : xs.length + 1 + d - xs.length = d + 1 := by omega
  rw [e1, e2, List.replicate_succ, List.append_assoc]; rfl

theorem addW_length (xs : List Nat) (k : Nat) : (addW xs k).length = max xs.length (k / 64 + 1) := by
  simp [addW, pad_length]
theorem or_pow_lt {x i : Nat} (hx : x < 2 ^ 64) (hi : i < 64) : x ||| 2 ^ i < 2 ^ 64 :=
  Nat.or_lt_two_pow hx (Nat.pow_lt_pow_right (by decide) hi)
theorem addW_W64 {xs : List Nat} (h : W64 xs) (k : Nat) : W64 (addW xs k) := by
  intro x hx
  rcases List.mem_or_eq_of_mem_set hx with hx | rfl
  · exact pad_W64 h _ x hx
  · exact or_pow_lt (getD_W64 (pad_W64 h _) _) (Nat.mod_lt _ (by decide))
theorem addW_getD (xs : List Nat) (k i : Nat) : (addW xs k).getD i 0 = if i = k / 64 then xs.getD i 0 ||| 2 ^ (k % 64) else xs.getD i 0 := by
  unfold addW
  by_cases h : i = k / 64
  · subst h
    rw [if_pos rfl, pad_getD, List.getD, List.getElem?_set_self (by rw [pad_length]; omega)]
    rfl
  · rw [if_neg h, List.getD, List.getElem?_set_ne (fun e => h e.symm)]
    exact pad_getD xs _ i
theorem addW_has (xs : List Nat) (k j : Nat) : has (addW xs k) j = (has xs j || decide (j = k)) := by
  unfold has
  rw [addW_getD]
  by_cases h : j / 64 = k / 64
  · rw [if_pos h, Nat.testBit_or, Nat.testBit_two_pow]
    congr 1
    rw [decide_eq_decide]; omega
  · rw [if_neg h]
    have : j ≠ k := fun e => h (by rw [e])
    simp [this]
/-- where the set has k already, adding it only pads -/
theorem addW_old {xs : List Nat} {k : Nat} (h : has xs k = true) : addW xs k = pad xs (k / 64 + 1) := by
  unfold addW
  have e : (pad xs (k / 64 + 1)).getD (k / 64) 0 ||| 2 ^ (k % 64) = (pad xs (k / 64 + 1)).getD (k / 64) 0 := by
    apply Nat.eq_of_testBit_eq
    intro i
    rw [Nat.testBit_or, Nat.testBit_two_pow, pad_getD]
    by_cases hi : k % 64 = i
    · subst hi; simp only [has] at h; rw [h]; rfl
    · simp [hi]
  rw [e]
  apply List.ext_getElem?
  intro i
  by_cases hi : k / 64 = i
  · subst hi
    have hl : k / 64 < (pad xs (k / 64 + 1)).length := by rw [pad_length]; omega
    rw [List.getElem?_set_self hl, getD_at hl, List.getElem?_eq_getElem hl]
  · rw [List.getElem?_set_ne hi]
/-- two sets of one length with the same members are one -/
theorem ext_has {xs ys : List Nat} (hx : W64 xs) (hy : W64 ys) (hl : xs.length = ys.length) (h : ∀ j, has xs j = has ys j) : xs = ys := by
  apply List.ext_getElem hl
  intro i h1 h2
  apply Nat.eq_of_testBit_eq
  intro b
  by_cases hb : b < 64
  · have e := h (i * 64 + b)
    simp only [has] at e
    rw [show (i * 64 + b) / 64 = i by omega, show (i * 64 + b) % 64 = b by omega, getD_at h1, getD_at h2] at e
    exact e
  · have hb' : 2 ^ 64 ≤ 2 ^ b := Nat.pow_le_pow_right (by decide) (Nat.le_of_not_lt hb)
    rw [Nat.testBit_lt_two_pow (Nat.lt_of_lt_of_le (hx _ (List.getElem_mem h1)) hb'), Nat.testBit_lt_two_pow (Nat.lt_of_lt_of_le (hy _ (List.getElem_mem h2)) hb')]

/-! ### adding many -/
def addAll (xs : List Nat) (ks : List Nat) : List Nat := ks.foldl addW xs
theorem addAll_W64 {xs : List Nat} (h : W64 xs) (ks : List Nat) : W64 (addAll xs ks) := by
  induction ks generalizing xs with
  | nil => exact h
  | cons k ks ih => exact ih (addW_W64 h k)
theorem addAll_has (xs ks : List Nat) (j : Nat) : has (addAll xs ks) j = (has xs j || decide (j ∈ ks)) := by
  induction ks generalizing xs with
  | nil => simp [addAll]
  | cons k ks ih =>
    show has (addAll (addW xs k) ks) j = _
    rw [ih, addW_has, Bool.or_assoc]
    congr 1
    by_cases h : j = k <;> simp [h]
def lenAll (n : Nat) (ks : List Nat) : Nat := ks.foldl (fun n k => max n (k / 64 + 1)) n
theorem addAll_length (xs ks : List Nat) : (addAll xs ks).length = lenAll xs.length ks := by
  induction ks generalizing xs with
  | nil => rfl
  | cons k ks ih => show (addAll (addW xs k) ks).length = _; rw [ih, addW_length]; rfl
theorem lenAll_max (n m : Nat) (ks : List Nat) : lenAll (max n m) ks = max n (lenAll m ks) := by
  induction ks generalizing m with
  | nil => rfl
  | cons k ks ih => show lenAll (max (max n m) _) ks = max n (lenAll (max m _) ks); rw [Nat.max_assoc, ih]
theorem lenAll_snoc (n k : Nat) (ks : List Nat) : lenAll n (ks ++ [k]) = max (lenAll n ks) (k / 64 + 1) := by simp [lenAll]
theorem lenAll_rev (n : Nat) (ks : List Nat) : lenAll n ks.reverse = lenAll n ks := by
  induction ks generalizing n with
  | nil => rfl
  | cons k ks ih =>
    rw [List.reverse_cons, lenAll_snoc, ih]
    show _ = lenAll (max n (k / 64 + 1)) ks
    rw [Nat.max_comm n, lenAll_max, Nat.max_comm]
theorem addAll_rev {xs : List Nat} (h : W64 xs) (ks : List Nat) : addAll xs ks.reverse = addAll xs ks :=
  ext_has (addAll_W64 h _) (addAll_W64 h _) (by rw [addAll_length, addAll_length, lenAll_rev]) (fun j => by rw [addAll_has, addAll_has]; simp)
theorem addAll_snoc (xs ks : List Nat) (k : Nat) : addAll xs (ks ++ [k]) = addW (addAll xs ks) k := by simp [addAll]

/-! ### counting members -/
def pcN : Nat → Nat → Nat
  | 0, _ => 0
  | f + 1, x => x % 2 + pcN f (x / 2)
def pc (x : Nat) : Nat := pcN 64 x
def pcAll (xs : List Nat) : Nat := (xs.map pc).sum
theorem pcN_le (f x : Nat) : pcN f x ≤ f := by
  induction f generalizing x with
  | zero => simp [pcN]
  | succ f ih => have := ih (x / 2); simp only [pcN]; omega
theorem pcN_zero (f : Nat) : pcN f 0 = 0 := by
  induction f with
  | zero => rfl
  | succ f ih => simp [pcN, ih]
/-- 'x & (x - 1)' has one member less -/
theorem pcN_pred (f x : Nat) (h0 : 0 < x) (hx : x < 2 ^ f) : pcN f x = pcN f (x &&& (x - 1)) + 1 := by
  induction f generalizing x with
  | zero => simp at hx; omega
  | succ f ih =>
    simp only [pcN]
    have hd : (x &&& (x - 1)) / 2 = x / 2 &&& ((x - 1) / 2) := by rw [Nat.and_div_two]
    have hm : (x &&& (x - 1)) % 2 = 0 := by
      have : (x &&& (x - 1)).testBit 0 = false := by
        rw [Nat.testBit_and]; simp only [Nat.testBit_zero]
        by_cases hp : x % 2 = 1
        · have : (x - 1) % 2 = 0 := by omega
          simp [this]
        · simp [hp]
      simp only [Nat.testBit_zero, decide_eq_false_iff_not] at this
      omega
    rw [hm, hd]
    by_cases hp : x % 2 = 1
    · rw [show (x - 1) / 2 = x / 2 by omega, Nat.and_self]; omega
    · have h2 : 0 < x / 2 := by omega
      rw [show (x - 1) / 2 = x / 2 - 1 by omega]
      have := ih (x / 2) h2 (by omega)
      omega
theorem pcN_or (f x i : Nat) (hi : i < f) (hb : x.testBit i = false) : pcN f (x ||| 2 ^ i) = pcN f x + 1 := by
  induction f generalizing x i with
  | zero => omega
  | succ f ih =>
    simp only [pcN]
    have hd : (x ||| 2 ^ i) / 2 = x / 2 ||| 2 ^ i / 2 := by rw [Nat.or_div_two]
    have h0 : (x ||| 2 ^ i).testBit 0 = (x.testBit 0 || decide (i = 0)) := by rw [Nat.testBit_or, Nat.testBit_two_pow]
    simp only [Nat.testBit_zero] at h0
    cases i with
    | zero =>
      simp only [Nat.testBit_zero, decide_eq_false_iff_not] at hb
      have e : (x ||| 2 ^ 0) / 2 = x / 2 := by rw [hd]; simp
      rw [e]
      have : (x ||| 2 ^ 0) % 2 = 1 := by simp
      omega
    | succ i =>
      have e : (x ||| 2 ^ (i + 1)) / 2 = x / 2 ||| 2 ^ i := by rw [hd, Nat.pow_succ, Nat.mul_div_cancel _ (by decide)]
      rw [e, ih (x / 2) i (by omega) (by rw [Nat.testBit_div_two]; exact hb)]
      have hm : decide ((x ||| 2 ^ (i + 1)) % 2 = 1) = decide (x % 2 = 1) := by rw [h0]; simp
      rw [decide_eq_decide] at hm
      omega
theorem pcAll_append (xs ys : List Nat) : pcAll (xs ++ ys) = pcAll xs + pcAll ys := by simp [pcAll]
theorem pcAll_le (xs : List Nat) : pcAll xs ≤ 64 * xs.length := by
  induction xs with
  | nil => simp [pcAll]
  | cons x xs ih => have := pcN_le 64 x; simp only [pcAll, List.map_cons, List.sum_cons, List.length_cons, pc] at *; omega
theorem pcAll_pad (xs : List Nat) (n : Nat) : pcAll (pad xs n) = pcAll xs := by
  unfold pad
  rw [pcAll_append]
  have : ∀ m, pcAll (List.replicate m 0) = 0 := by
    intro m
    induction m with
    | zero => rfl
    | succ m ih => rw [List.replicate_succ]; simp only [pcAll, List.map_cons, List.sum_cons] at *; rw [ih]; exact pcN_zero 64
  rw [this]; rfl
theorem pcAll_set (xs : List Nat) (i v : Nat) (hi : i < xs.length) : pcAll (xs.set i v) + pc (xs.getD i 0) = pcAll xs + pc v := by
  induction xs generalizing i with
  | nil => simp at hi
  | cons x xs ih =>
    cases i with
    | zero => simp [pcAll]; omega
    | succ i =>
      have := ih i (by simpa using hi)
      simp only [List.set_cons_succ, pcAll, List.map_cons, List.sum_cons, List.getD_cons_succ] at *
      omega
theorem pcAll_addW (xs : List Nat) (k : Nat) : pcAll (addW xs k) = pcAll xs + if has xs k then 0 else 1 := by
  by_cases h : has xs k = true
  · rw [addW_old h, pcAll_pad, if_pos h]; rfl
  · have hl : k / 64 < (pad xs (k / 64 + 1)).length := by rw [pad_length]; omega
    have e := pcAll_set (pad xs (k / 64 + 1)) (k / 64) ((pad xs (k / 64 + 1)).getD (k / 64) 0 ||| 2 ^ (k % 64)) hl
    have hb : ((pad xs (k / 64 + 1)).getD (k / 64) 0).testBit (k % 64) = false := by
      rw [pad_getD]; simpa [has] using h
    have e2 : pc ((pad xs (k / 64 + 1)).getD (k / 64) 0 ||| 2 ^ (k % 64)) = pc ((pad xs (k / 64 + 1)).getD (k / 64) 0) + 1 :=
      pcN_or 64 _ _ (Nat.mod_lt _ (by decide)) hb
    have e3 := pcAll_pad xs (k / 64 + 1)
    rw [if_neg h]
    unfold addW
    omega

/-! ### the count of new ones -/
def cnt (xs : List Nat) : List Nat → Nat
  | [] => 0
  | k :: ks => (if has xs k then 0 else 1) + cnt (addW xs k) ks
theorem cnt_pc (xs ks : List Nat) : pcAll (addAll xs ks) = pcAll xs + cnt xs ks := by
  induction ks generalizing xs with
  | nil => rfl
  | cons k ks ih => show pcAll (addAll (addW xs k) ks) = _; rw [ih, pcAll_addW]; simp only [cnt]; omega
theorem cnt_rev {xs : List Nat} (h : W64 xs) (ks : List Nat) : cnt xs ks.reverse = cnt xs ks := by
  have a := cnt_pc xs ks
  have b := cnt_pc xs ks.reverse
  rw [addAll_rev h] at b
  omega
theorem cnt_snoc (xs ks : List Nat) (k : Nat) : cnt xs (ks ++ [k]) = cnt xs ks + if has xs k || decide (k ∈ ks) then 0 else 1 := by
  induction ks generalizing xs with
  | nil => simp [cnt]
  | cons q ks ih =>
    simp only [List.cons_append, cnt, ih, addW_has]
    rw [Nat.add_assoc]
    congr 3
    by_cases h : k = q <;> simp [h]
theorem cnt_le (xs ks : List Nat) : cnt xs ks ≤ ks.length := by
  induction ks generalizing xs with
  | nil => simp [cnt]
  | cons k ks ih => have := ih (addW xs k); simp only [cnt, List.length_cons]; split <;> omega

/-! ### what is late: the first copies below next that the set lacked -/
def news (xs : List Nat) (next : Int) : List Nat → List Nat
  | [] => []
  | k :: ks => (if has xs k then [] else if (k : Int) < next then [k] else []) ++ news (addW xs k) next ks
theorem news_snoc (xs ks : List Nat) (next : Int) (k : Nat) : news xs next (ks ++ [k]) = news xs next ks ++ if has xs k || decide (k ∈ ks) then [] else if (k : Int) < next then [k] else [] := by
  induction ks generalizing xs with
  | nil => simp [news]
  | cons q ks ih =>
    simp only [List.cons_append, news, ih, addW_has, List.append_assoc]
    congr 3
    by_cases h : k = q <;> simp [h]
theorem news_le (xs ks : List Nat) (next : Int) : (news xs next ks).length ≤ ks.length := by
  induction ks generalizing xs with
  | nil => simp [news]
  | cons k ks ih => have := ih (addW xs k); simp only [news, List.length_append, List.length_cons]; split <;> (try split) <;> simp <;> omega
end Go.Proofs.Qxb6617085a.Mth
