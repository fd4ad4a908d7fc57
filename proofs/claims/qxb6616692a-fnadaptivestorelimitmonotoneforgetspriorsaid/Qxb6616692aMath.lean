/-
  FLOATS, PLAIN: a word that is no NaN has a key among the integers; the order of words is the keys' order; max, min, the two bounds; one by a zero.
-/
import GoSem.Core.Float
namespace Go.Proofs.Qxb6616692a.Fm
open Ieee

/-- beyond every finite number's key -/
def top : Nat := 3000
def big : Int := 2 ^ top
def key : Datum → Int
  | .number s m i => signed s m (i - double.leastPlace).toNat
  | .infinity s => if s then -big else big
  | .nan .. => 0
def okD : Datum → Prop
  | .number _ m i => double.leastPlace ≤ i ∧ i ≤ double.leastPlace + 2046 ∧ m < 2 ^ 53
  | _ => True

theorem least : double.leastPlace = -1074 := by decide
theorem binade52 : double.binade = 2 ^ 52 := by decide
theorem inf52 : double.infRung = 2047 * 2 ^ 52 := by decide
theorem read_ok (x : Nat) : okD (double.read x) := by
  unfold Format.read
  rw [binade52, inf52]
  generalize x % double.signWeight = r
  generalize (x / double.signWeight % 2 == 1) = s
  simp only
  by_cases h1 : r < 2 ^ 52
  · rw [if_pos h1]; exact ⟨Int.le_refl _, by omega, by omega⟩
  · rw [if_neg h1]
    by_cases h2 : r < 2047 * 2 ^ 52
    · rw [if_pos h2]
      have h3 : r / 2 ^ 52 < 2047 := by omega
      exact ⟨by omega, by omega, by omega⟩
    · rw [if_neg h2]
      by_cases h3 : r = 2047 * 2 ^ 52
      · rw [if_pos h3]; exact True.intro
      · rw [if_neg h3]; exact True.intro

theorem signed_eq (s : Bool) (m u : Nat) : signed s m u = (if s then -(m : Int) else (m : Int)) * 2 ^ u := by
  unfold signed
  rw [Nat.shiftLeft_eq]
  cases s <;> simp [Int.neg_mul]
theorem signed_add (s : Bool) (m a c : Nat) : signed s m (a + c) = signed s m a * 2 ^ c := by
  rw [signed_eq, signed_eq, Int.pow_add, Int.mul_assoc]
theorem cmp_def (a b : Int) : compare a b = if a < b then .lt else if a = b then .eq else .gt := rfl
theorem cmp_scale (a b : Int) (c : Nat) : compare (a * 2 ^ c) (b * 2 ^ c) = compare a b := by
  have hp : (0 : Int) < 2 ^ c := Int.pow_pos (by decide)
  have e1 : (a * 2 ^ c < b * 2 ^ c) = (a < b) := propext (Int.mul_lt_mul_right hp)
  have e2 : (a * 2 ^ c = b * 2 ^ c) = (a = b) := propext ⟨fun h => Int.eq_of_mul_eq_mul_right (by omega) h, fun h => by rw [h]⟩
  rw [cmp_def, cmp_def]
  simp only [e1, e2]
theorem key_lt {s : Bool} {m : Nat} {i : Int} (h : okD (.number s m i)) : -big < key (.number s m i) ∧ key (.number s m i) < big := by
  obtain ⟨h1, h2, h3⟩ := h
  have hu : (i - double.leastPlace).toNat ≤ 2046 := by omega
  unfold key
  simp only
  generalize (i - double.leastPlace).toNat = u at hu
  have hn : m * 2 ^ u < 2 ^ top := by
    have a1 : m * 2 ^ u < 2 ^ 53 * 2 ^ u := Nat.mul_lt_mul_of_pos_right h3 (Nat.two_pow_pos _)
    have a2 : 2 ^ 53 * 2 ^ u ≤ 2 ^ top := by rw [← Nat.pow_add]; exact Nat.pow_le_pow_right (by decide) (by unfold top; omega)
    exact Nat.lt_of_lt_of_le a1 a2
  have hb : big = ((2 ^ top : Nat) : Int) := by unfold big; rw [Int.natCast_pow]; rfl
  rw [hb]
  unfold signed
  rw [Nat.shiftLeft_eq]
  generalize m * 2 ^ u = q at hn
  generalize (2 : Nat) ^ top = r at hn
  cases s <;> simp <;> omega
theorem big_pos : 0 < big := Int.pow_pos (by decide)
theorem cmp_lt {a b : Int} (h : a < b) : compare a b = .lt := by rw [cmp_def, if_pos h]
theorem cmp_eq {a b : Int} (h : a = b) : compare a b = .eq := by rw [cmp_def, if_neg (by omega), if_pos h]
theorem cmp_gt {a b : Int} (h : b < a) : compare a b = .gt := by rw [cmp_def, if_neg (by omega), if_neg (by omega)]
theorem key_inf (s : Bool) : key (.infinity s) = if s then -big else big := rfl
theorem order_key {d e : Datum} (hd : okD d) (he : okD e) (nd : d.isNaN = false) (ne : e.isNaN = false) : Datum.order d e = some (compare (key d) (key e)) := by
  have hb := big_pos
  cases d with
  | nan s f => simp [Datum.isNaN] at nd
  | infinity s =>
    cases e with
    | nan t g => simp [Datum.isNaN] at ne
    | infinity t =>
      rw [key_inf, key_inf]
      cases s <;> cases t
      · rw [cmp_eq rfl]; rfl
      · rw [cmp_gt (by simp; omega)]; rfl
      · rw [cmp_lt (by simp; omega)]; rfl
      · rw [cmp_eq rfl]; rfl
    | number t n j =>
      have hk := key_lt he
      rw [key_inf]
      cases s
      · rw [cmp_gt (by simp; exact hk.2)]; rfl
      · rw [cmp_lt (by simp; exact hk.1)]; rfl
  | number s m i =>
    cases e with
    | nan t g => simp [Datum.isNaN] at ne
    | infinity t =>
      have hk := key_lt hd
      rw [key_inf]
      cases t
      · rw [cmp_lt (by simp; exact hk.2)]; rfl
      · rw [cmp_gt (by simp; exact hk.1)]; rfl
    | number t n j =>
      obtain ⟨h1, h2, _⟩ := hd
      obtain ⟨g1, g2, _⟩ := he
      simp only [Datum.order, key]
      have e1 : (i - double.leastPlace).toNat = (i - min i j).toNat + (min i j - double.leastPlace).toNat := by omega
      have e2 : (j - double.leastPlace).toNat = (j - min i j).toNat + (min i j - double.leastPlace).toNat := by omega
      rw [e1, e2, signed_add, signed_add, cmp_scale]

/-! ### words -/
/-- a word's key -/
def K (x : Nat) : Int := key (double.read x)
/-- the word is no NaN -/
def num (x : Nat) : Prop := (double.read x).isNaN = false
theorem num_of {x : Nat} (h : double.order x x = some .eq) : num x := by
  unfold num
  unfold Format.order at h
  cases hd : double.read x with
  | nan s f => rw [hd] at h; simp [Datum.order] at h
  | infinity s => rfl
  | number s m i => rfl
theorem ord {x y : Nat} (hx : num x) (hy : num y) : double.order x y = some (compare (K x) (K y)) := order_key (read_ok x) (read_ok y) hx hy
theorem leB {x y : Nat} (hx : num x) (hy : num y) : (double.order x y == some .lt || double.order x y == some .eq) = decide (K x ≤ K y) := by
  rw [ord hx hy]
  rcases Int.lt_trichotomy (K x) (K y) with h | h | h
  · rw [cmp_lt h]; simp; omega
  · rw [cmp_eq h]; simp; omega
  · rw [cmp_gt h]; simp; omega
theorem geB {x y : Nat} (hx : num x) (hy : num y) : (double.order x y == some .gt || double.order x y == some .eq) = decide (K y ≤ K x) := by
  rw [ord hx hy]
  rcases Int.lt_trichotomy (K x) (K y) with h | h | h
  · rw [cmp_lt h]; simp; omega
  · rw [cmp_eq h]; simp; omega
  · rw [cmp_gt h]; simp; omega
theorem neB {x y : Nat} (hx : num x) (hy : num y) : (double.order x y != some .eq) = decide (K x ≠ K y) := by
  rw [ord hx hy]
  rcases Int.lt_trichotomy (K x) (K y) with h | h | h
  · rw [cmp_lt h, decide_eq_true (show K x ≠ K y by omega)]; rfl
  · rw [cmp_eq h, decide_eq_false (show ¬ K x ≠ K y by omega)]; rfl
  · rw [cmp_gt h, decide_eq_true (show K x ≠ K y by omega)]; rfl
/-- the greater word, the lesser word, as Go's max and min choose -/
def maxW (x y : Nat) : Nat := if K x < K y then y else if K x = K y then (if (double.read x).neg then y else x) else x
def minW (x y : Nat) : Nat := if K x < K y then x else if K x = K y then (if (double.read x).neg then x else y) else y
theorem maxW_K (x y : Nat) : K (maxW x y) = max (K x) (K y) := by
  unfold maxW
  by_cases h1 : K x < K y
  · rw [if_pos h1]; omega
  · rw [if_neg h1]
    by_cases h2 : K x = K y
    · rw [if_pos h2]; split <;> omega
    · rw [if_neg h2]; omega
theorem minW_K (x y : Nat) : K (minW x y) = min (K x) (K y) := by
  unfold minW
  by_cases h1 : K x < K y
  · rw [if_pos h1]; omega
  · rw [if_neg h1]
    by_cases h2 : K x = K y
    · rw [if_pos h2]; split <;> omega
    · rw [if_neg h2]; omega
theorem maxW_or (x y : Nat) : maxW x y = x ∨ maxW x y = y := by unfold maxW; split <;> (try split) <;> (try split) <;> simp
theorem minW_or (x y : Nat) : minW x y = x ∨ minW x y = y := by unfold minW; split <;> (try split) <;> (try split) <;> simp
def lo : Nat := 4587366580439587226
def hi : Nat := 4666723172467343360
theorem num_lo : num lo := by unfold num; rfl
theorem num_hi : num hi := by unfold num; rfl
theorem lo_hi : K lo < K hi := by
  have h : double.order lo hi = some .lt := by rfl
  rw [ord num_lo num_hi] at h
  rcases Int.lt_trichotomy (K lo) (K hi) with g | g | g
  · exact g
  · rw [cmp_eq g] at h; simp at h
  · rw [cmp_gt g] at h; simp at h
def clamp (x : Nat) : Nat := minW (maxW x lo) hi
theorem clamp_num {x : Nat} (hx : num x) : num (clamp x) := by
  unfold clamp
  rcases minW_or (maxW x lo) hi with h | h
  · rw [h]
    rcases maxW_or x lo with g | g
    · rw [g]; exact hx
    · rw [g]; exact num_lo
  · rw [h]; exact num_hi
theorem clamp_K (x : Nat) : K (clamp x) = min (max (K x) (K lo)) (K hi) := by unfold clamp; rw [minW_K, maxW_K]

/-! ### one by a zero -/
theorem div_zero {x : Nat} (h : double.order x 0 = some .eq) : ∃ r, double.div 4607182418800017408 x = some r ∧ double.order r r = some .eq := by
  have h0 : double.read 0 = .number false 0 (-1074) := by rfl
  have h1 : double.read 4607182418800017408 = .number false 4503599627370496 (-52) := by rfl
  unfold Format.order at h
  rw [h0] at h
  unfold Format.div
  rw [h1]
  cases hd : double.read x with
  | nan s f => rw [hd] at h; simp [Datum.order] at h
  | infinity s => rw [hd] at h; cases s <;> simp [Datum.order] at h
  | number s m i =>
    rw [hd] at h
    have hm : m = 0 := by
      simp only [Datum.order, Option.some.injEq] at h
      rw [signed_eq, signed_eq] at h
      generalize (i - min i (-1074)).toNat = u at h
      generalize (-1074 - min i (-1074)).toNat = t at h
      have hp : (0 : Int) < 2 ^ u := Int.pow_pos (by decide)
      have ez : (if false = true then -((0 : Nat) : Int) else ((0 : Nat) : Int)) * 2 ^ t = 0 := by simp
      rw [ez] at h
      have g : (if s = true then -(m : Int) else (m : Int)) * 2 ^ u = 0 := by
        generalize (if s = true then -(m : Int) else (m : Int)) * 2 ^ u = q at h
        rcases Int.lt_trichotomy q 0 with g | g | g
        · rw [cmp_lt g] at h; cases h
        · exact g
        · rw [cmp_gt g] at h; cases h
      rcases Int.mul_eq_zero.1 g with g | g
      · cases s <;> simp at g <;> exact g
      · omega
    subst hm
    cases s
    · exact ⟨9218868437227405312, by rfl, by rfl⟩
    · exact ⟨18442240474082181120, by rfl, by rfl⟩
end Go.Proofs.Qxb6616692a.Fm
