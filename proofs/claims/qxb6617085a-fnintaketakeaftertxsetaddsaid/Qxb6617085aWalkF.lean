import Derived.Test.Qxb6617085aWalkE
namespace Go.Proofs.Qxb6617085a
open Go.RowKit

/-- memory stands as it stood (a draw may have been made) -/
def Same (w w' : World) : Prop := ∀ B, Below B w w'
theorem Same.refl (w : World) : Same w w := fun B => Below.refl B w
theorem Same.drewN {w w' : World} (h : Same w w') (n : Nat) : Same w (w'.drewN n) := fun B => (h B).trans ⟨rfl, rfl, rfl, Nat.le_refl _, fun _ _ => rfl⟩
theorem Same.cell {w w' : World} (h : Same w w') (ad : Addr) : w'.cell? ad = w.cell? ad := (h (ad.block + 1)).cell (by omega)
theorem Src.same {α : Type} {f : α → Value} {w w' : World} {a : Option Addr} {xs : List α} (h : Src f w a xs) (hs : Same w w') : Src f w' a xs := by
  intro i x hx
  obtain ⟨b, off, ha, hc⟩ := h i x hx
  exact ⟨b, off, ha, (hs.cell _).trans hc⟩
theorem Src.lt {α : Type} {f : α → Value} {w : World} {b off : Nat} {xs : List α} (h : Src f w (some ⟨b, off, none⟩) xs) (h0 : 0 < xs.length) : b < w.heap.size := by
  obtain ⟨b', off', e, hc⟩ := h 0 xs[0] (List.getElem?_eq_getElem h0)
  cases e
  exact World.block_lt_of_cell? w _ hc
/-- what came in is read behind whatever leaves old memory alone -/
theorem Src.later {α : Type} {f : α → Value} {w w' : World} {a : Option Addr} {xs : List α} (h : Src f w a xs) (hb : Below w.heap.size w w') : Src f w' a xs := by
  intro i x hx
  obtain ⟨b, off, ha, hc⟩ := h i x hx
  exact ⟨b, off, ha, (hb.cell (p := ⟨b, off + i, none⟩) (World.block_lt_of_cell? w _ hc)).trans hc⟩

set_option maxHeartbeats 400000 in
theorem equal_nil (w : World) (a b : Option Addr) (c d : Nat) :
    Calls Try.prog 11 #[.slice a 0 c, .slice b 0 d] w fun e w' => e = .returned (.bool true) ∧ Same w w' := by
  go_enter Try.func11, Try.ntmps11
  go_wp2
  refine wp_loop_rounds 1 ?_
  rw [rounds_succ]
  go_wp2
  go_ret
  exact ⟨rfl, Same.refl _⟩
set_option maxHeartbeats 400000 in
theorem equal_some (w : World) (b1 o1 c b2 o2 d : Nat) (xs : List Nat) (hl : xs.length ≤ 16777216) (h1 : ∀ i x, xs[i]? = some x → w.cell? ⟨b1, o1 + i, none⟩ = some (cu x)) (h2 : ∀ i x, xs[i]? = some x → w.cell? ⟨b2, o2 + i, none⟩ = some (cu x)) :
    Calls Try.prog 11 #[.slice (some ⟨b1, o1, none⟩) xs.length c, .slice (some ⟨b2, o2, none⟩) xs.length d] w fun e w' => e = .returned (.bool true) ∧ Same w w' := by
  go_enter Try.func11, Try.ntmps11
  go_wp2
  go_loopw [5] (fun i wr => ∃ k : Nat, k ≤ xs.length ∧ i = .int .i64 k ∧ Same w wr) (fun i _ => xs.length - (intOf i).toNat)
  case atStart => exact ⟨0, Nat.zero_le _, rfl, Same.refl _⟩
  case round =>
    obtain ⟨k, hk, rfl, hS⟩ := hrel
    by_cases hlt : k < xs.length
    · have c1 : wr.cell? ⟨b1, o1 + k, none⟩ = some (.int .u64 (xs[k] : Int)) := (hS.cell _).trans (h1 k _ (List.getElem?_eq_getElem hlt))
      have c2 : wr.cell? ⟨b2, o2 + k, none⟩ = some (.int .u64 (xs[k] : Int)) := (hS.cell _).trans (h2 k _ (List.getElem?_eq_getElem hlt))
      have hlt' : (k : Int) < (xs.length : Int) := by omega
      generalize xs[k] = y at c1 c2
      clear h1 h2
      go_wp2
      go_quiet (fail)
      go_wp2
      go_roundw
      case rel => exact ⟨k + 1, by omega, by go_num, hS.drewN _⟩
      case measure => simp [intOf]; omega
    · go_wp2
      go_ret
      exact ⟨rfl, hS⟩
theorem equal_any (w : World) (a b : Option Addr) (c d : Nat) (xs : List Nat) (hl : xs.length ≤ 16777216) (h1 : Src cu w a xs) (h2 : Src cu w b xs) :
    Calls Try.prog 11 #[.slice a xs.length c, .slice b xs.length d] w fun e w' => e = .returned (.bool true) ∧ Same w w' := by
  by_cases h0 : 0 < xs.length
  · obtain ⟨b1, o1, rfl, hc1⟩ := h1.split h0
    obtain ⟨b2, o2, rfl, hc2⟩ := h2.split h0
    exact equal_some w b1 o1 c b2 o2 d xs hl hc1 hc2
  · obtain rfl : xs = [] := List.eq_nil_of_length_eq_zero (by omega)
    exact equal_nil w a b c d

/-! ### popcountU64 -/
set_option maxHeartbeats 400000 in
theorem pop_nil (w : World) (a : Option Addr) (c : Nat) :
    Calls Try.prog 12 #[.slice a 0 c] w fun e w' => e = .returned (.int .i64 0) ∧ w' = w := by
  go_enter Try.func12, Try.ntmps12
  go_wp2
  refine wp_loop_rounds 1 ?_
  rw [rounds_succ]
  go_wp2
  go_ret
  exact ⟨rfl, rfl⟩
theorem pcAll_take_le (xs : List Nat) (k : Nat) : Mth.pcAll (xs.take k) ≤ 64 * xs.length := by
  have h1 := Mth.pcAll_le (xs.take k)
  have h2 : (xs.take k).length ≤ xs.length := List.length_take_le' _ _
  omega
theorem pcAll_take_succ (xs : List Nat) (k : Nat) (h : k < xs.length) : Mth.pcAll (xs.take (k + 1)) = Mth.pcAll (xs.take k) + Mth.pcN 64 xs[k] := by
  rw [List.take_succ_eq_append_getElem h, Mth.pcAll_append]
  simp [Mth.pcAll, Mth.pc]
theorem and_pred (y : Nat) (h0 : 0 < y) (hy : y < 18446744073709551616) : bits .and .u64 (y : Int) ((y : Int) - 1) = ((y &&& (y - 1) : Nat) : Int) := by
  rw [show ((y : Int) - 1) = ((y - 1 : Nat) : Int) from by omega]
  exact u64_and_nat y (y - 1) hy (by omega)
theorem num_i64 {a b : Int} (h : a = b) : Value.int .i64 a = .int .i64 b := by rw [h]
set_option maxHeartbeats 400000 in
theorem pop_some (f : Nat → Nat) (F : List Nat → Nat) (w : World) (b1 o1 c : Nat) (xs : List Nat) (hl : xs.length ≤ 16777216) (hx : Mth.W64 xs) (h1 : ∀ i x, xs[i]? = some x → w.cell? ⟨b1, o1 + i, none⟩ = some (cu x))
    (hF0 : F (xs.take 0) = 0) (hFs : ∀ k (h : k < xs.length), F (xs.take (k + 1)) = F (xs.take k) + f xs[k]) (hFl : ∀ k, F (xs.take k) ≤ 64 * xs.length) (hf0 : Hid (f 0 = 0)) (hfp : ∀ z, 0 < z → z < 18446744073709551616 → Hid (f z = f (z &&& (z - 1)) + 1)) (hfl : ∀ z, f z ≤ 64) :
    Calls Try.prog 12 #[.slice (some ⟨b1, o1, none⟩) xs.length c] w fun e w' => e = .returned (.int .i64 (F xs : Nat)) ∧ w' = w := by
  go_enter Try.func12, Try.ntmps12
  go_wp2
  go_loop [3, 4] (fun t i => ∃ k : Nat, k ≤ xs.length ∧ i = .int .i64 k ∧ t = .int .i64 (F (xs.take k) : Nat)) (fun _ i => xs.length - (intOf i).toNat)
  case atStart => exact ⟨0, Nat.zero_le _, rfl, by rw [hF0]; rfl⟩
  case round =>
    obtain ⟨k, hk, rfl, rfl⟩ := hrel
    by_cases hlt : k < xs.length
    · have c1 : w.cell? ⟨b1, o1 + k, none⟩ = some (.int .u64 (xs[k] : Int)) := h1 k _ (List.getElem?_eq_getElem hlt)
      have hb := hFl k
      have HS : Hid (F (xs.take (k + 1)) = F (xs.take k) + f xs[k]) := hFs k hlt
      have hyx : xs[k] < 18446744073709551616 := hx _ (List.getElem_mem hlt)
      generalize hP : F (xs.take k) = P0 at hb HS ⊢
      generalize xs[k] = y at c1 HS hyx
      have hl64 := hfl y
      clear h1 hP hF0 hFs hFl
      go_wp2
      go_loop [3, 5] (fun t x => ∃ z : Nat, z < 18446744073709551616 ∧ f z ≤ f y ∧ x = .int .u64 z ∧ t = .int .i64 ((P0 + (f y - f z) : Nat) : Int)) (fun _ x => (intOf x).toNat)
      case atStart => exact ⟨y, hyx, Nat.le_refl _, rfl, num_i64 (by omega)⟩
      case round =>
        obtain ⟨z, hz, hle, rfl, rfl⟩ := hrel
        by_cases h0 : 0 < z
        · have HP := hfp z h0 hz
          have HA : Hid (bits .and .u64 (z : Int) ((z : Int) - 1) = ((z &&& (z - 1) : Nat) : Int)) := and_pred z h0 hz
          have hne : ((z : Int) != 0) = true := by simp; omega
          have hzl := hfl z
          have hzl2 := hfl (z &&& (z - 1))
          have hlo : z &&& (z - 1) ≤ z - 1 := Nat.and_le_right
          clear hfp hfl
          go_wp2
          rw [HA.out]
          go_round
          case rel => exact ⟨z &&& (z - 1), by omega, by have := HP.out; omega, rfl, num_i64 (by have := HP.out; omega)⟩
          case measure => simp [intOf]; omega
        · obtain rfl : z = 0 := by omega
          clear hfp hfl
          go_wp2
          go_round
          case rel => exact ⟨k + 1, by omega, num_i64 (by omega), num_i64 (by have := HS.out; have := hf0.out; omega)⟩
          case measure => simp [intOf]; omega
    · have hkl : k = xs.length := by omega
      subst hkl
      clear hF0 hFs hFl hfp hfl
      go_wp2
      go_ret
      exact ⟨rfl, rfl⟩
theorem pop_any (w : World) (a : Option Addr) (c : Nat) (xs : List Nat) (hl : xs.length ≤ 16777216) (hx : Mth.W64 xs) (h1 : Src cu w a xs) :
    Calls Try.prog 12 #[.slice a xs.length c] w fun e w' => e = .returned (.int .i64 (Mth.pcAll xs : Nat)) ∧ w' = w := by
  by_cases h0 : 0 < xs.length
  · obtain ⟨b1, o1, rfl, hc1⟩ := h1.split h0
    exact pop_some (Mth.pcN 64) Mth.pcAll w b1 o1 c xs hl hx hc1 rfl (pcAll_take_succ xs) (pcAll_take_le xs) (Mth.pcN_zero 64) (fun z h1 h2 => Mth.pcN_pred 64 z h1 h2) (Mth.pcN_le 64)
  · obtain rfl : xs = [] := List.eq_nil_of_length_eq_zero (by omega)
    exact pop_nil w a c
end Go.Proofs.Qxb6617085a
