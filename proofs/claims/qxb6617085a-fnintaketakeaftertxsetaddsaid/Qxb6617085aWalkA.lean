import Derived.Test.Qxb6617085aBase
namespace Go.Proofs.Qxb6617085a
open Go.RowKit

set_option maxHeartbeats 400000 in
theorem bitOf_in (w : World) (b off n cap x j : Nat) (hl : n ≤ 9223372036854775807) (hj : j ≤ 4611686018427387904) (h : j / 64 < n)
    (hc : w.cell? ⟨b, off + j / 64, none⟩ = some (.int .u64 (x : Int))) (hx : x < 18446744073709551616) :
    Calls Try.prog 9 #[.slice (some ⟨b, off, none⟩) n cap, .int .i64 (j : Int)] w fun e w' => e = .returned (.bool (x.testBit (j % 64))) ∧ w' = w := by
  have hb := Hid.out (bit_read x (j % 64) hx)
  clear hx
  have HB : Hid ((bits .and .u64 ((x : Int) / 2 ^ (j % 64)) 1 == 1) = x.testBit (j % 64)) := hb
  clear hb
  go_enter Try.func9, Try.ntmps9
  go_wp2
  go_ret
  refine ⟨?_, rfl⟩
  rw [← HB.out]
  rfl
set_option maxHeartbeats 400000 in
theorem bitOf_out (w : World) (a : Option Addr) (n cap j : Nat) (hl : n ≤ 9223372036854775807) (hj : j ≤ 4611686018427387904) (h : ¬ j / 64 < n) :
    Calls Try.prog 9 #[.slice a n cap, .int .i64 (j : Int)] w fun e w' => e = .returned (.bool false) ∧ w' = w := by
  go_enter Try.func9, Try.ntmps9
  go_wp2
  go_ret
  exact ⟨rfl, rfl⟩
/-- bitOf answers 'has' -/
theorem bitOf_any (w : World) (a : Option Addr) (cap : Nat) (xs : List Nat) (j : Nat) (hl : xs.length ≤ 9223372036854775807) (hj : j ≤ 4611686018427387904) (hx : Mth.W64 xs) (hs : Src cu w a xs) :
    Calls Try.prog 9 #[.slice a xs.length cap, .int .i64 (j : Int)] w fun e w' => e = .returned (.bool (Mth.has xs j)) ∧ w' = w := by
  by_cases h : j / 64 < xs.length
  · obtain ⟨b, off, rfl, hc⟩ := hs (j / 64) xs[j / 64] (List.getElem?_eq_getElem h)
    have := bitOf_in w b off xs.length cap xs[j / 64] j hl hj h hc (hx _ (List.getElem_mem h))
    have e : Mth.has xs j = xs[j / 64].testBit (j % 64) := by unfold Mth.has; rw [Mth.getD_at h]
    rw [e]; exact this
  · have e : Mth.has xs j = false := by unfold Mth.has; rw [List.getD, List.getElem?_eq_none (Nat.le_of_not_lt h)]; simp
    rw [e]; exact bitOf_out w a xs.length cap j hl hj h

/-- the round's list: the first k copied, the rest zero -/
def part (xs : List Nat) (k : Nat) : List Nat := xs.take k ++ List.replicate (xs.length - k) 0
theorem part_length (xs : List Nat) (k : Nat) (h : k ≤ xs.length) : (part xs k).length = xs.length := by simp [part]; omega
theorem part_zero (xs : List Nat) : part xs 0 = List.replicate xs.length 0 := by simp [part]
theorem part_all (xs : List Nat) : part xs xs.length = xs := by simp [part]
theorem part_set (xs : List Nat) (k : Nat) (h : k < xs.length) : (part xs k).set k xs[k] = part xs (k + 1) := by
  apply List.ext_getElem?
  intro i
  unfold part
  obtain ⟨d, hd⟩ : ∃ d, xs.length - k = d + 1 := ⟨xs.length - k - 1, by omega⟩
  have hd' : xs.length - (k + 1) = d := by omega
  rw [hd, hd', List.take_succ_eq_append_getElem h, List.replicate_succ, List.set_append_right _ _ (by simp; omega)]
  have e : k - (List.take k xs).length = 0 := by simp; omega
  rw [e, List.set_cons_zero, List.append_assoc]; rfl

theorem q22 (w : World) (a : Option Addr) (n c n' c' : Nat) : (binOp .eql 22 (.slice a n c) (.slice none n' c')).run Try.prog w = .ok (.bool a.isNone) w :=
  Lib.run_eql_slice_nil w _ _ a n c n' c' Try.underlying22

set_option maxHeartbeats 400000 in
theorem clone_nil (w : World) :
    Calls Try.prog 7 #[.slice none 0 0] w fun e w' => e = .returned (.slice none 0 0) ∧ w' = w := by
  have hq := q22
  go_enter Try.func7, Try.ntmps7
  go_wp2
  go_ret
  exact ⟨rfl, rfl⟩

theorem made_own (xs : List Nat) {w1 : World} {base : Nat} {v : Value} (h : w1.ownsRow base 27 1 v xs.length (madeCells #[Value.int .u64 0] xs.length).toList) : Own cu 27 w1 base v (part xs 0) := by
  rw [part_zero]
  unfold Own
  rw [List.length_replicate, List.map_replicate]
  rw [toList_madeCells_one] at h
  exact h
theorem part_own {xs : List Nat} {w : World} {B base k g : Nat} {wr : World} (hk : k < xs.length) (hg : B ≤ g) (h : Own cu 27 wr base (.slice (some ⟨g, 0, none⟩) xs.length xs.length) (part xs k)) (hb : Below B w wr) :
    Own cu 27 (wr.setCell ⟨g, k, none⟩ (.int .u64 (xs[k] : Int))) base (.slice (some ⟨g, 0, none⟩) xs.length xs.length) (part xs (k + 1)) ∧ Below B w (wr.setCell ⟨g, k, none⟩ (.int .u64 (xs[k] : Int))) := by
  unfold Own at h ⊢
  rw [part_length _ _ (by omega)] at h ⊢
  refine ⟨?_, hb.setCell hg _⟩
  have := (World.ownsRow.stored h k (.int .u64 (xs[k] : Int))).1
  rw [← part_set _ _ hk, List.map_set]
  exact this

set_option maxHeartbeats 400000 in
theorem clone_empty (w : World) (x : Addr) (cap : Nat) :
    Calls Try.prog 7 #[.slice (some x) 0 cap] w fun e w' => ∃ v, e = .returned v ∧ Own cu 27 w' w.heap.size v [] ∧ Below w.heap.size w w' := by
  obtain ⟨i0, hi, hz0, hz1, hz2⟩ := info_parts Try.info27
  have hq := q22
  go_enter Try.func7, Try.ntmps7
  go_wp2_with (first | (at_make; refine wpList_make_full _ rfl (.tmp 8) (.tmp 8) 22 rfl w.heap.size 27 i0 (.int .u64 0) 1 Try.underlying22 hi hz0 hz1 _ _ _ _ 0 rfl rfl rfl rfl ?b2 ?b3 ?b4 ?_))
  case b2 => omega
  case b3 => unfold maxLen; omega
  case b4 => omega
  intro w1 hown hgrow
  go_wp2
  refine wp_loop_rounds 1 ?_
  rw [rounds_succ]
  go_wp2
  go_ret
  exact ⟨_, rfl, made_own [] hown, below_of_grown hgrow (Nat.le_refl _) (by intro k h; cases h)⟩

set_option maxHeartbeats 400000 in
theorem clone_some (w : World) (b off : Nat) (cap : Nat) (xs : List Nat) (hl : xs.length ≤ 16777216) (hc : ∀ i x, xs[i]? = some x → w.cell? ⟨b, off + i, none⟩ = some (cu x)) (hB : b < w.heap.size) :
    Calls Try.prog 7 #[.slice (some ⟨b, off, none⟩) xs.length cap] w fun e w' => ∃ v, e = .returned v ∧ Own cu 27 w' w.heap.size v xs ∧ Below w.heap.size w w' := by
  obtain ⟨i0, hi, hz0, hz1, hz2⟩ := info_parts Try.info27
  have hq := q22
  go_enter Try.func7, Try.ntmps7
  go_wp2_with (first | (at_make; refine wpList_make_full _ rfl (.tmp 8) (.tmp 8) 22 rfl w.heap.size 27 i0 (.int .u64 0) 1 Try.underlying22 hi hz0 hz1 _ _ _ _ xs.length rfl rfl rfl rfl ?b2 ?b3 ?b4 ?_))
  case b2 => rw [hz2]; omega
  case b3 => unfold maxLen; omega
  case b4 => omega
  intro w1 hown0 hgrow
  have hown := made_own xs hown0
  have hbel : Below w.heap.size w w1 := below_of_grown hgrow (Nat.le_refl _) (by intro k h; cases h)
  clear hown0 hgrow hi hz0 hz1 hz2 i0
  go_wp2
  go_loopw [4] (fun i wr => ∃ k : Nat, k ≤ xs.length ∧ i = .int .i64 k ∧ Own cu 27 wr w.heap.size (.slice (some ⟨w.heap.size, 0, none⟩) xs.length xs.length) (part xs k) ∧ Below w.heap.size w wr) (fun i _ => xs.length - (intOf i).toNat)
  case atStart => exact ⟨0, Nat.zero_le _, rfl, hown, hbel⟩
  case round =>
    obtain ⟨k, hk, rfl, ho, hb⟩ := hrel
    clear hown hbel
    by_cases hlt : k < xs.length
    · have hcx : wr.cell? ⟨b, off + k, none⟩ = some (.int .u64 (xs[k] : Int)) := (hb.cell (p := ⟨b, off + k, none⟩) hB).trans (hc k xs[k] (List.getElem?_eq_getElem hlt))
      have R := part_own hlt (Nat.le_refl _) ho hb
      have hfr := World.ownsRow.frozenAt (by unfold Own at ho; rw [part_length _ _ hk] at ho; exact ho) k
      obtain ⟨u, hu⟩ : ∃ u, wr.cell? ⟨w.heap.size, k, none⟩ = some u := by
        unfold Own at ho
        rw [part_length _ _ hk] at ho
        rw [World.ownsRow.cellAt ho k (by omega), List.getElem?_eq_getElem (by simp [part_length _ _ hk]; omega)]
        exact ⟨_, rfl⟩
      clear hc ho hq
      go_wp2
      go_roundw
      case rel => exact ⟨k + 1, by omega, by go_num, R.1, R.2⟩
      case measure => simp [intOf]; omega
    · have hkl : k = xs.length := by omega
      subst hkl
      go_wp2
      go_ret
      rw [part_all] at ho
      exact ⟨_, rfl, ho, hb⟩

/-- cloneU64 lays a new row with the same words; of what was there nothing turns -/
theorem clone_any (w : World) (a : Option Addr) (cap : Nat) (xs : List Nat) (hl : xs.length ≤ 16777216) (hn : a = none → cap = 0) (hs : Src cu w a xs) :
    Calls Try.prog 7 #[.slice a xs.length cap] w fun e w' => ∃ v, e = .returned v ∧ Own cu 27 w' w.heap.size v xs ∧ Below w.heap.size w w' := by
  cases a with
  | none =>
    obtain rfl := hs.nil
    obtain rfl := hn rfl
    exact (clone_nil w).mono fun e w' ⟨he, hw⟩ => by subst hw; exact ⟨_, he, World.ownsRow_nil _ _ _ _, Below.refl _ _⟩
  | some x =>
    by_cases h0 : 0 < xs.length
    · obtain ⟨b, off, e, hc⟩ := hs.split h0
      cases e
      exact clone_some w b off cap xs hl hc (World.block_lt_of_cell? w _ (hc 0 xs[0] (List.getElem?_eq_getElem h0)))
    · obtain rfl : xs = [] := List.eq_nil_of_length_eq_zero (by omega)
      exact clone_empty w x cap
end Go.Proofs.Qxb6617085a
