import Derived.Test.Qxb6617085aWalkF
namespace Go.Proofs.Qxb6617085a
open Go.RowKit

/-- the round's list: the first k copied, the rest zero -/
def partI (xs : List Int) (k : Nat) : List Int := xs.take k ++ List.replicate (xs.length - k) (0 : Int)
theorem partI_length (xs : List Int) (k : Nat) (h : k ≤ xs.length) : (partI xs k).length = xs.length := by simp [partI]; omega
theorem partI_zero (xs : List Int) : partI xs 0 = List.replicate xs.length (0 : Int) := by simp [partI]
theorem partI_all (xs : List Int) : partI xs xs.length = xs := by simp [partI]
theorem partI_set (xs : List Int) (k : Nat) (h : k < xs.length) : (partI xs k).set k xs[k] = partI xs (k + 1) := by
  apply List.ext_getElem?
  intro i
  unfold partI
  obtain ⟨d, hd⟩ : ∃ d, xs.length - k = d + 1 := ⟨xs.length - k - 1, by omega⟩
  have hd' : xs.length - (k + 1) = d := by omega
  rw [hd, hd', List.take_succ_eq_append_getElem h, List.replicate_succ, List.set_append_right _ _ (by simp; omega)]
  have e : k - (List.take k xs).length = 0 := by simp; omega
  rw [e, List.set_cons_zero, List.append_assoc]; rfl

theorem q33 (w : World) (a : Option Addr) (n c n' c' : Nat) : (binOp .eql 33 (.slice a n c) (.slice none n' c')).run Try.prog w = .ok (.bool a.isNone) w :=
  Lib.run_eql_slice_nil w _ _ a n c n' c' Try.underlying33

set_option maxHeartbeats 400000 in
theorem cloneI_nil (w : World) :
    Calls Try.prog 14 #[.slice none 0 0] w fun e w' => e = .returned (.slice none 0 0) ∧ w' = w := by
  have hq := q33
  go_enter Try.func14, Try.ntmps14
  go_wp2
  go_ret
  exact ⟨rfl, rfl⟩

theorem madeI_own (xs : List Int) {w1 : World} {base : Nat} {v : Value} (h : w1.ownsRow base 21 1 v xs.length (madeCells #[Value.int .i32 0] xs.length).toList) : Own ci 21 w1 base v (partI xs 0) := by
  rw [partI_zero]
  unfold Own
  rw [List.length_replicate, List.map_replicate]
  rw [toList_madeCells_one] at h
  exact h
theorem partI_own {xs : List Int} {w : World} {B base k g : Nat} {wr : World} (hk : k < xs.length) (hg : B ≤ g) (h : Own ci 21 wr base (.slice (some ⟨g, 0, none⟩) xs.length xs.length) (partI xs k)) (hb : Below B w wr) :
    Own ci 21 (wr.setCell ⟨g, k, none⟩ (.int .i32 xs[k])) base (.slice (some ⟨g, 0, none⟩) xs.length xs.length) (partI xs (k + 1)) ∧ Below B w (wr.setCell ⟨g, k, none⟩ (.int .i32 xs[k])) := by
  unfold Own at h ⊢
  rw [partI_length _ _ (by omega)] at h ⊢
  refine ⟨?_, hb.setCell hg _⟩
  have := (World.ownsRow.stored h k (.int .i32 xs[k])).1
  rw [← partI_set _ _ hk, List.map_set]
  exact this

set_option maxHeartbeats 400000 in
theorem cloneI_empty (w : World) (x : Addr) (cap : Nat) :
    Calls Try.prog 14 #[.slice (some x) 0 cap] w fun e w' => ∃ v, e = .returned v ∧ Own ci 21 w' w.heap.size v [] ∧ Below w.heap.size w w' := by
  obtain ⟨i0, hi, hz0, hz1, hz2⟩ := info_parts Try.info21
  have hq := q33
  go_enter Try.func14, Try.ntmps14
  go_wp2_with (first | (at_make; refine wpList_make_full _ rfl (.tmp 8) (.tmp 8) 33 rfl w.heap.size 21 i0 (.int .i32 0) 1 Try.underlying33 hi hz0 hz1 _ _ _ _ 0 rfl rfl rfl rfl ?b2 ?b3 ?b4 ?_))
  case b2 => omega
  case b3 => unfold maxLen; omega
  case b4 => omega
  intro w1 hown hgrow
  go_wp2
  refine wp_loop_rounds 1 ?_
  rw [rounds_succ]
  go_wp2
  go_ret
  exact ⟨_, rfl, madeI_own [] hown, below_of_grown hgrow (Nat.le_refl _) (by intro k h; cases h)⟩

set_option maxHeartbeats 400000 in
theorem cloneI_some (w : World) (b off : Nat) (cap : Nat) (xs : List Int) (hl : xs.length ≤ 16777216) (hc : ∀ i x, xs[i]? = some x → w.cell? ⟨b, off + i, none⟩ = some (ci x)) (hB : b < w.heap.size) :
    Calls Try.prog 14 #[.slice (some ⟨b, off, none⟩) xs.length cap] w fun e w' => ∃ v, e = .returned v ∧ Own ci 21 w' w.heap.size v xs ∧ Below w.heap.size w w' := by
  obtain ⟨i0, hi, hz0, hz1, hz2⟩ := info_parts Try.info21
  have hq := q33
  go_enter Try.func14, Try.ntmps14
  go_wp2_with (first | (at_make; refine wpList_make_full _ rfl (.tmp 8) (.tmp 8) 33 rfl w.heap.size 21 i0 (.int .i32 0) 1 Try.underlying33 hi hz0 hz1 _ _ _ _ xs.length rfl rfl rfl rfl ?b2 ?b3 ?b4 ?_))
  case b2 => rw [hz2]; omega
  case b3 => unfold maxLen; omega
  case b4 => omega
  intro w1 hown0 hgrow
  have hown := madeI_own xs hown0
  have hbel : Below w.heap.size w w1 := below_of_grown hgrow (Nat.le_refl _) (by intro k h; cases h)
  clear hown0 hgrow hi hz0 hz1 hz2 i0
  go_wp2
  go_loopw [4] (fun i wr => ∃ k : Nat, k ≤ xs.length ∧ i = .int .i64 k ∧ Own ci 21 wr w.heap.size (.slice (some ⟨w.heap.size, 0, none⟩) xs.length xs.length) (partI xs k) ∧ Below w.heap.size w wr) (fun i _ => xs.length - (intOf i).toNat)
  case atStart => exact ⟨0, Nat.zero_le _, rfl, hown, hbel⟩
  case round =>
    obtain ⟨k, hk, rfl, ho, hb⟩ := hrel
    clear hown hbel
    by_cases hlt : k < xs.length
    · have hcx : wr.cell? ⟨b, off + k, none⟩ = some (.int .i32 xs[k]) := (hb.cell (p := ⟨b, off + k, none⟩) hB).trans (hc k xs[k] (List.getElem?_eq_getElem hlt))
      have R := partI_own hlt (Nat.le_refl _) ho hb
      have hfr := World.ownsRow.frozenAt (by unfold Own at ho; rw [partI_length _ _ hk] at ho; exact ho) k
      obtain ⟨u, hu⟩ : ∃ u, wr.cell? ⟨w.heap.size, k, none⟩ = some u := by
        unfold Own at ho
        rw [partI_length _ _ hk] at ho
        rw [World.ownsRow.cellAt ho k (by omega), List.getElem?_eq_getElem (by simp [partI_length _ _ hk]; omega)]
        exact ⟨_, rfl⟩
      clear hc ho hq
      go_wp2
      go_roundw
      case rel => exact ⟨k + 1, by omega, by go_num, R.1, R.2⟩
      case measure => simp [intOf]; omega
    · have hkl : k = xs.length := by omega
      subst hkl
      go_wp2
      go_ret
      rw [partI_all] at ho
      exact ⟨_, rfl, ho, hb⟩

/-- cloneI32 lays a new row with the same numbers; of what was there nothing turns -/
theorem cloneI_any (w : World) (a : Option Addr) (cap : Nat) (xs : List Int) (hl : xs.length ≤ 16777216) (hn : a = none → cap = 0) (hs : Src ci w a xs) :
    Calls Try.prog 14 #[.slice a xs.length cap] w fun e w' => ∃ v, e = .returned v ∧ Own ci 21 w' w.heap.size v xs ∧ Below w.heap.size w w' := by
  cases a with
  | none =>
    obtain rfl := hs.nil
    obtain rfl := hn rfl
    exact (cloneI_nil w).mono fun e w' ⟨he, hw⟩ => by subst hw; exact ⟨_, he, World.ownsRow_nil _ _ _ _, Below.refl _ _⟩
  | some x =>
    by_cases h0 : 0 < xs.length
    · obtain ⟨b, off, e, hc⟩ := hs.split h0
      cases e
      exact cloneI_some w b off cap xs hl hc (World.block_lt_of_cell? w _ (hc 0 xs[0] (List.getElem?_eq_getElem h0)))
    · obtain rfl : xs = [] := List.eq_nil_of_length_eq_zero (by omega)
      exact cloneI_empty w x cap

set_option maxHeartbeats 400000 in
theorem equalI_nil (w : World) (a b : Option Addr) (c d : Nat) :
    Calls Try.prog 16 #[.slice a 0 c, .slice b 0 d] w fun e w' => e = .returned (.bool true) ∧ Same w w' := by
  go_enter Try.func16, Try.ntmps16
  go_wp2
  refine wp_loop_rounds 1 ?_
  rw [rounds_succ]
  go_wp2
  go_ret
  exact ⟨rfl, Same.refl _⟩
set_option maxHeartbeats 400000 in
theorem equalI_some (w : World) (b1 o1 c b2 o2 d : Nat) (xs : List Int) (hl : xs.length ≤ 16777216) (h1 : ∀ i x, xs[i]? = some x → w.cell? ⟨b1, o1 + i, none⟩ = some (ci x)) (h2 : ∀ i x, xs[i]? = some x → w.cell? ⟨b2, o2 + i, none⟩ = some (ci x)) :
    Calls Try.prog 16 #[.slice (some ⟨b1, o1, none⟩) xs.length c, .slice (some ⟨b2, o2, none⟩) xs.length d] w fun e w' => e = .returned (.bool true) ∧ Same w w' := by
  go_enter Try.func16, Try.ntmps16
  go_wp2
  go_loopw [5] (fun i wr => ∃ k : Nat, k ≤ xs.length ∧ i = .int .i64 k ∧ Same w wr) (fun i _ => xs.length - (intOf i).toNat)
  case atStart => exact ⟨0, Nat.zero_le _, rfl, Same.refl _⟩
  case round =>
    obtain ⟨k, hk, rfl, hS⟩ := hrel
    by_cases hlt : k < xs.length
    · have c1 : wr.cell? ⟨b1, o1 + k, none⟩ = some (.int .i32 xs[k]) := (hS.cell _).trans (h1 k _ (List.getElem?_eq_getElem hlt))
      have c2 : wr.cell? ⟨b2, o2 + k, none⟩ = some (.int .i32 xs[k]) := (hS.cell _).trans (h2 k _ (List.getElem?_eq_getElem hlt))
      have hlt' : (k : Int) < (xs.length : Int) := by omega
      generalize xs[k] = y at c1 c2
      clear h1 h2
      go_wp2
      go_quiet (fail)
      go_wp2
      go_roundw
      case rel => exact ⟨k + 1, by omega, by go_num, hS.drewN _⟩
      case measure => simp [intOf]; omega
    · go_wp2
      go_ret
      exact ⟨rfl, hS⟩
theorem equalI_any (w : World) (a b : Option Addr) (c d : Nat) (xs : List Int) (hl : xs.length ≤ 16777216) (h1 : Src ci w a xs) (h2 : Src ci w b xs) :
    Calls Try.prog 16 #[.slice a xs.length c, .slice b xs.length d] w fun e w' => e = .returned (.bool true) ∧ Same w w' := by
  by_cases h0 : 0 < xs.length
  · obtain ⟨b1, o1, rfl, hc1⟩ := h1.split h0
    obtain ⟨b2, o2, rfl, hc2⟩ := h2.split h0
    exact equalI_some w b1 o1 c b2 o2 d xs hl hc1 hc2
  · obtain rfl : xs = [] := List.eq_nil_of_length_eq_zero (by omega)
    exact equalI_nil w a b c d


/-! ### a block of two cells: the struct 'intake' -/
section
variable {w : World} {b : Nat} {u v : Value} {t : TypeId}
theorem cell_of_two (h : w.heap[b]? = some (.cells #[u, v] t (0, 0))) : w.cell? ⟨b, 0, none⟩ = some u ∧ w.cell? ⟨b, 1, none⟩ = some v := by
  constructor <;> simp [World.cell?, h]
theorem free_of_two (h : w.heap[b]? = some (.cells #[u, v] t (0, 0))) (o : Nat) : w.frozen? ⟨b, o, none⟩ = false := by simp [World.frozen?, h]
theorem two_setCell (h : w.heap[b]? = some (.cells #[u, v] t (0, 0))) (x : Value) : (w.setCell ⟨b, 1, none⟩ x).heap[b]? = some (.cells #[u, x] t (0, 0)) := by
  have hlt := lt_of_block h
  have h' : w.heap[b] = .cells #[u, v] t (0, 0) := by simpa [Array.getElem?_eq_getElem hlt] using h
  show (w.heap.modify b _)[b]? = _
  rw [Array.getElem?_modify, if_pos rfl, h]
  rfl
end
theorem Own.ne_two {α : Type} {f : α → Value} {e t : TypeId} {w : World} {base p : Nat} {v x y : Value} {xs : List α} (h : Own f e w base v xs) (hp : w.heap[p]? = some (.cells #[x, y] t (0, 0))) (ht : t ≠ e) : v.ownBlock ≠ some p := by
  rcases h.2 with ⟨rfl, _⟩ | ⟨g, cap, cur, rfl, _, hg, _⟩
  · simp [Value.ownBlock]
  · simp only [Value.ownBlock, ne_eq, Option.some.injEq]
    rintro rfl
    rw [hg] at hp
    simp only [Option.some.injEq, Obj.cells.injEq] at hp
    exact ht hp.2.1.symm

set_option maxHeartbeats 400000 in
theorem take_far (w : World) (p k : Nat) (n : Int) (v : Value) (_hk : k ≤ 4194304) (hn : -9223372036854775808 ≤ n ∧ n ≤ 9223372036854775807) (hlt : ¬ (k : Int) < n) (hp : w.heap[p]? = some (.cells #[.int .i64 n, v] 42 (0, 0))) :
    Calls Try.prog 18 #[.pointer (some ⟨p, 0, none⟩), .int .i64 (k : Int)] w fun e w' => e = .returned (.tuple #[]) ∧ w' = w := by
  obtain ⟨c0, c1⟩ := cell_of_two hp
  obtain ⟨hn1, hn2⟩ := hn
  clear hp
  go_enter Try.func18, Try.ntmps18
  go_wp2
  go_end0
  exact ⟨rfl, rfl⟩
set_option maxHeartbeats 400000 in
theorem take_near (w : World) (p k base : Nat) (n : Int) (v : Value) (xs : List Int) (hl : xs.length ≤ 16777216) (hk : k ≤ 4194304) (hn : -9223372036854775808 ≤ n ∧ n ≤ 9223372036854775807) (hlt : (k : Int) < n) (hp : w.heap[p]? = some (.cells #[.int .i64 n, v] 42 (0, 0)))
    (ho : Own ci 21 w base v xs) (hb : base ≤ w.heap.size) :
    Calls Try.prog 18 #[.pointer (some ⟨p, 0, none⟩), .int .i64 (k : Int)] w fun e w' => e = .returned (.tuple #[]) ∧ ∃ v', w'.heap[p]? = some (.cells #[.int .i64 n, v'] 42 (0, 0)) ∧ Own ci 21 w' base v' (xs ++ [(k : Int)]) ∧ Grew p v.ownBlock w w' ∧ Fresh w v.ownBlock v' := by
  obtain ⟨i0, hi, hz0, hz1, hz2⟩ := info_parts Try.info21
  obtain ⟨a, cap, hv, _, _⟩ := ho.shape
  subst hv
  obtain ⟨c0, c1⟩ := cell_of_two hp
  have f1 := free_of_two hp 1
  obtain ⟨hn1, hn2⟩ := hn
  go_enter Try.func18, Try.ntmps18
  go_wp2_with (first | (at_builtin; refine wpList_append_own2 _ rfl _ _ 33 rfl base 21 i0 (.int .i32 0) 1 4 Try.underlying33 hi hz0 hz1 hz2 rfl (by decide) _ _ _ rfl (World.ownsRow.alloc ho _) ⟨w.heap.size, 0, none⟩ 1 1 [.int .i32 (k : Int)] rfl rfl (by decide) ?c1 ?c2 ?c3 ?c4 ?c5 ?_))
  case c1 => exact fun j u hj => cell_one_new _ _ _ j u hj
  case c2 => intro u hu; simp at hu; subst hu; rfl
  case c3 => unfold maxLen; omega
  case c4 => omega
  case c5 => simp; omega
  intro v2 w1 hown' hgrow hfresh
  have hO : Own ci 21 w1 base v2 (xs ++ [(k : Int)]) := by
    unfold Own
    rw [List.length_append, List.map_append]
    exact hown'
  have hsz : (w.alloc (.cells #[.int .i32 (k : Int)] 21)).heap.size = w.heap.size + 1 := by simp
  have hpl := lt_of_block hp
  have hp1 : w1.heap[p]? = some (.cells #[.int .i64 n, .slice a xs.length cap] 42 (0, 0)) := by
    have hb0 : (w.alloc (.cells #[.int .i32 (k : Int)] 21)).heap[p]? = some (.cells #[.int .i64 n, .slice a xs.length cap] 42 (0, 0)) := by rw [Below.heap_alloc w _ p hpl]; exact hp
    have hO0 : Own ci 21 (w.alloc (.cells #[.int .i32 (k : Int)] 21)) base (.slice a xs.length cap) xs := World.ownsRow.alloc ho _
    rw [hgrow.block p (lt_of_block hb0) (Ne.symm (hO0.ne_two hb0 (by decide)))]
    exact hb0
  obtain ⟨d0, d1⟩ := cell_of_two hp1
  have g1 := free_of_two hp1 1
  have R1 := two_setCell hp1 v2
  have R2 := hO.setOther (a := ⟨p, 1, none⟩) (hO.ne_two hp1 (by decide)) v2
  have R3 : Grew p (Value.slice a xs.length cap).ownBlock w (w1.setCell ⟨p, 1, none⟩ v2) := by
    refine ⟨hgrow.os, hgrow.tape, hgrow.output, ?_, ?_⟩
    · have := hgrow.size; simp [World.setCell]; omega
    · intro i hi hpi hr
      rw [Below.heap_setCell _ _ _ _ hpi, hgrow.block i (by omega) hr]
      exact Below.heap_alloc w _ i hi
  have R4 : Fresh w (Value.slice a xs.length cap).ownBlock v2 := by
    rcases hfresh with h | h
    · exact .inl h
    · exact .inr fun i hi => by have := h i hi; omega
  have hex : ∃ a2 c2, v2 = .slice a2 (xs ++ [(k : Int)]).length c2 := by obtain ⟨a2, c2, h2, _⟩ := hO.shape; exact ⟨a2, c2, h2⟩
  obtain ⟨a2, c2, hv2⟩ := hex
  rw [List.length_append] at hv2
  clear hp ho hown' hgrow hfresh hO hp1 c0 c1 f1
  subst hv2
  go_wp2
  go_end0
  exact ⟨rfl, _, R1, R2, R3, R4⟩

set_option maxHeartbeats 400000 in
/-- ZZIntakeTake: next stays; late gains k where k is below next -/
theorem intake_any (w : World) (k base : Nat) (n : Int) (v : Value) (xs ys : List Int) (HY : Hid (ys = xs ++ if (k : Int) < n then [(k : Int)] else [])) (hl : xs.length ≤ 16777216) (hk : k ≤ 4194304) (hn : -9223372036854775808 ≤ n ∧ n ≤ 9223372036854775807) (ho : Own ci 21 w base v xs) (hb : base ≤ w.heap.size) :
    Calls Try.prog 15 #[.int .i64 n, v, .int .i64 (k : Int)] w fun e w' => ∃ v', e = .returned (.tuple #[.int .i64 n, v']) ∧ Own ci 21 w' base v' ys ∧ w.grownBy w' v.ownBlock ∧ Fresh w v.ownBlock v' := by
  obtain ⟨a, cap, hv, _, _⟩ := ho.shape
  subst hv
  have hsz : (w.alloc (.cells #[.int .i64 n, .slice a xs.length cap] 42)).heap.size = w.heap.size + 1 := by simp
  have H : ∀ W, W = w.alloc (.cells #[.int .i64 n, .slice a xs.length cap] 42) → Calls Try.prog 18 #[.pointer (some ⟨w.heap.size, 0, none⟩), .int .i64 (k : Int)] W fun e w' => e = .returned (.tuple #[]) ∧ ∃ v', w'.heap[w.heap.size]? = some (.cells #[.int .i64 n, v'] 42 (0, 0)) ∧ Own ci 21 w' base v' ys ∧ Grew w.heap.size (Value.slice a xs.length cap).ownBlock W w' ∧ Fresh W (Value.slice a xs.length cap).ownBlock v' := by
    intro W hW
    subst hW
    rw [HY.out]
    by_cases hlt : (k : Int) < n
    · rw [if_pos hlt]
      exact take_near _ w.heap.size k base n _ xs hl hk hn hlt (heap_alloc_new w _) (World.ownsRow.alloc ho _) (by omega)
    · rw [if_neg hlt, List.append_nil]
      refine (take_far _ w.heap.size k n _ hk hn hlt (heap_alloc_new w _)).mono ?_
      rintro e w' ⟨rfl, rfl⟩
      exact ⟨rfl, _, heap_alloc_new w _, World.ownsRow.alloc ho _, ⟨rfl, rfl, rfl, Nat.le_refl _, fun _ _ _ _ => rfl⟩, Fresh.refl _ _⟩
  go_enter Try.func15, Try.ntmps15
  go_wp2_with fail
  refine (H _ rfl).mono ?_
  rintro e w' ⟨rfl, v', hbox, hown, hkeep, hbel⟩
  clear H
  obtain ⟨a', cap', hv, _⟩ := hown.shape
  subst hv
  obtain ⟨c0, c1⟩ := cell_of_two hbox
  have hgr : w.grownBy w' (Value.slice a xs.length cap).ownBlock := by
    refine ⟨hkeep.os, hkeep.tape, hkeep.output, by have := hkeep.size; omega, fun i hi hr => ?_⟩
    rw [hkeep.block i (by omega) (by omega) hr]
    exact Below.heap_alloc w _ i hi
  have hfr : Fresh w (Value.slice a xs.length cap).ownBlock (.slice a' ys.length cap') := by
    rcases hbel with h | h
    · exact .inl h
    · refine .inr fun i hi => ?_
      have := h i hi
      omega
  clear hkeep hbel hbox ho
  go_wp2
  go_quiet (fail)
  go_wp2
  go_ret2
  exact ⟨_, rfl, hown, ⟨hgr.os, hgr.tape, hgr.output, hgr.size, hgr.block⟩, hfr⟩
end Go.Proofs.Qxb6617085a
