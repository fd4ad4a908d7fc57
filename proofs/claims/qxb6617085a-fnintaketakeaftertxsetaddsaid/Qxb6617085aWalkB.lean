import Derived.Test.Qxb6617085aWalkA
import Derived.Deep.LoopGhost
import Derived.Deep.QuietTactic
import Derived.BigQuiet
namespace Go.Proofs.Qxb6617085a
open Go.RowKit

theorem Own.pos {α : Type} {f : α → Value} {e : TypeId} {w : World} {base : Nat} {v : Value} {xs : List α} (h : Own f e w base v xs) (h0 : 0 < xs.length) :
    ∃ g cap, v = .slice (some ⟨g, 0, none⟩) xs.length cap ∧ base ≤ g ∧ ∀ i (hi : i < xs.length), w.cell? ⟨g, i, none⟩ = some (f xs[i]) := by
  rcases h.2 with ⟨rfl, h'⟩ | ⟨g, cap, cur, rfl, hb, hg, rest⟩
  · omega
  · refine ⟨g, cap, rfl, hb, fun i hi => ?_⟩
    rw [World.ownsRow.cellAt h i (by omega), List.getElem?_map, List.getElem?_eq_getElem hi]; rfl
theorem Own.ne_one {α : Type} {f : α → Value} {e t : TypeId} {w : World} {base p : Nat} {v u : Value} {xs : List α} (h : Own f e w base v xs) (hp : w.heap[p]? = some (.cells #[u] t (0, 0))) (ht : t ≠ e) : v.ownBlock ≠ some p := by
  rcases h.2 with ⟨rfl, _⟩ | ⟨g, cap, cur, rfl, _, hg, _⟩
  · simp [Value.ownBlock]
  · simp only [Value.ownBlock, ne_eq, Option.some.injEq]
    rintro rfl
    rw [hg] at hp
    simp only [Option.some.injEq, Obj.cells.injEq] at hp
    exact ht hp.2.1.symm
theorem Own.setOther {α : Type} {f : α → Value} {e : TypeId} {w : World} {base : Nat} {v : Value} {xs : List α} (h : Own f e w base v xs) {a : Addr} (ha : v.ownBlock ≠ some a.block) (u : Value) : Own f e (w.setCell a u) base v xs :=
  ownsRow_setCell_other h ha u

/-- of what was there nothing has turned but block p and block r -/
structure Grew (p : Nat) (r : Option Nat) (w w' : World) : Prop where
  os : w'.os = w.os
  tape : w'.tape = w.tape
  output : w'.output = w.output
  size : w.heap.size ≤ w'.heap.size
  block : ∀ i, i < w.heap.size → i ≠ p → some i ≠ r → w'.heap[i]? = w.heap[i]?

/-- the state of 'add''s loop -/
structure Lp (w : World) (p base k : Nat) (r : Option Nat) (xs : List Nat) (v : Value) (ys : List Nat) (wr : World) : Prop where
  box : wr.heap[p]? = some (.cells #[v] 39 (0, 0))
  own : Own cu 27 wr base v ys
  w64 : Mth.W64 ys
  pads : Mth.pad ys (k / 64 + 1) = Mth.pad xs (k / 64 + 1)
  len : xs.length ≤ ys.length
  grew : Grew p r w wr
  fresh : Fresh w r v

theorem Lp.box1 {w : World} {p base k : Nat} {r : Option Nat} {xs : List Nat} {v : Value} {ys : List Nat} {wr : World} (h : Lp w p base k r xs v ys wr) {o : Obj} {w1 : World} (hg : (wr.alloc o).grownBy w1 v.ownBlock) : w1.heap[p]? = some (.cells #[v] 39 (0, 0)) := by
  have hb0 : (wr.alloc o).heap[p]? = some (.cells #[v] 39 (0, 0)) := by rw [Below.heap_alloc wr o p (lt_of_block h.box)]; exact h.box
  have hO0 : Own cu 27 (wr.alloc o) base v ys := World.ownsRow.alloc h.own o
  rw [hg.block p (lt_of_block hb0) (Ne.symm (hO0.ne_one hb0 (by decide)))]
  exact hb0
theorem Lp.step {w : World} {p base k : Nat} {r : Option Nat} {xs : List Nat} {v : Value} {ys : List Nat} {wr : World} (h : Lp w p base k r xs v ys wr) (hlt : ys.length ≤ k / 64) {o : Obj} {v' : Value} {w1 : World}
    (hown' : w1.ownsRow base 27 1 v' (ys.length + 1) (ys.map cu ++ [Value.int .u64 0])) (hg : (wr.alloc o).grownBy w1 v.ownBlock) (hf : Fresh (wr.alloc o) v.ownBlock v') :
    Lp w p base k r xs v' (ys ++ [0]) (w1.setCell ⟨p, 0, none⟩ v') := by
  have hO : Own cu 27 w1 base v' (ys ++ [0]) := by
    unfold Own
    rw [List.length_append, List.map_append]
    exact hown'
  have hbox1 := h.box1 hg
  have hsz : wr.heap.size ≤ w1.heap.size := by have := hg.size; simp at this; omega
  have hsz' : (wr.alloc o).heap.size = wr.heap.size + 1 := by simp
  refine ⟨one_setCell hbox1, hO.setOther (hO.ne_one hbox1 (by decide)) _, ?_, ?_, ?_, ⟨?_, ?_, ?_, ?_, ?_⟩, h.fresh.trans hf (by have := h.grew.size; omega)⟩
  · intro x hx
    rcases List.mem_append.1 hx with hx | hx
    · exact h.w64 x hx
    · simp at hx; subst hx; decide
  · rw [← h.pads]; exact Mth.pad_snoc (by omega)
  · have := h.len; simp; omega
  · exact hg.os.trans h.grew.os
  · exact hg.tape.trans h.grew.tape
  · exact hg.output.trans h.grew.output
  · have := h.grew.size; simp [World.setCell]; omega
  · intro i hi hp hr
    have hi' := Nat.lt_of_lt_of_le hi h.grew.size
    rw [Below.heap_setCell _ _ _ _ hp, hg.block i (by omega) (h.fresh.ne hi hr), Below.heap_alloc wr o i hi']
    exact h.grew.block i hi hp hr

set_option maxHeartbeats 400000 in
theorem add_any (w : World) (p k base : Nat) (v : Value) (xs : List Nat) (_hl : xs.length ≤ 16777216) (hk : k ≤ 4194304) (hx : Mth.W64 xs) (hp : w.heap[p]? = some (.cells #[v] 39 (0, 0))) (ho : Own cu 27 w base v xs) (hb : base ≤ w.heap.size) :
    Calls Try.prog 17 #[.pointer (some ⟨p, 0, none⟩), .int .i64 (k : Int)] w fun e w' => e = .returned (.bool !(Mth.has xs k)) ∧ ∃ v', w'.heap[p]? = some (.cells #[v'] 39 (0, 0)) ∧ Own cu 27 w' base v' (Mth.addW xs k) ∧ Grew p v.ownBlock w w' ∧ Fresh w v.ownBlock v' := by
  obtain ⟨i0, hi, hz0, hz1, hz2⟩ := info_parts Try.info27
  obtain ⟨bt, hbt⟩ : ∃ bt : Nat, bt = 2 ^ (k % 64) := ⟨_, rfl⟩
  have hw : IntKind.u64.wrap (2 ^ (k % 64)) = (bt : Int) := by
    have := pow_lt_u64 (Nat.mod_lt k (show 0 < 64 by decide))
    have e : ((2 : Int) ^ (k % 64)) = (bt : Int) := by rw [hbt]; simp
    rw [IntKind.wrap_u64, e]
    omega
  have HBT : Hid (bt = 2 ^ (k % 64)) := hbt
  have hst : ∀ nq, Lp w p base k v.ownBlock xs v xs (w.drewN nq) := fun nq => ⟨hp, ho, hx, rfl, Nat.le_refl _, ⟨rfl, rfl, rfl, Nat.le_refl _, fun _ _ _ _ => rfl⟩, Fresh.refl _ _⟩
  clear hbt hp ho
  go_enter Try.func17, Try.ntmps17
  go_wp2
  go_quiet (fail)
  have hst' := hst nq
  clear hst
  go_wp2
  simp only [hw]
  clear hw
  go_loopg [12] (k / 64 + 1 - xs.length) (fun g _ wr => ∃ v' ys, g = k / 64 + 1 - ys.length ∧ Lp w p base k v.ownBlock xs v' ys wr)
  case atStart => exact ⟨v, xs, rfl, hst'⟩
  case round =>
    obtain ⟨v', ys, rfl, hL⟩ := hrel
    obtain ⟨a, cap, rfl, hsrc, hba⟩ := hL.own.shape
    have hcp := cell_of_one hL.box
    have hfp := free_of_one hL.box
    by_cases hlt : ys.length ≤ k / 64
    · go_wp2_with (first | (at_builtin; refine wpList_append_own2 _ rfl _ _ 39 rfl base 27 i0 (.int .u64 0) 1 8 Try.underlying39 hi hz0 hz1 hz2 rfl (by decide) _ _ _ rfl (World.ownsRow.alloc hL.own _) ⟨wr.heap.size, 0, none⟩ 1 1 [.int .u64 0] rfl rfl (by decide) ?c1 ?c2 ?c3 ?c4 ?c5 ?_))
      case c1 => exact fun j u hj => cell_one_new _ _ _ j u hj
      case c2 => intro u hu; simp at hu; subst hu; rfl
      case c3 => unfold maxLen; omega
      case c4 => omega
      case c5 => have := hL.grew.size; simp; omega
      intro v2 w1 hown' hgrow hfresh
      have R := hL.step hlt hown' hgrow hfresh
      have hb1 := hL.box1 hgrow
      have hc1 := cell_of_one hb1
      have hf1 := free_of_one hb1
      have hex : ∃ a2 c2, v2 = .slice a2 (ys ++ [0]).length c2 := by obtain ⟨a2, c2, h2, _⟩ := R.own.shape; exact ⟨a2, c2, h2⟩
      clear hL hcp hfp hown' hgrow hfresh hb1 hsrc hba hst'
      obtain ⟨a2, c2, hv2⟩ := hex
      have hlen : (ys ++ [0]).length = ys.length + 1 := by simp
      rw [hlen] at hv2
      rw [hv2] at R ⊢
      clear hv2
      go_wp2
      go_roundg (k / 64 + 1 - (ys ++ [0]).length)
      case measure => rw [hlen]; omega
      case rel => exact ⟨_, _, rfl, R⟩
    · have hlt' : k / 64 < ys.length := by omega
      obtain ⟨g, cap', hv, hbg, hcell⟩ := hL.own.pos (by omega)
      simp only [Value.slice.injEq, true_and] at hv
      obtain ⟨rfl, rfl⟩ := hv
      have hck : wr.cell? ⟨g, k / 64, none⟩ = some (.int .u64 (ys[k / 64] : Int)) := hcell _ hlt'
      have hfk := World.ownsRow.frozenAt hL.own (k / 64)
      have hyx : ys[k / 64] < 18446744073709551616 := hL.w64 _ (List.getElem_mem hlt')
      have hbit := bit_test ys[k / 64] (k % 64) hyx (Nat.mod_lt _ (by decide))
      have hset := bit_set ys[k / 64] (k % 64) hyx (Nat.mod_lt _ (by decide))
      rw [← HBT.out] at hbit hset
      have hhas : ys[k / 64].testBit (k % 64) = Mth.has xs k := by
        rw [← Mth.pad_has xs (k / 64 + 1), ← hL.pads, Mth.pad_has]
        unfold Mth.has
        rw [Mth.getD_at hlt']
      have hO := World.ownsRow.stored hL.own (k / 64) (.int .u64 ((ys[k / 64] ||| bt : Nat) : Int))
      have hadd : Mth.has xs k = false → Mth.addW xs k = ys.set (k / 64) (ys[k / 64] ||| bt) := by
        intro _
        unfold Mth.addW
        rw [← hL.pads, Mth.pad_self (by omega), Mth.getD_at hlt', HBT.out]
      have hold : Mth.has xs k = true → Mth.addW xs k = ys := by
        intro h
        rw [Mth.addW_old h, ← hL.pads, Mth.pad_self (by omega)]
      generalize hy : ys[k / 64] = y at hck hbit hset hhas hO hadd
      have HADD : Hid (Mth.has xs k = false → Mth.addW xs k = ys.set (k / 64) (y ||| bt)) := hadd
      have HOLD : Hid (Mth.has xs k = true → Mth.addW xs k = ys) := hold
      have HHAS : Hid (y.testBit (k % 64) = Mth.has xs k) := hhas
      have HY : Hid (ys[k / 64] = y) := hy
      have HSET : Hid (bits .or .u64 (y : Int) (bt : Int) = ((y ||| bt : Nat) : Int)) := hset
      clear hadd hold hhas hy hset hyx hcell hsrc hba hst'
      by_cases hh : Mth.has xs k = true
      · have ht : (bits .and .u64 (y : Int) (bt : Int) != 0) = true := by rw [hbit, HHAS.out]; exact hh
        have HH : Hid (Mth.has xs k = true) := hh
        clear hh hbit
        go_wp2
        go_ret
        refine ⟨by rw [HH.out]; rfl, _, hL.box, ?_, hL.grew, hL.fresh⟩
        rw [HOLD.out HH.out]
        exact hL.own
      · have hh' : Mth.has xs k = false := by simpa using hh
        have ht : (bits .and .u64 (y : Int) (bt : Int) != 0) = false := by rw [hbit, HHAS.out]; exact hh'
        have HH : Hid (Mth.has xs k = false) := hh'
        clear hh hh' hbit
        go_wp2
        go_ret
        rw [HSET.out]
        have hne : g ≠ p := fun e => (hL.own.ne_one hL.box (by decide)) (by rw [e]; rfl)
        refine ⟨by rw [HH.out]; rfl, .slice (some ⟨g, 0, none⟩) ys.length cap, ?_, ?_, ⟨hL.grew.os, hL.grew.tape, hL.grew.output, by have := hL.grew.size; simp [World.setCell]; omega, ?_⟩, hL.fresh⟩
        · rw [Below.heap_setCell _ _ _ _ (Ne.symm hne)]; exact hL.box
        · rw [HADD.out HH.out]
          unfold Own
          rw [List.length_set, List.map_set]
          exact hO.1
        · intro i hi hp hr
          rw [hO.2.block i (Nat.lt_of_lt_of_le hi hL.grew.size) (hL.fresh.ne hi hr)]
          exact hL.grew.block i hi hp hr
end Go.Proofs.Qxb6617085a
