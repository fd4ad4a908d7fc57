import Derived.Test.Qxb6617085aWalkB
namespace Go.Proofs.Qxb6617085a
open Go.RowKit

set_option maxHeartbeats 400000 in
theorem txAdd_any (w : World) (k base : Nat) (v : Value) (xs : List Nat) (hl : xs.length ≤ 16777216) (hk : k ≤ 4194304) (hx : Mth.W64 xs) (ho : Own cu 27 w base v xs) (hb : base ≤ w.heap.size) :
    Calls Try.prog 8 #[v, .int .i64 (k : Int)] w fun e w' => ∃ v', e = .returned (.tuple #[v', .bool !(Mth.has xs k)]) ∧ Own cu 27 w' base v' (Mth.addW xs k) ∧ w.grownBy w' v.ownBlock ∧ Fresh w v.ownBlock v' := by
  obtain ⟨a, cap, rfl, hsrc, hba⟩ := ho.shape
  have H : ∀ W, W = w.alloc (.cells #[.slice a xs.length cap] 39) → Calls Try.prog 17 #[.pointer (some ⟨w.heap.size, 0, none⟩), .int .i64 (k : Int)] W fun e w' => e = .returned (.bool !(Mth.has xs k)) ∧ ∃ v', w'.heap[w.heap.size]? = some (.cells #[v'] 39 (0, 0)) ∧ Own cu 27 w' base v' (Mth.addW xs k) ∧ Grew w.heap.size (Value.slice a xs.length cap).ownBlock W w' ∧ Fresh W (Value.slice a xs.length cap).ownBlock v' := by
    intro W hW
    subst hW
    exact add_any _ w.heap.size k base _ xs hl hk hx (heap_alloc_new w _) (World.ownsRow.alloc ho _) (by simp; omega)
  go_enter Try.func8, Try.ntmps8
  go_wp2_with fail
  refine (H _ rfl).mono ?_
  rintro e w' ⟨rfl, v', hbox, hown, hkeep, hbel⟩
  clear H
  obtain ⟨a', cap', hv, _⟩ := hown.shape
  subst hv
  have hc := cell_of_one hbox
  have hgr : w.grownBy w' (Value.slice a xs.length cap).ownBlock := by
    have hsz : (w.alloc (.cells #[.slice a xs.length cap] 39)).heap.size = w.heap.size + 1 := by simp
    refine ⟨hkeep.os, hkeep.tape, hkeep.output, by have := hkeep.size; omega, fun i hi hr => ?_⟩
    rw [hkeep.block i (by omega) (by omega) hr]
    exact Below.heap_alloc w _ i hi
  have hfr : Fresh w (Value.slice a xs.length cap).ownBlock (.slice a' (Mth.addW xs k).length cap') := by
    rcases hbel with h | h
    · exact .inl h
    · refine .inr fun i hi => ?_
      have := h i hi
      simp at this; omega
  clear hkeep hbel hbox
  go_wp2
  go_ret2
  exact ⟨_, rfl, hown, hgr, hfr⟩
end Go.Proofs.Qxb6617085a
