import Derived.Test.Qxb6616692aWalkB
namespace Go.Proofs.Qxb6616692a
open Go.RowKit
set_option maxRecDepth 100000

set_option maxHeartbeats 400000 in
theorem law_nan1 (n1 n2 : Int) (x y : Nat) (w : World) (h : (FloatKind.f64.format.order x x != some Ordering.eq) = true) :
    Calls Try.prog 5 #[.int .u64 n1, .int .u64 n2, .float .f64 x, .float .f64 y] w fun e w' => e = .returned (.bool true) ∧ Below w.heap.size w w' := by
  go_enter Try.func5, Try.ntmps5
  go_wp2
  go_ret
  exact ⟨rfl, Below.refl _ _⟩
set_option maxHeartbeats 400000 in
theorem law_nan2 (n1 n2 : Int) (x y : Nat) (w : World) (h : (FloatKind.f64.format.order x x != some Ordering.eq) = false) (h2 : (FloatKind.f64.format.order y y != some Ordering.eq) = true) :
    Calls Try.prog 5 #[.int .u64 n1, .int .u64 n2, .float .f64 x, .float .f64 y] w fun e w' => e = .returned (.bool true) ∧ Below w.heap.size w w' := by
  go_enter Try.func5, Try.ntmps5
  go_wp2
  go_ret
  exact ⟨rfl, Below.refl _ _⟩
/-- a store into another block leaves a box as it is -/
theorem Box.other {B : Nat} {w w' : World} {b o : Nat} {v : Value} (h : Box B w b o v w') {b' o' : Nat} (hne : b ≠ b') (hB : B ≤ b') (u : Value) (k : Nat) : Box B w b o v ((w'.setCell ⟨b', o', none⟩ u).drewN k) := by
  refine ⟨?_, ?_, ?_⟩
  · show (w'.setCell ⟨b', o', none⟩ u).cell? ⟨b, o, none⟩ = some v
    rw [World.cell?_setCell_other]
    · exact h.cell
    · intro e; exact hne (congrArg Addr.block e).symm
  · show (w'.setCell ⟨b', o', none⟩ u).frozen? ⟨b, o, none⟩ = false
    rw [World.frozen?_setCell]
    exact h.free
  · have := h.below.setCell (p := ⟨b', o', none⟩) hB u
    exact ⟨this.os, this.tape, this.output, this.size, this.block⟩

set_option maxHeartbeats 2000000 in
theorem law_core (n1 n2 : Int) (x y v1 v2 : Nat) (w : World) (h : (FloatKind.f64.format.order x x != some Ordering.eq) = false) (h2 : (FloatKind.f64.format.order y y != some Ordering.eq) = false)
    (hx : Fm.num x) (hy : Fm.num y) (HV1 : Hid (Fm.clamp x = v1)) (HV2 : Hid (Fm.clamp y = v2)) (c12 c21 e1 e2 : Bool)
    (P1 : Hid ((FloatKind.f64.format.order v1 4587366580439587226 == some Ordering.gt || FloatKind.f64.format.order v1 4587366580439587226 == some Ordering.eq) = true))
    (P2 : Hid ((FloatKind.f64.format.order v1 4666723172467343360 == some Ordering.lt || FloatKind.f64.format.order v1 4666723172467343360 == some Ordering.eq) = true))
    (P3 : Hid ((FloatKind.f64.format.order v2 4587366580439587226 == some Ordering.gt || FloatKind.f64.format.order v2 4587366580439587226 == some Ordering.eq) = true))
    (P4 : Hid ((FloatKind.f64.format.order v2 4666723172467343360 == some Ordering.lt || FloatKind.f64.format.order v2 4666723172467343360 == some Ordering.eq) = true))
    (Q12 : Hid ((FloatKind.f64.format.order x y == some Ordering.lt || FloatKind.f64.format.order x y == some Ordering.eq) = c12))
    (Q21 : Hid ((FloatKind.f64.format.order y x == some Ordering.lt || FloatKind.f64.format.order y x == some Ordering.eq) = c21))
    (R12 : Hid (c12 = true → (FloatKind.f64.format.order v1 v2 == some Ordering.lt || FloatKind.f64.format.order v1 v2 == some Ordering.eq) = true))
    (R21 : Hid (c21 = true → (FloatKind.f64.format.order v2 v1 == some Ordering.lt || FloatKind.f64.format.order v2 v1 == some Ordering.eq) = true))
    (S1 : Hid ((FloatKind.f64.format.order x 4587366580439587226 == some Ordering.gt || FloatKind.f64.format.order x 4587366580439587226 == some Ordering.eq) = e1))
    (S2 : Hid ((FloatKind.f64.format.order x 4666723172467343360 == some Ordering.lt || FloatKind.f64.format.order x 4666723172467343360 == some Ordering.eq) = e2))
    (T : Hid (e1 = true → e2 = true → (FloatKind.f64.format.order v1 x != some Ordering.eq) = false)) :
    Calls Try.prog 5 #[.int .u64 n1, .int .u64 n2, .float .f64 x, .float .f64 y] w fun e w' => e = .returned (.bool true) ∧ Below w.heap.size w w' := by
  go_enter Try.func5, Try.ntmps5
  go_wp2_with fail
  refine (newAdaptive_any n1 w).mono ?_
  rintro e w1 ⟨rfl, hb1, hs1⟩
  go_wp2_with fail
  refine (newAdaptive_any n2 w1).mono ?_
  rintro e w2 ⟨rfl, hb2, hs2⟩
  have ha : Box w.heap.size w w.heap.size 2 (.int .u64 n1) w2 := ⟨(hb2.below.cell (p := ⟨w.heap.size, 2, none⟩) hs1).trans hb1.cell, (hb2.below.frozen (p := ⟨w.heap.size, 2, none⟩) hs1).trans hb1.free, hb1.below.trans (hb2.below.mono (by omega))⟩
  have hb : Box w.heap.size w w1.heap.size 2 (.int .u64 n2) w2 := ⟨hb2.cell, hb2.free, hb1.below.trans (hb2.below.mono (by omega))⟩
  have hle : w.heap.size ≤ w1.heap.size := by omega
  have hne : w1.heap.size ≠ w.heap.size := by omega
  clear hb1 hb2 hs1 hs2
  generalize hB1 : w1.heap.size = B1 at hb hle hne ⊢
  clear hB1
  have H3 := zstoreLimit_any w.heap.size x _ w2 ha.cell ha.free hx
  rw [HV1.out] at H3
  go_wp2_with fail
  refine H3.mono ?_
  rintro e w3 ⟨rfl, k3, hw3⟩
  have ha3 : Box w.heap.size w w.heap.size 2 (.int .u64 (v1 : Int)) w3 := by rw [hw3]; exact ha.put (Nat.le_refl _) _ _
  have hb3 : Box w.heap.size w B1 2 (.int .u64 n2) w3 := by rw [hw3]; exact hb.other hne (Nat.le_refl _) _ _
  clear H3 hw3 ha hb
  go_wp2_with fail
  refine (zloadLimit_any w.heap.size v1 w3 ha3.cell).mono ?_
  rintro e w4 ⟨rfl, rfl⟩
  clear ha3
  have H5 := zstoreLimit_any B1 y _ w4 hb3.cell hb3.free hy
  rw [HV2.out] at H5
  go_wp2_with fail
  refine H5.mono ?_
  rintro e w5 ⟨rfl, k5, hw5⟩
  have hb5 : Box w.heap.size w B1 2 (.int .u64 (v2 : Int)) w5 := by rw [hw5]; exact hb3.put hle _ _
  clear H5 hw5 hb3
  go_wp2_with fail
  refine (zloadLimit_any B1 v2 w5 hb5.cell).mono ?_
  rintro e w6 ⟨rfl, rfl⟩
  have H7 := zstoreLimit_any B1 x _ w6 hb5.cell hb5.free hx
  rw [HV1.out] at H7
  go_wp2_with fail
  refine H7.mono ?_
  rintro e w7 ⟨rfl, k7, hw7⟩
  have hb7 : Box w.heap.size w B1 2 (.int .u64 (v1 : Int)) w7 := by rw [hw7]; exact hb5.put hle _ _
  clear H7 hw7 hb5
  go_wp2_with fail
  refine (zloadLimit_any B1 v1 w7 hb7.cell).mono ?_
  rintro e w8 ⟨rfl, rfl⟩
  have hbel := hb7.below
  clear hb7 HV1 HV2 hx hy hne hle
  have p1 := P1.out
  have p2 := P2.out
  have p3 := P3.out
  have p4 := P4.out
  cases c12 <;> cases c21 <;> cases e1 <;> cases e2
  all_goals
    have q12 := Q12.out
    have q21 := Q21.out
    have s1 := S1.out
    have s2 := S2.out
    have r12 := R12.out
    have r21 := R21.out
    have t := T.out
    simp only [Bool.false_eq_true, false_implies, forall_const, implies_true] at r12 r21 t
    clear P1 P2 P3 P4 Q12 Q21 R12 R21 S1 S2 T
    go_wp2_with fail
    refine (same_any v1 w8).mono ?_
    rintro e w9 ⟨rfl, rfl⟩
    go_wp2
    go_ret
    exact ⟨rfl, hbel⟩

/-- FnAdaptiveStoreLimitMonotoneForgetsPrior answers true, whatever the two words and the two floats -/
theorem adaptive_law (n1 n2 : Int) (x y : Nat) (w : World) :
    Calls Try.prog 5 #[.int .u64 n1, .int .u64 n2, .float .f64 x, .float .f64 y] w fun e w' => e = .returned (.bool true) ∧ Below w.heap.size w w' := by
  cases h : (FloatKind.f64.format.order x x != some Ordering.eq) with
  | true => exact law_nan1 n1 n2 x y w h
  | false =>
    cases h2 : (FloatKind.f64.format.order y y != some Ordering.eq) with
    | true => exact law_nan2 n1 n2 x y w h h2
    | false =>
      have hx : Fm.num x := Fm.num_of (bne_eq_false_iff_eq.1 h)
      have hy : Fm.num y := Fm.num_of (bne_eq_false_iff_eq.1 h2)
      have n1' := Fm.clamp_num hx
      have n2' := Fm.clamp_num hy
      have k1 := Fm.clamp_K x
      have k2 := Fm.clamp_K y
      have kl := Fm.lo_hi
      refine law_core n1 n2 x y (Fm.clamp x) (Fm.clamp y) w h h2 hx hy rfl rfl (decide (Fm.K x ≤ Fm.K y)) (decide (Fm.K y ≤ Fm.K x)) (decide (Fm.K Fm.lo ≤ Fm.K x)) (decide (Fm.K x ≤ Fm.K Fm.hi)) ?_ ?_ ?_ ?_ (Fm.leB hx hy) (Fm.leB hy hx) ?_ ?_ (Fm.geB hx Fm.num_lo) (Fm.leB hx Fm.num_hi) ?_
      · exact (Fm.geB n1' Fm.num_lo).trans (decide_eq_true (by omega))
      · exact (Fm.leB n1' Fm.num_hi).trans (decide_eq_true (by omega))
      · exact (Fm.geB n2' Fm.num_lo).trans (decide_eq_true (by omega))
      · exact (Fm.leB n2' Fm.num_hi).trans (decide_eq_true (by omega))
      · intro hc
        have := of_decide_eq_true hc
        exact (Fm.leB n1' n2').trans (decide_eq_true (by omega))
      · intro hc
        have := of_decide_eq_true hc
        exact (Fm.leB n2' n1').trans (decide_eq_true (by omega))
      · intro hc1 hc2
        have g1 := of_decide_eq_true hc1
        have g2 := of_decide_eq_true hc2
        exact (Fm.neB n1' hx).trans (decide_eq_false (by omega))
end Go.Proofs.Qxb6616692a
