import Derived.Test.Qxb6616692aProg
import Derived.Test.Qxb6616692aMath
import Derived.WalkKit
import Derived.WalkSpells
import Derived.WalkLawsBesides
import Derived.Deep.QuietTactic
import Derived.BigQuiet
import Derived.Deep.RegionWith
namespace Go.Proofs.Qxb6616692a
open Go.RowKit

theorem run_bits (x : Nat) (w : World) : (callFunc 32 #[.float .f64 x]).run Try.prog w = .ok (.value (.int .u64 (x : Int))) w := by
  rw [run_callFunc_extern (P := Try.prog) Try.func32 (by kernel_rfl) (by kernel_rfl) (by kernel_rfl) (show Extern.find Try.f32 = some Extern.MathFloatBits.float64bits by kernel_rfl)]
  rfl
theorem run_frombits (n : Int) (w : World) : (callFunc 33 #[.int .u64 n]).run Try.prog w = .ok (.value (.float .f64 n.toNat)) w := by
  rw [run_callFunc_extern (P := Try.prog) Try.func33 (by kernel_rfl) (by kernel_rfl) (by kernel_rfl) (show Extern.find Try.f33 = some Extern.MathFloatBits.float64frombits by kernel_rfl)]
  rfl
theorem run_store64 {a : Addr} {y : Int} {u : Value} {w : World} (hc : w.cell? a = some u) (hz : w.frozen? a = false) :
    (callFunc 31 #[.pointer (some a), .int .u64 y]).run Try.prog w = .ok (.value (.tuple #[])) (w.setCell a (.int .u64 y)) :=
  run_call_store (P := Try.prog) Try.func31 (by kernel_rfl) (by kernel_rfl) (by kernel_rfl) (by kernel_rfl) hc hz
theorem run_load64 {a : Addr} {x : Int} {w : World} (hc : w.cell? a = some (.int .u64 x)) :
    (callFunc 39 #[.pointer (some a)]).run Try.prog w = .ok (.value (.int .u64 x)) w :=
  run_call_load (P := Try.prog) Try.func39 (by kernel_rfl) (by kernel_rfl) (by kernel_rfl) .u64 (by kernel_rfl) hc

set_option maxHeartbeats 400000 in
theorem u64store_any (b o : Nat) (m : Value) (n : Int) (w : World) (hc : w.cell? ⟨b, o, none⟩ = some m) (hf : w.frozen? ⟨b, o, none⟩ = false) :
    Calls Try.prog 24 #[.pointer (some ⟨b, o, none⟩), .int .u64 n] w fun e w' => e = .returned (.tuple #[]) ∧ w' = w.setCell ⟨b, o, none⟩ (.int .u64 n) := by
  have hs := run_store64 (y := n) hc hf
  go_enter Try.func24, Try.ntmps24
  go_wp2
  go_end0
  exact ⟨rfl, rfl⟩
set_option maxHeartbeats 400000 in
theorem u64load_any (b o : Nat) (n : Int) (w : World) (hc : w.cell? ⟨b, o, none⟩ = some (.int .u64 n)) :
    Calls Try.prog 34 #[.pointer (some ⟨b, o, none⟩)] w fun e w' => e = .returned (.int .u64 n) ∧ w' = w := by
  have hs := run_load64 hc
  go_enter Try.func34, Try.ntmps34
  go_wp2
  go_ret
  exact ⟨rfl, rfl⟩
set_option maxHeartbeats 400000 in
theorem fload_any (b o n : Nat) (w : World) (hc : w.cell? ⟨b, o, none⟩ = some (.int .u64 (n : Int))) :
    Calls Try.prog 26 #[.pointer (some ⟨b, o, none⟩)] w fun e w' => e = .returned (.float .f64 n) ∧ w' = w := by
  have hq := run_frombits (n : Int)
  simp only [Int.toNat_natCast] at hq
  go_enter Try.func26, Try.ntmps26
  go_wp2_with fail
  refine (u64load_any _ _ _ _ hc).mono ?_
  rintro e w' ⟨rfl, rfl⟩
  go_wp2
  go_ret
  exact ⟨rfl, rfl⟩
set_option maxHeartbeats 400000 in
theorem fstore_any (b o : Nat) (m : Value) (x : Nat) (w : World) (hc : w.cell? ⟨b, o, none⟩ = some m) (hf : w.frozen? ⟨b, o, none⟩ = false) :
    Calls Try.prog 25 #[.pointer (some ⟨b, o, none⟩), .float .f64 x] w fun e w' => e = .returned (.tuple #[]) ∧ ∃ k, w' = (w.setCell ⟨b, o, none⟩ (.int .u64 (x : Int))).drewN k := by
  have hq := run_bits x
  go_enter Try.func25, Try.ntmps25
  go_wp2
  go_region_with (go_at_call 24; refine (u64store_any b o m (x : Int) w.drew hc hf).mono ?_; rintro e w' ⟨rfl, rfl⟩)
  all_goals
    go_wp2
    go_end0
    exact ⟨rfl, 1, rfl⟩

/-! ### zzSameFloat of one word with itself -/
set_option maxHeartbeats 400000 in
theorem same_nan (x : Nat) (w : World) (h : (FloatKind.f64.format.order x x != some Ordering.eq) = true) :
    Calls Try.prog 13 #[.float .f64 x, .float .f64 x] w fun e w' => e = .returned (.bool true) ∧ w' = w := by
  go_enter Try.func13, Try.ntmps13
  go_wp2
  go_ret
  exact ⟨rfl, rfl⟩
set_option maxHeartbeats 400000 in
theorem same_some (x : Nat) (w : World) (h : (FloatKind.f64.format.order x x != some Ordering.eq) = false) (h0 : (FloatKind.f64.format.order x 0 == some Ordering.eq) = false) :
    Calls Try.prog 13 #[.float .f64 x, .float .f64 x] w fun e w' => e = .returned (.bool true) ∧ w' = w := by
  go_enter Try.func13, Try.ntmps13
  go_wp2
  go_ret
  exact ⟨rfl, rfl⟩
set_option maxHeartbeats 400000 in
theorem same_zero (x r : Nat) (w : World) (h : (FloatKind.f64.format.order x x != some Ordering.eq) = false) (h0 : (FloatKind.f64.format.order x 0 == some Ordering.eq) = true)
    (hr : floatBits .quo .f64 4607182418800017408 x = some r) (hrr : (FloatKind.f64.format.order r r == some Ordering.eq) = true) :
    Calls Try.prog 13 #[.float .f64 x, .float .f64 x] w fun e w' => e = .returned (.bool true) ∧ w' = w := by
  have hq : ∀ W, (binOp .quo 23 (.float .f64 4607182418800017408) (.float .f64 x)).run Try.prog W = .ok (.float .f64 r) W := fun W => run_float_arith W .quo 23 .f64 _ _ _ hr
  clear hr
  go_enter Try.func13, Try.ntmps13
  go_wp2
  go_ret
  exact ⟨rfl, rfl⟩
/-- zzSameFloat says yes of a word and itself: a NaN, a zero, any other -/
theorem same_any (x : Nat) (w : World) : Calls Try.prog 13 #[.float .f64 x, .float .f64 x] w fun e w' => e = .returned (.bool true) ∧ w' = w := by
  cases h : (FloatKind.f64.format.order x x != some Ordering.eq) with
  | true => exact same_nan x w h
  | false =>
    cases h0 : (FloatKind.f64.format.order x 0 == some Ordering.eq) with
    | false => exact same_some x w h h0
    | true =>
      obtain ⟨r, hr, hrr⟩ := Fm.div_zero (x := x) (beq_iff_eq.1 h0)
      exact same_zero x r w h h0 hr (beq_iff_eq.2 hrr)

/-- a word of the call's own: what it holds; it may be written; of old memory nothing has turned -/
structure Box (B : Nat) (w : World) (b o : Nat) (v : Value) (w' : World) : Prop where
  cell : w'.cell? ⟨b, o, none⟩ = some v
  free : w'.frozen? ⟨b, o, none⟩ = false
  below : Below B w w'

theorem Box.put {B : Nat} {w w' : World} {b o : Nat} {v : Value} (h : Box B w b o v w') (hB : B ≤ b) (u : Value) (k : Nat) : Box B w b o u ((w'.setCell ⟨b, o, none⟩ u).drewN k) := by
  refine ⟨?_, ?_, ?_⟩
  · show (w'.setCell ⟨b, o, none⟩ u).cell? ⟨b, o, none⟩ = some u
    exact World.cell?_setCell_same' w' _ u (by rw [h.cell]; rfl)
  · show (w'.setCell ⟨b, o, none⟩ u).frozen? ⟨b, o, none⟩ = false
    rw [World.frozen?_setCell]
    exact h.free
  · have := h.below.setCell (p := ⟨b, o, none⟩) hB u
    exact ⟨this.os, this.tape, this.output, this.size, this.block⟩
theorem Box.fresh (w : World) (n : Value) (t : TypeId) : Box w.heap.size w w.heap.size 0 n (w.alloc (.cells #[n] t)) :=
  ⟨by simp, by simp, (Below.refl _ _).alloc (Nat.le_refl _) _⟩

set_option maxHeartbeats 400000 in
theorem newFloat_any (n : Int) (w : World) :
    Calls Try.prog 10 #[.int .u64 n] w fun e w' => e = .returned (.pointer (some ⟨w.heap.size, 0, none⟩)) ∧ Box w.heap.size w w.heap.size 0 (.int .u64 n) w' := by
  have hb := Box.fresh w (.int .u64 0) 57
  have H := u64store_any w.heap.size 0 _ n _ hb.cell hb.free
  have hb1 := Box.fresh w (.int .u64 n) 57
  clear hb
  go_enter Try.func10, Try.ntmps10
  go_wp2_with fail
  refine H.mono ?_
  rintro e w' ⟨rfl, rfl⟩
  clear H
  go_wp2
  go_ret
  exact ⟨rfl, hb1⟩
set_option maxHeartbeats 400000 in
theorem zstore_any (B b o x : Nat) (m : Value) (w w' : World) (h : Box B w b o m w') (hB : B ≤ b) :
    Calls Try.prog 11 #[.pointer (some ⟨b, o, none⟩), .float .f64 x] w' fun e w'' => e = .returned (.tuple #[]) ∧ Box B w b o (.int .u64 (x : Int)) w'' := by
  have H := fstore_any b o m x w' h.cell h.free
  have hp := h.put hB (.int .u64 (x : Int))
  clear h
  go_enter Try.func11, Try.ntmps11
  go_wp2_with fail
  refine H.mono ?_
  rintro e w1 ⟨rfl, k, rfl⟩
  have hk := hp k
  clear H hp
  go_wp2
  go_end0
  exact ⟨rfl, hk⟩
set_option maxHeartbeats 400000 in
theorem zload_any (B b o x : Nat) (w w' : World) (h : Box B w b o (.int .u64 (x : Int)) w') :
    Calls Try.prog 12 #[.pointer (some ⟨b, o, none⟩)] w' fun e w'' => e = .returned (.float .f64 x) ∧ w'' = w' := by
  have H := fload_any b o x w' h.cell
  clear h
  go_enter Try.func12, Try.ntmps12
  go_wp2_with fail
  refine H.mono ?_
  rintro e w1 ⟨rfl, rfl⟩
  go_wp2
  go_ret
  exact ⟨rfl, rfl⟩

/-! ### FnAtomicFloatStoreThenLoad -/
set_option maxHeartbeats 400000 in
theorem store_then_load (n : Int) (x : Nat) (w : World) :
    Calls Try.prog 3 #[.int .u64 n, .float .f64 x] w fun e w' => e = .returned (.bool true) ∧ Below w.heap.size w w' := by
  go_enter Try.func3, Try.ntmps3
  go_wp2_with fail
  refine (newFloat_any n w).mono ?_
  rintro e w1 ⟨rfl, hb1⟩
  go_wp2_with fail
  refine (zstore_any w.heap.size w.heap.size 0 x _ w w1 hb1 (Nat.le_refl _)).mono ?_
  rintro e w2 ⟨rfl, hb2⟩
  clear hb1
  go_wp2_with fail
  refine (zload_any w.heap.size w.heap.size 0 x w w2 hb2).mono ?_
  rintro e w3 ⟨rfl, rfl⟩
  go_wp2_with fail
  refine (same_any x w3).mono ?_
  rintro e w4 ⟨rfl, rfl⟩
  go_wp2
  go_ret
  exact ⟨rfl, hb2.below⟩
/-! ### FnAtomicFloatLastStoreWins -/
set_option maxHeartbeats 400000 in
theorem last_store_wins (n : Int) (x y : Nat) (w : World) :
    Calls Try.prog 4 #[.int .u64 n, .float .f64 x, .float .f64 y] w fun e w' => e = .returned (.bool true) ∧ Below w.heap.size w w' := by
  go_enter Try.func4, Try.ntmps4
  go_wp2_with fail
  refine (newFloat_any n w).mono ?_
  rintro e w1 ⟨rfl, hb1⟩
  go_wp2_with fail
  refine (zstore_any w.heap.size w.heap.size 0 x _ w w1 hb1 (Nat.le_refl _)).mono ?_
  rintro e w2 ⟨rfl, hb2⟩
  clear hb1
  go_wp2_with fail
  refine (zload_any w.heap.size w.heap.size 0 x w w2 hb2).mono ?_
  rintro e w3 ⟨rfl, rfl⟩
  go_wp2_with fail
  refine (zstore_any w.heap.size w.heap.size 0 y _ w w3 hb2 (Nat.le_refl _)).mono ?_
  rintro e w4 ⟨rfl, hb4⟩
  clear hb2
  go_wp2_with fail
  refine (zload_any w.heap.size w.heap.size 0 y w w4 hb4).mono ?_
  rintro e w5 ⟨rfl, rfl⟩
  go_wp2_with fail
  refine (zstore_any w.heap.size w.heap.size 0 x _ w w5 hb4 (Nat.le_refl _)).mono ?_
  rintro e w6 ⟨rfl, hb6⟩
  clear hb4
  go_wp2_with fail
  refine (zload_any w.heap.size w.heap.size 0 x w w6 hb6).mono ?_
  rintro e w7 ⟨rfl, rfl⟩
  go_wp2_with fail
  refine (same_any x w7).mono ?_
  rintro e w8 ⟨rfl, rfl⟩
  go_wp2_with fail
  refine (same_any y w8).mono ?_
  rintro e w9 ⟨rfl, rfl⟩
  go_wp2_with fail
  refine (same_any x w9).mono ?_
  rintro e w10 ⟨rfl, rfl⟩
  go_wp2
  go_ret
  exact ⟨rfl, hb6.below⟩
end Go.Proofs.Qxb6616692a
