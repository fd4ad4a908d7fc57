import Derived.Test.Qxb6616692aWalkA
namespace Go.Proofs.Qxb6616692a
open Go.RowKit
set_option maxRecDepth 100000

theorem build91 : ∃ Z : Array Value, (∀ w, (Instr.build 91 #[]).run Try.prog w = .ok (.agg Z) w) ∧ Z[2]? = some (.int .u64 0) :=
  ⟨(match (Try.prog.info? 91).bind (fun i => i.zero) with | some (.agg a) => a | _ => #[]), fun w => by kernel_rfl, by kernel_rfl⟩
theorem wpList_build {P : Program} {w : World} {ops : Array Oper} {rest : List Oper} {o : Oper} {a : Act} {Q : Exit → Act → World → Prop} (hg : o.guard = none) (t : TypeId) (hop : o.op = Op.build t #[]) (v : Value)
    (hrun : (Instr.build t #[]).run P w = .ok v w) (hK : wpList P ops Q rest (a.put o.dst v) w) : wpList P ops Q (o :: rest) a w := by
  refine wpList_plain hg fun K hK' => ?_
  unfold Oper.wp
  simp only [execOp, hop]
  simp [hrun, Result.andThen]
  exact hK' _ _ hK

theorem Box.cells (w : World) (Z : Array Value) (t : TypeId) (o : Nat) (v : Value) (h : Z[o]? = some v) : Box w.heap.size w w.heap.size o v (w.alloc (.cells Z t)) := by
  refine ⟨?_, ?_, (Below.refl _ _).alloc (Nat.le_refl _) _⟩
  · unfold World.cell?
    have e : (w.alloc (.cells Z t)).heap[w.heap.size]? = some (.cells Z t (0, 0)) := heap_alloc_new w _
    simp only [e]
    simpa using h
  · unfold World.frozen?
    have e : (w.alloc (.cells Z t)).heap[w.heap.size]? = some (.cells Z t (0, 0)) := heap_alloc_new w _
    simp only [e]
    simp

set_option maxHeartbeats 400000 in
theorem newAdaptive_any (n : Int) (w : World) :
    Calls Try.prog 14 #[.int .u64 n] w fun e w' => e = .returned (.pointer (some ⟨w.heap.size, 0, none⟩)) ∧ Box w.heap.size w w.heap.size 2 (.int .u64 n) w' ∧ w.heap.size < w'.heap.size := by
  obtain ⟨Z, hZ, hc⟩ := build91
  have hb := Box.cells w Z 91 2 _ hc
  have hsz : w.heap.size < (w.alloc (.cells Z 91)).heap.size := by simp
  have H : Calls Try.prog 24 #[.pointer (some ⟨w.heap.size, 2, none⟩), .int .u64 n] (w.alloc (.cells Z 91)) fun e w' => e = .returned (.tuple #[]) ∧ Box w.heap.size w w.heap.size 2 (.int .u64 n) w' ∧ w.heap.size < w'.heap.size :=
    (u64store_any w.heap.size 2 _ n _ hb.cell hb.free).mono (fun e w' h => ⟨h.1, by rw [h.2]; exact hb.put (Nat.le_refl _) _ 0, by rw [h.2]; simp [World.setCell]⟩)
  clear hb hc hsz
  go_enter Try.func14, Try.ntmps14
  go_wp2_with (refine wpList_build rfl 91 rfl (.agg Z) (hZ _) ?_)
  refine H.mono ?_
  rintro e w1 ⟨rfl, hb1⟩
  clear H hZ
  go_wp2
  go_ret
  exact ⟨rfl, hb1⟩

/-! ### max, min of two floats that are no NaN -/
theorem run_max {P : Program} (w : World) (ts : Array TypeId) (t : TypeId) {x y : Nat} (hx : Fm.num x) (hy : Fm.num y) : (Builtin.max_ ts t #[.float .f64 x, .float .f64 y]).run P w = .ok (.float .f64 (Fm.maxW x y)) w := by
  have ho : FloatKind.f64.format.order x y = some (compare (Fm.K x) (Fm.K y)) := Fm.ord hx hy
  have hd : FloatKind.f64.decode x = Ieee.double.read x := rfl
  unfold Fm.maxW
  rcases Int.lt_trichotomy (Fm.K x) (Fm.K y) with h | h | h
  · rw [Fm.cmp_lt h] at ho; rw [if_pos h]; simp [Builtin.max_, Builtin.max2, ho]
  · rw [Fm.cmp_eq h] at ho; rw [if_neg (by omega), if_pos h]; simp [Builtin.max_, Builtin.max2, ho, hd]
  · rw [Fm.cmp_gt h] at ho; rw [if_neg (by omega), if_neg (by omega)]; simp [Builtin.max_, Builtin.max2, ho]
theorem run_min {P : Program} (w : World) (ts : Array TypeId) (t : TypeId) {x y : Nat} (hx : Fm.num x) (hy : Fm.num y) : (Builtin.min_ ts t #[.float .f64 x, .float .f64 y]).run P w = .ok (.float .f64 (Fm.minW x y)) w := by
  have ho : FloatKind.f64.format.order x y = some (compare (Fm.K x) (Fm.K y)) := Fm.ord hx hy
  have hd : FloatKind.f64.decode x = Ieee.double.read x := rfl
  unfold Fm.minW
  rcases Int.lt_trichotomy (Fm.K x) (Fm.K y) with h | h | h
  · rw [Fm.cmp_lt h] at ho; rw [if_pos h]; simp [Builtin.min_, Builtin.min2, ho]
  · rw [Fm.cmp_eq h] at ho; rw [if_neg (by omega), if_pos h]; simp [Builtin.min_, Builtin.min2, ho, hd]
  · rw [Fm.cmp_gt h] at ho; rw [if_neg (by omega), if_neg (by omega)]; simp [Builtin.min_, Builtin.min2, ho]

set_option maxHeartbeats 400000 in
theorem storeLimit_any (b x m1 m2 : Nat) (m : Value) (w : World) (hc : w.cell? ⟨b, 2, none⟩ = some m) (hf : w.frozen? ⟨b, 2, none⟩ = false)
    (hmax : ∀ W ts t, (Builtin.max_ ts t #[.float .f64 x, .float .f64 4587366580439587226]).run Try.prog W = .ok (.float .f64 m1) W)
    (hmin : ∀ W ts t, (Builtin.min_ ts t #[.float .f64 m1, .float .f64 4666723172467343360]).run Try.prog W = .ok (.float .f64 m2) W) :
    Calls Try.prog 27 #[.pointer (some ⟨b, 0, none⟩), .float .f64 x] w fun e w' => e = .returned (.tuple #[]) ∧ ∃ k, w' = (w.setCell ⟨b, 2, none⟩ (.int .u64 (m2 : Int))).drewN k := by
  have H := fstore_any b 2 m m2 w hc hf
  clear hc hf
  go_enter Try.func27, Try.ntmps27
  go_wp2_with fail
  refine H.mono ?_
  rintro e w1 ⟨rfl, k, hk⟩
  have HK : Hid (w1 = (w.setCell ⟨b, 2, none⟩ (.int .u64 (m2 : Int))).drewN k) := hk
  clear H hmax hmin hk
  go_wp2
  go_end0
  exact ⟨rfl, k, HK.out⟩
set_option maxHeartbeats 400000 in
theorem zstoreLimit_any (b x : Nat) (m : Value) (w : World) (hc : w.cell? ⟨b, 2, none⟩ = some m) (hf : w.frozen? ⟨b, 2, none⟩ = false) (hx : Fm.num x) :
    Calls Try.prog 15 #[.pointer (some ⟨b, 0, none⟩), .float .f64 x] w fun e w' => e = .returned (.tuple #[]) ∧ ∃ k, w' = (w.setCell ⟨b, 2, none⟩ (.int .u64 (Fm.clamp x : Int))).drewN k := by
  have hm1 : Fm.num (Fm.maxW x Fm.lo) := by
    rcases Fm.maxW_or x Fm.lo with g | g
    · rw [g]; exact hx
    · rw [g]; exact Fm.num_lo
  have H := storeLimit_any b x (Fm.maxW x Fm.lo) (Fm.clamp x) m w hc hf (fun W ts t => run_max W ts t hx Fm.num_lo) (fun W ts t => run_min W ts t hm1 Fm.num_hi)
  clear hc hf hm1
  generalize Fm.clamp x = v at H ⊢
  go_enter Try.func15, Try.ntmps15
  go_wp2_with fail
  refine H.mono ?_
  rintro e w1 ⟨rfl, k, hk⟩
  have HK : Hid (w1 = (w.setCell ⟨b, 2, none⟩ (.int .u64 (v : Int))).drewN k) := hk
  clear H hk
  go_wp2
  go_end0
  exact ⟨rfl, k, HK.out⟩
set_option maxHeartbeats 400000 in
theorem loadLimit_any (b x : Nat) (w : World) (hc : w.cell? ⟨b, 2, none⟩ = some (.int .u64 (x : Int))) :
    Calls Try.prog 28 #[.pointer (some ⟨b, 0, none⟩)] w fun e w' => e = .returned (.float .f64 x) ∧ w' = w := by
  have H := fload_any b 2 x w hc
  clear hc
  go_enter Try.func28, Try.ntmps28
  go_wp2_with fail
  refine H.mono ?_
  rintro e w1 ⟨rfl, rfl⟩
  go_wp2
  go_ret
  exact ⟨rfl, rfl⟩
set_option maxHeartbeats 400000 in
theorem zloadLimit_any (b x : Nat) (w : World) (hc : w.cell? ⟨b, 2, none⟩ = some (.int .u64 (x : Int))) :
    Calls Try.prog 16 #[.pointer (some ⟨b, 0, none⟩)] w fun e w' => e = .returned (.float .f64 x) ∧ w' = w := by
  have H := loadLimit_any b x w hc
  clear hc
  go_enter Try.func16, Try.ntmps16
  go_wp2_with fail
  refine H.mono ?_
  rintro e w1 ⟨rfl, rfl⟩
  go_wp2
  go_ret
  exact ⟨rfl, rfl⟩
end Go.Proofs.Qxb6616692a
