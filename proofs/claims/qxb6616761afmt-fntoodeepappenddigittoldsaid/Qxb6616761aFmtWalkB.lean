import Derived.Test.Qxb6616761aFmtWalkA
import Derived.Test.Qxb6616761aFmtMath
import Derived.Laws.BytesArg
namespace Go.Proofs.Qxb6616761aFmt
open Go.RowKit

/-- the buffer's row: 20 bytes of the call's own -/
def Buf (B : Nat) (w : World) (ys : List Int) : Prop := w.ownsRow B 29 1 (.slice (some ⟨B, 0, none⟩) 20 20) 20 (ys.map (Value.int .u8))
/-- the bytes from i on -/
def tailB (ys : List Int) (i : Nat) : List UInt8 := (ys.drop i).map fun z => UInt8.ofNat z.toNat
theorem Buf.start (w : World) : Buf w.heap.size (w.alloc (.cells #[.int .u8 0, .int .u8 0, .int .u8 0, .int .u8 0, .int .u8 0, .int .u8 0, .int .u8 0, .int .u8 0, .int .u8 0, .int .u8 0, .int .u8 0, .int .u8 0, .int .u8 0, .int .u8 0, .int .u8 0, .int .u8 0, .int .u8 0, .int .u8 0, .int .u8 0, .int .u8 0] 29)) (List.replicate 20 0) :=
  World.ownsRow_lit w _ 20 (Nat.le_refl _) (by unfold maxLen; omega) rfl
theorem Buf.len {B : Nat} {w : World} {ys : List Int} (h : Buf B w ys) : ys.length = 20 := by have := h.1; simpa using this
theorem Buf.cell {B : Nat} {w : World} {ys : List Int} (h : Buf B w ys) {j : Nat} (hj : j < 20) : w.cell? ⟨B, j, none⟩ = some (.int .u8 (ys.getD j 0)) := by
  have hl := h.len
  rw [World.ownsRow.cellAt h j (by omega), List.getElem?_map, List.getD, List.getElem?_eq_getElem (by omega)]; rfl
theorem Buf.put {B : Nat} {w : World} {ys : List Int} (h : Buf B w ys) (j : Nat) (z : Int) : Buf B (w.setCell ⟨B, j, none⟩ (.int .u8 z)) (ys.set j z) := by
  have := (World.ownsRow.stored h j (.int .u8 z)).1
  unfold Buf
  rw [List.map_set]
  exact this
theorem tail_put {ys : List Int} {j : Nat} (hj : j < ys.length) (z : Int) : tailB (ys.set j z) j = UInt8.ofNat z.toNat :: tailB ys (j + 1) := by
  unfold tailB
  rw [List.drop_eq_getElem_cons (by simpa using hj), List.map_cons, List.getElem_set_self, List.drop_set_of_lt (Nat.lt_succ_self j)]
theorem pow20 (n : Nat) (h : n ≤ 9223372036854775808) : n < 10 ^ 20 := Nat.lt_of_le_of_lt h (by decide)
theorem pow_pred {m j : Nat} (h : m < 10 ^ (j + 1)) : m / 10 < 10 ^ j := by rw [Nat.pow_succ] at h; omega
theorem pow_zero {m : Nat} (h : m < 10 ^ 0) : m = 0 := by simpa using h

theorem alen29 : Tryf.prog.arrayLen 29 = 20 := by kernel_rfl
theorem elem29 : Tryf.prog.elem 29 = 5 := by kernel_rfl
theorem size5 (w : World) : (sizeOf 5).run Tryf.prog w = .ok 1 w := by kernel_rfl
/-- 'buf[k:]' of the array of twenty -/
theorem slice20 (w : World) (B k : Nat) (hk : k < 20) : (Instr.sliceAt 29 (.pointer (some ⟨B, 0, none⟩)) (some (.int .i64 (k : Int))) none none).run Tryf.prog w = .ok (.slice (some ⟨B, k, none⟩) (20 - k) (20 - k)) w := by
  rw [run_sliceAt_array_l (P := Tryf.prog) w 29 ⟨B, 0, none⟩ (by kernel_rfl) .i64 (k : Int) (by omega) (by rw [alen29]; omega), alen29, elem29, size5]
  have hne : ¬ 20 = k := by omega
  simp only [Result.andThen, slicedAt, Int.toNat_natCast, Nat.mul_one, if_neg hne]
  have : (⟨B, 0, none⟩ : Addr).add k = ⟨B, k, none⟩ := by unfold Addr.add; split <;> simp_all
  rw [this]
theorem num_i64 {a b : Int} (h : a = b) : Value.int .i64 a = .int .i64 b := by rw [h]
theorem num_u64 {a b : Int} (h : a = b) : Value.int .u64 a = .int .u64 b := by rw [h]

set_option maxHeartbeats 1000000 in
theorem dec_pos (n : Nat) (w : World) (h0 : 0 < n) (h1 : n ≤ 9223372036854775807) :
    Calls Tryf.prog 6 #[.int .i64 (n : Int)] w fun e w' => ∃ s : ByteArray, e = .returned (.string s) ∧ s.data.toList = Lib.itoa (n : Int) ∧ s.size ≤ 21 ∧ Below w.heap.size w w' := by
  have hne : ((n : Int) == 0) = false := by rw [beq_eq_false_iff_ne]; omega
  have HB := Buf.start w
  have HN : Hid (n < 10 ^ 20) := pow20 n (by omega)
  go_enter Tryf.func6, Tryf.ntmps6
  go_wp2
  go_loopw [4, 6] (fun u i wr => ∃ (m k : Nat) (ys : List Int), u = .int .u64 (m : Int) ∧ i = .int .i64 (k : Int) ∧ m ≤ n ∧ k ≤ 20 ∧ Hid (m < 10 ^ k) ∧ Hid (Num.dd m ++ tailB ys k = Num.dd n) ∧ Buf w.heap.size wr ys ∧ Below w.heap.size w wr) (fun u _ _ => (intOf u).toNat)
  case atStart => exact ⟨n, 20, _, rfl, rfl, Nat.le_refl _, Nat.le_refl _, HN, by show Num.dd n ++ tailB (List.replicate 20 0) 20 = Num.dd n; simp [tailB], HB, (Below.refl _ _).alloc (Nat.le_refl _) _⟩
  case round =>
    obtain ⟨m, k, ys, rfl, rfl, hmn, hk, HP, HD, hbuf, hbel⟩ := hrel
    clear HB HN
    by_cases hm : 0 < m
    · obtain ⟨j, rfl⟩ : ∃ j, k = j + 1 := by
        cases k with
        | zero => have := pow_zero HP.out; omega
        | succ j => exact ⟨j, rfl⟩
      have hc := hbuf.cell (j := j) (by omega)
      have hf := World.ownsRow.frozenAt hbuf j
      have R := hbuf.put j (48 + (m : Int) % 10)
      have HP' : Hid (m / 10 < 10 ^ j) := pow_pred HP.out
      have HD' : Hid (Num.dd (m / 10) ++ tailB (ys.set j (48 + (m : Int) % 10)) j = Num.dd n) := by
        show _ = _
        rw [tail_put (by have := hbuf.len; omega), ← HD.out, Num.dd_step hm, show (48 + (m : Int) % 10).toNat = 48 + m % 10 by omega, List.append_assoc]; rfl
      have hb' := hbel.setCell (p := ⟨w.heap.size, j, none⟩) (Nat.le_refl _) (.int .u8 (48 + (m : Int) % 10))
      clear hbuf HP HD
      generalize ys.getD j 0 = y0 at hc
      go_wp2
      go_roundw
      case rel => exact ⟨m / 10, j, _, num_u64 (by omega), num_i64 (by omega), by omega, by omega, HP', HD', R, hb'⟩
      case measure => simp [intOf]; omega
    · obtain rfl : m = 0 := by omega
      have hD := HD.out
      rw [Num.dd_zero, List.nil_append] at hD
      have hk20 : k < 20 := by
        rcases Nat.lt_or_ge k 20 with h | h
        · exact h
        · exfalso
          have : tailB ys k = [] := by unfold tailB; rw [List.drop_of_length_le (by have := hbuf.len; omega)]; rfl
          rw [this, Num.dd_pos h0] at hD
          exact Num.dec_ne n hD.symm
      have hlen := hbuf.len
      have hcv : (convert 30 9 (.slice (some ⟨w.heap.size, k, none⟩) (20 - k) (20 - k))).run Tryf.prog wr = .ok (.string (strOfNums (ys.drop k))) wr :=
        run_convert_bytes_arg wr 30 5 Tryf.underlying30 Tryf.underlying5 w.heap.size k (20 - k) (20 - k) (ys.drop k) (by simp [hlen]) (fun i hi => by
          rw [hbuf.cell (j := k + i) (by omega)]; simp [List.getD]) 9 Tryf.underlying9
      have hsl := slice20 wr w.heap.size k hk20
      have HS : Hid ((strOfNums (ys.drop k)).data.toList = Num.dd n) := by show _ = _; rw [strOfNums_data, ← hD]; rfl
      have hsz : (strOfNums (ys.drop k)).size ≤ 20 := by rw [strOfNums_size]; simp; omega
      generalize strOfNums (ys.drop k) = s at hcv HS hsz
      clear HP HD hD hbuf hlen
      go_wp2
      go_ret
      exact ⟨s, rfl, by rw [Num.itoa_dd h0]; exact HS.out, by omega, hbel⟩
set_option maxHeartbeats 1000000 in
theorem dec_neg (n : Nat) (w : World) (h0 : 0 < n) (h1 : n ≤ 9223372036854775808) :
    Calls Tryf.prog 6 #[.int .i64 (-(n : Int))] w fun e w' => ∃ s : ByteArray, e = .returned (.string s) ∧ s.data.toList = Lib.itoa (-(n : Int)) ∧ s.size ≤ 21 ∧ Below w.heap.size w w' := by
  have hne : ((-(n : Int)) == 0) = false := by rw [beq_eq_false_iff_ne]; omega
  have HB := Buf.start w
  have HN : Hid (n < 10 ^ 20) := pow20 n (by omega)
  have hwr : IntKind.u64.wrap (-IntKind.u64.wrap (-(n : Int))) = (n : Int) := by rw [IntKind.wrap_u64, IntKind.wrap_u64]; omega
  go_enter Tryf.func6, Tryf.ntmps6
  go_wp2
  clear hwr
  go_loopw [4, 6] (fun u i wr => ∃ (m k : Nat) (ys : List Int), u = .int .u64 (m : Int) ∧ i = .int .i64 (k : Int) ∧ m ≤ n ∧ k ≤ 20 ∧ Hid (m < 10 ^ k) ∧ Hid (Num.dd m ++ tailB ys k = Num.dd n) ∧ Buf w.heap.size wr ys ∧ Below w.heap.size w wr) (fun u _ _ => (intOf u).toNat)
  case atStart => exact ⟨n, 20, _, rfl, rfl, Nat.le_refl _, Nat.le_refl _, HN, by show Num.dd n ++ tailB (List.replicate 20 0) 20 = Num.dd n; simp [tailB], HB, (Below.refl _ _).alloc (Nat.le_refl _) _⟩
  case round =>
    obtain ⟨m, k, ys, rfl, rfl, hmn, hk, HP, HD, hbuf, hbel⟩ := hrel
    clear HB HN
    by_cases hm : 0 < m
    · obtain ⟨j, rfl⟩ : ∃ j, k = j + 1 := by
        cases k with
        | zero => have := pow_zero HP.out; omega
        | succ j => exact ⟨j, rfl⟩
      have hc := hbuf.cell (j := j) (by omega)
      have hf := World.ownsRow.frozenAt hbuf j
      have R := hbuf.put j (48 + (m : Int) % 10)
      have HP' : Hid (m / 10 < 10 ^ j) := pow_pred HP.out
      have HD' : Hid (Num.dd (m / 10) ++ tailB (ys.set j (48 + (m : Int) % 10)) j = Num.dd n) := by
        show _ = _
        rw [tail_put (by have := hbuf.len; omega), ← HD.out, Num.dd_step hm, show (48 + (m : Int) % 10).toNat = 48 + m % 10 by omega, List.append_assoc]; rfl
      have hb' := hbel.setCell (p := ⟨w.heap.size, j, none⟩) (Nat.le_refl _) (.int .u8 (48 + (m : Int) % 10))
      clear hbuf HP HD
      generalize ys.getD j 0 = y0 at hc
      go_wp2
      go_roundw
      case rel => exact ⟨m / 10, j, _, num_u64 (by omega), num_i64 (by omega), by omega, by omega, HP', HD', R, hb'⟩
      case measure => simp [intOf]; omega
    · obtain rfl : m = 0 := by omega
      have hD := HD.out
      rw [Num.dd_zero, List.nil_append] at hD
      have hk20 : k < 20 := by
        rcases Nat.lt_or_ge k 20 with h | h
        · exact h
        · exfalso
          have : tailB ys k = [] := by unfold tailB; rw [List.drop_of_length_le (by have := hbuf.len; omega)]; rfl
          rw [this, Num.dd_pos h0] at hD
          exact Num.dec_ne n hD.symm
      have hlen := hbuf.len
      have hcv : (convert 30 9 (.slice (some ⟨w.heap.size, k, none⟩) (20 - k) (20 - k))).run Tryf.prog wr = .ok (.string (strOfNums (ys.drop k))) wr :=
        run_convert_bytes_arg wr 30 5 Tryf.underlying30 Tryf.underlying5 w.heap.size k (20 - k) (20 - k) (ys.drop k) (by simp [hlen]) (fun i hi => by
          rw [hbuf.cell (j := k + i) (by omega)]; simp [List.getD]) 9 Tryf.underlying9
      have hsl := slice20 wr w.heap.size k hk20
      have HS : Hid ((strOfNums (ys.drop k)).data.toList = Num.dd n) := by show _ = _; rw [strOfNums_data, ← hD]; rfl
      have hsz : (strOfNums (ys.drop k)).size ≤ 20 := by rw [strOfNums_size]; simp; omega
      generalize strOfNums (ys.drop k) = s at hcv HS hsz
      clear HP HD hD hbuf hlen
      go_wp2
      go_ret
      exact ⟨⟨#[45]⟩ ++ s, rfl, by rw [Num.itoa_neg_dd h0, ByteArray.data_append, Array.toList_append, HS.out]; rfl, by rw [ByteArray.size_append]; show 1 + s.size ≤ 21; omega, hbel⟩
set_option maxHeartbeats 400000 in
theorem dec_zero (w : World) :
    Calls Tryf.prog 6 #[.int .i64 0] w fun e w' => e = .returned (.string ⟨#[48]⟩) ∧ w' = w := by
  go_enter Tryf.func6, Tryf.ntmps6
  go_wp2
  go_ret
  exact ⟨rfl, rfl⟩
/-- decimal64 writes the numeral -/
theorem dec_any (x : Int) (w : World) (hx : -9223372036854775808 ≤ x ∧ x ≤ 9223372036854775807) :
    Calls Tryf.prog 6 #[.int .i64 x] w fun e w' => ∃ s : ByteArray, e = .returned (.string s) ∧ s.data.toList = Lib.itoa x ∧ s.size ≤ 21 ∧ Below w.heap.size w w' := by
  rcases Int.lt_trichotomy x 0 with h | h | h
  · obtain ⟨n, hn⟩ : ∃ n : Nat, x = -(n : Int) := ⟨x.natAbs, by omega⟩
    subst hn
    exact dec_neg n w (by omega) (by omega)
  · subst h
    exact (dec_zero w).mono fun e w' ⟨he, hw⟩ => ⟨_, he, by rw [show ((0 : Int)) = ((0 : Nat) : Int) from rfl, Num.itoa_nat, Num.dec_small (by decide)]; rfl, by decide, by subst hw; exact Below.refl _ _⟩
  · obtain ⟨n, rfl⟩ := Int.eq_ofNat_of_zero_le (a := x) (by omega)
    exact dec_pos n w (by omega) (by omega)
end Go.Proofs.Qxb6616761aFmt
