import Derived.Test.Qxb6616761aFmtWalkC
namespace Go.Proofs.Qxb6616761aFmt
open Go.RowKit Go.Extern.Stop Go.Stop Go.Extern

set_option maxHeartbeats 400000 in
theorem middle_core (s : ByteArray) (w : World) (h1 : 52 ≤ s.size) (h2 : s.size ≤ 73)
    (hP : ((s.extract 0 40).toList == [97, 114, 114, 97, 121, 115, 44, 32, 111, 98, 106, 101, 99, 116, 115, 32, 97, 110, 100, 32, 115, 101, 116, 115, 32, 110, 101, 115, 116, 32, 109, 111, 114, 101, 32, 116, 104, 97, 110, 32]) = true)
    (hS : ((s.extract (s.size - 12) s.size).toList == [32, 108, 101, 118, 101, 108, 115, 32, 100, 101, 101, 112]) = true) :
    Calls Tryf.prog 7 #[.string s] w fun e w' => e = .returned (.tuple #[.string (s.extract 40 (s.size - 12)), .bool true]) ∧ w' = w := by
  go_enter Tryf.func7, Tryf.ntmps7
  go_wp2
  go_ret2
  exact ⟨rfl, rfl⟩
theorem ext_list (s : ByteArray) (a b : Nat) : (s.extract a b).data.toList = (s.data.toList.drop a).take (b - a) := by
  rw [ByteArray.data_extract, Array.toList_extract, List.extract_eq_take_drop]
theorem size_list (s : ByteArray) : s.size = s.data.toList.length := by rw [Array.length_toList]; rfl
/-- middle cuts the number out of the complaint -/
theorem middle_any (s : ByteArray) (n : Int) (w : World) (hs : s.data.toList = txt n) (hl : (Lib.itoa n).length ≤ 21) :
    Calls Tryf.prog 7 #[.string s] w fun e w' => ∃ m : ByteArray, e = .returned (.tuple #[.string m, .bool true]) ∧ m.data.toList = Lib.itoa n ∧ w' = w := by
  have hp : preB.length = 40 := rfl
  have hq : sufB.length = 12 := rfl
  have hsz : s.size = 40 + ((Lib.itoa n).length + 12) := by rw [size_list, hs, txt, List.length_append, List.length_append, hp, hq]
  refine (middle_core s w (by omega) (by omega) ?_ ?_).mono ?_
  · rw [beq_iff_eq, ByteArray.toList_eq, ext_list, hs, txt, List.drop_zero, Nat.sub_zero, List.take_append_of_le_length (by omega), List.take_of_length_le (by omega)]
    rfl
  · rw [beq_iff_eq, ByteArray.toList_eq, ext_list, hs, txt, ← List.append_assoc, List.drop_append_of_le_length (by rw [List.length_append]; omega), List.drop_of_length_le (by rw [List.length_append]; omega), List.nil_append, List.take_of_length_le (by omega)]
    rfl
  · rintro e w' ⟨he, hw⟩
    refine ⟨_, he, ?_, hw⟩
    rw [ext_list, hs, txt, List.drop_append_of_le_length (by omega), List.drop_of_length_le (by omega), List.nil_append, List.take_append_of_le_length (by omega), List.take_of_length_le (by omega)]

theorem byte_at (m : ByteArray) (l : List UInt8) (h : m.data.toList = l) (j : Nat) (hj : j < m.size) (hj' : j < l.length) : m[j] = l[j] := by
  subst h
  rfl
set_option maxHeartbeats 400000 in
theorem valid_pos (m : ByteArray) (w : World) (h1 : 1 ≤ m.size) (h2 : m.size ≤ 21) (hne : ¬ m = ByteArray.empty) (h45 : (((m[0]'(by omega)).toNat : Int) == 45) = false) (h48 : (((m[0]'(by omega)).toNat : Int) == 48) = false)
    (hall : ∀ j (h : j < m.size), 48 ≤ (m[j]).toNat ∧ (m[j]).toNat ≤ 57) :
    Calls Tryf.prog 8 #[.string m] w fun e w' => e = .returned (.bool true) ∧ w' = w := by
  have HA : Hid (∀ j (h : j < m.size), 48 ≤ (m[j]).toNat ∧ (m[j]).toNat ≤ 57) := hall
  clear hall
  go_enter Tryf.func8, Tryf.ntmps8
  go_wp2
  go_loop [4] (fun i => ∃ j : Nat, j ≤ m.size ∧ i = .int .i64 j) (fun i => m.size - (intOf i).toNat)
  case atStart => exact ⟨0, Nat.zero_le _, rfl⟩
  case round =>
    obtain ⟨j, hj, rfl⟩ := hrel
    by_cases hlt : j < m.size
    · have hd := HA.out j hlt
      have hd1 : (48 : Int) ≤ ((m[j]).toNat : Int) := by omega
      have hd2 : ((m[j]).toNat : Int) ≤ 57 := by omega
      clear hd HA
      go_wp2
      go_round
      case rel => exact ⟨j + 1, by omega, num_i64 (by omega)⟩
      case measure => simp [intOf]; omega
    · go_wp2
      go_ret
      exact ⟨rfl, rfl⟩
set_option maxHeartbeats 400000 in
theorem valid_neg (m : ByteArray) (w : World) (h1 : 2 ≤ m.size) (h2 : m.size ≤ 21) (h45 : (((m[0]'(by omega)).toNat : Int) == 45) = true) (h48 : (((m[1]'(by omega)).toNat : Int) == 48) = false)
    (hall : ∀ j (h : j < m.size), 1 ≤ j → 48 ≤ (m[j]).toNat ∧ (m[j]).toNat ≤ 57) :
    Calls Tryf.prog 8 #[.string m] w fun e w' => e = .returned (.bool true) ∧ w' = w := by
  have HA : Hid (∀ j (h : j < m.size), 1 ≤ j → 48 ≤ (m[j]).toNat ∧ (m[j]).toNat ≤ 57) := hall
  clear hall
  go_enter Tryf.func8, Tryf.ntmps8
  go_wp2
  go_loop [4] (fun i => ∃ j : Nat, 1 ≤ j ∧ j ≤ m.size ∧ i = .int .i64 j) (fun i => m.size - (intOf i).toNat)
  case atStart => exact ⟨1, Nat.le_refl _, by omega, rfl⟩
  case round =>
    obtain ⟨j, hj1, hj, rfl⟩ := hrel
    by_cases hlt : j < m.size
    · have hd := HA.out j hlt hj1
      have hd1 : (48 : Int) ≤ ((m[j]).toNat : Int) := by omega
      have hd2 : ((m[j]).toNat : Int) ≤ 57 := by omega
      clear hd HA
      go_wp2
      go_round
      case rel => exact ⟨j + 1, by omega, by omega, num_i64 (by omega)⟩
      case measure => simp [intOf]; omega
    · go_wp2
      go_ret
      exact ⟨rfl, rfl⟩
/-- validDecimal says yes of a numeral that is not '0' -/
theorem valid_any (m : ByteArray) (n : Int) (w : World) (hm : m.data.toList = Lib.itoa n) (hn : n ≠ 0) (hl : (Lib.itoa n).length ≤ 21) :
    Calls Tryf.prog 8 #[.string m] w fun e w' => e = .returned (.bool true) ∧ w' = w := by
  have hsz : m.size = (Lib.itoa n).length := by rw [size_list, hm]
  rcases Int.lt_or_gt_of_ne hn with h | h
  · obtain ⟨k, hk⟩ : ∃ k : Nat, n = -(k : Int) := ⟨n.natAbs, by omega⟩
    subst hk
    have hi := Num.itoa_neg (n := k) (by omega)
    obtain ⟨b, r, e, hb1, hb2⟩ := Num.dec_first (u := k) (by omega)
    rw [hi] at hm hl hsz
    have hdig := Num.dec_digit k
    rw [e] at hm hl hsz hdig
    simp only [List.length_cons] at hsz hl
    refine valid_neg m w (by omega) (by omega) ?_ ?_ ?_
    · rw [byte_at m _ hm 0 (by omega) (by simp)]; rfl
    · rw [byte_at m _ hm 1 (by omega) (by simp), beq_eq_false_iff_ne]; simp only [List.getElem_cons_succ, List.getElem_cons_zero]; omega
    · intro j hj hj1
      obtain ⟨i, rfl⟩ : ∃ i, j = i + 1 := ⟨j - 1, by omega⟩
      rw [byte_at m _ hm (i + 1) hj (by simp only [List.length_cons]; omega)]
      simp only [List.getElem_cons_succ]
      exact hdig _ (List.getElem_mem _)
  · obtain ⟨k, rfl⟩ := Int.eq_ofNat_of_zero_le (a := n) (by omega)
    have hi := Num.itoa_nat k
    obtain ⟨b, r, e, hb1, hb2⟩ := Num.dec_first (u := k) (by omega)
    rw [hi] at hm hl hsz
    have hdig := Num.dec_digit k
    rw [e] at hm hl hsz hdig
    simp only [List.length_cons] at hsz hl
    refine valid_pos m w (by omega) (by omega) ?_ ?_ ?_ ?_
    · intro h0; rw [h0] at hsz; simp at hsz
    · rw [byte_at m _ hm 0 (by omega) (by simp), beq_eq_false_iff_ne]; simp only [List.getElem_cons_zero]; omega
    · rw [byte_at m _ hm 0 (by omega) (by simp), beq_eq_false_iff_ne]; simp only [List.getElem_cons_zero]; omega
    · intro j hj
      rw [byte_at m _ hm j hj (by simp only [List.length_cons]; omega)]
      exact hdig _ (List.getElem_mem _)
end Go.Proofs.Qxb6616761aFmt
