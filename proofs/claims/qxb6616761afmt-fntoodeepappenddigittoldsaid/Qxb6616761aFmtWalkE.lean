import Derived.Test.Qxb6616761aFmtWalkD
import Derived.OpenShut
namespace Go.Proofs.Qxb6616761aFmt
open Go.RowKit Go.Extern.Stop Go.Stop Go.Extern

set_option maxHeartbeats 1000000 in
theorem append_far (n d : Int) (w : World) (bn : -9223372036854775808 ≤ n ∧ n ≤ 9223372036854775807) (bd : -9223372036854775808 ≤ d ∧ d ≤ 9223372036854775807) (h : n = 0 ∨ 922337203685477579 < n ∨ n < -922337203685477579 ∨ d < 0 ∨ 9 < d) :
    Calls Tryf.prog 4 #[.int .i64 n, .int .i64 d] w fun e w' => e = .returned (.bool true) ∧ Below w.heap.size w w' := by
  obtain ⟨bn1, bn2⟩ := bn
  obtain ⟨bd1, bd2⟩ := bd
  by_cases h1 : n = 0
  · subst h1
    clear h
    go_enter Tryf.func4, Tryf.ntmps4
    go_wp2
    go_ret
    exact ⟨rfl, Below.refl _ _⟩
  · have h1' : (n == 0) = false := by rw [beq_eq_false_iff_ne]; exact h1
    by_cases h2 : 922337203685477579 < n
    · clear h h1
      go_enter Tryf.func4, Tryf.ntmps4
      go_wp2
      go_ret
      exact ⟨rfl, Below.refl _ _⟩
    · by_cases h3 : n < -922337203685477579
      · clear h h1
        go_enter Tryf.func4, Tryf.ntmps4
        go_wp2
        go_ret
        exact ⟨rfl, Below.refl _ _⟩
      · by_cases h4 : d < 0
        · clear h h1
          go_enter Tryf.func4, Tryf.ntmps4
          go_wp2
          go_ret
          exact ⟨rfl, Below.refl _ _⟩
        · have h5 : 9 < d := by omega
          clear h h1
          go_enter Tryf.func4, Tryf.ntmps4
          go_wp2
          go_ret
          exact ⟨rfl, Below.refl _ _⟩

theorem app_num {n d k : Int} (h4 : 0 ≤ d) (h5 : d ≤ 9) (hk : (n < 0 ∧ k = n * 10 - d) ∨ (0 < n ∧ k = n * 10 + d)) : Lib.itoa k = Lib.itoa n ++ [UInt8.ofNat (48 + d.toNat)] := by
  obtain ⟨e, rfl⟩ := Int.eq_ofNat_of_zero_le h4
  rcases hk with ⟨hn, rfl⟩ | ⟨hn, rfl⟩
  · obtain ⟨j, hj⟩ : ∃ j : Nat, n = -(j : Int) := ⟨n.natAbs, by omega⟩
    subst hj
    rw [show -(j : Int) * 10 - (e : Int) = -((j * 10 + e : Nat) : Int) from by omega, Num.itoa_neg (by omega), Num.itoa_neg (by omega), Num.dec_append (by omega) (by omega)]
    rfl
  · obtain ⟨j, rfl⟩ := Int.eq_ofNat_of_zero_le (a := n) (by omega)
    rw [show (j : Int) * 10 + (e : Int) = ((j * 10 + e : Nat) : Int) from by omega, Num.itoa_nat, Num.itoa_nat, Num.dec_append (by omega) (by omega)]
    rfl
/-- what the law asks of the two numerals -/
structure Two (n d : Int) (m1 m2 : ByteArray) : Prop where
  pos : 0 < m1.size
  len : m2.size = m1.size + 1
  first : (((m1[0]'pos).toNat : Int) == 45) = decide (n < 0)
  same : ((m2.extract 0 m1.size).toList == m1.toList) = true
  last : (((m2[m1.size]'(by omega)).toNat : Int) == 48 + d) = true
theorem two_of {n d k : Int} {m1 m2 : ByteArray} (h4 : 0 ≤ d) (h5 : d ≤ 9) (hk : (n < 0 ∧ k = n * 10 - d) ∨ (0 < n ∧ k = n * 10 + d)) (e1 : m1.data.toList = Lib.itoa n) (e2 : m2.data.toList = Lib.itoa k) : Two n d m1 m2 := by
  have hap := app_num h4 h5 hk
  rw [hap] at e2
  have s1 : m1.size = (Lib.itoa n).length := by rw [size_list, e1]
  have s2 : m2.size = (Lib.itoa n).length + 1 := by rw [size_list, e2]; simp
  have hp : 0 < (Lib.itoa n).length ∧ ∀ h : 0 < (Lib.itoa n).length, (((Lib.itoa n)[0].toNat : Int) == 45) = decide (n < 0) := by
    rcases hk with ⟨hn, _⟩ | ⟨hn, _⟩
    · obtain ⟨j, hj⟩ : ∃ j : Nat, n = -(j : Int) := ⟨n.natAbs, by omega⟩
      subst hj
      have e := Num.itoa_neg (n := j) (by omega)
      refine ⟨by rw [e]; simp, fun h => ?_⟩
      rw [decide_eq_true hn]
      simp only [e, List.getElem_cons_zero]
      rfl
    · obtain ⟨j, rfl⟩ := Int.eq_ofNat_of_zero_le (a := n) (by omega)
      obtain ⟨b, r, e, hb1, hb2⟩ := Num.dec_first (u := j) (by omega)
      have e' : Lib.itoa ((j : Nat) : Int) = b :: r := by rw [Num.itoa_nat, e]
      refine ⟨by rw [e']; simp, fun h => ?_⟩
      rw [decide_eq_false (by omega)]
      simp only [e', List.getElem_cons_zero]
      rw [beq_eq_false_iff_ne]; omega
  refine ⟨by omega, by omega, ?_, ?_, ?_⟩
  · rw [byte_at m1 _ e1 0 (by omega) hp.1]; exact hp.2 hp.1
  · rw [beq_iff_eq, ByteArray.toList_eq, ByteArray.toList_eq, ext_list, e1, e2, List.drop_zero, Nat.sub_zero, s1, List.take_append_of_le_length (Nat.le_refl _), List.take_length]
  · rw [byte_at m2 _ e2 m1.size (by omega) (by simp; omega), beq_iff_eq, List.getElem_append_right (by omega)]
    simp only [s1, Nat.sub_self, List.getElem_cons_zero]
    rw [Num.byte_toNat (by omega)]; omega

set_option maxHeartbeats 1000000 in
theorem append_neg (F : Interp) (n d : Int) (w : World) (hF : F.told.answers w.tape) (h1 : (n == 0) = false) (h2 : n ≤ 922337203685477579) (h3 : -922337203685477579 ≤ n) (h4 : 0 ≤ d) (h5 : d ≤ 9)
    (hn : n < 0) (wn : (Lit.int .i64 n).wf = true) (wk : (Lit.int .i64 (n * 10 - d)).wf = true) (hT : ∀ m1 m2 : ByteArray, m1.data.toList = Lib.itoa n → m2.data.toList = Lib.itoa (n * 10 - d) → Hid (Two n d m1 m2)) :
    Calls Tryf.prog 4 #[.int .i64 n, .int .i64 d] w fun e w' => e = .returned (.bool true) ∧ Below w.heap.size w w' := by
  have H1 := zzTooDeep F n w hF wn
  have HFH : Hid (F.told.answers w.tape) := hF
  have HWK : Hid ((Lit.int .i64 (n * 10 - d)).wf = true) := wk
  have HT : Hid (∀ m1 m2 : ByteArray, m1.data.toList = Lib.itoa n → m2.data.toList = Lib.itoa (n * 10 - d) → Hid (Two n d m1 m2)) := hT
  have HL1 : Hid ((Lib.itoa n).length ≤ 21) := FmtText.itoa_length_le wn
  have HL2 : Hid ((Lib.itoa (n * 10 - d)).length ≤ 21) := FmtText.itoa_length_le wk
  clear hF wn wk hT
  go_enter Tryf.func4, Tryf.ntmps4
  go_wp2_with fail
  refine H1.mono ?_
  rintro e w1 ⟨s1, rfl, hs1, hb1⟩
  have H2 := zzTooDeep F (n * 10 - d) w1 (by rw [hb1.tape]; exact HFH.out) HWK.out
  have HS1 : Hid (s1.data.toList = txt n) := hs1
  clear H1 hs1
  go_wp2_with fail
  refine H2.mono ?_
  rintro e w2 ⟨s2, rfl, hs2, hb2⟩
  have HS2 : Hid (s2.data.toList = txt (n * 10 - d)) := hs2
  have hbel := hb1.trans (hb2.mono hb1.size)
  clear H2 hs2 hb1 hb2
  go_wp2_with fail
  refine (middle_any s1 n w2 HS1.out HL1.out).mono ?_
  rintro e w3 ⟨m1, rfl, hm1, rfl⟩
  have HM1 : Hid (m1.data.toList = Lib.itoa n) := hm1
  clear hm1
  go_wp2_with fail
  refine (middle_any s2 (n * 10 - d) w3 HS2.out HL2.out).mono ?_
  rintro e w4 ⟨m2, rfl, hm2, rfl⟩
  have HM2 : Hid (m2.data.toList = Lib.itoa (n * 10 - d)) := hm2
  clear hm2
  go_wp2_with fail
  refine (valid_any m1 n w4 HM1.out (by omega) HL1.out).mono ?_
  rintro e w5 ⟨rfl, rfl⟩
  go_wp2_with fail
  refine (valid_any m2 (n * 10 - d) w5 HM2.out (by omega) HL2.out).mono ?_
  rintro e w6 ⟨rfl, rfl⟩
  have T := (HT.out m1 m2 HM1.out HM2.out).out
  have t1 := T.pos
  have t2 : m2.size ≤ m1.size + 1 := by have := T.len; omega
  have t3 : m1.size + 1 ≤ m2.size := by have := T.len; omega
  have t4 : (((m1[0]'t1).toNat : Int) == 45) = true := T.first.trans (decide_eq_true hn)
  have t5 := T.same
  have t9 : m1.size < m2.size := by omega
  have t6 : (((m2[m1.size]'t9).toNat : Int) == 48 + d) = true := T.last
  have t7 : ((m2.size : Int) != (m1.size : Int) + 1) = false := by
    rw [show (m2.size : Int) = (m1.size : Int) + 1 by omega]; simp
  have t8 : m1.size ≤ 21 := by rw [size_list, HM1.out]; exact HL1.out
  clear T HT HM1 HM2 HS1 HS2 HL1 HL2 HWK HFH
  go_wp2
  go_ret
  exact ⟨rfl, hbel⟩
set_option maxHeartbeats 1000000 in
theorem append_pos (F : Interp) (n d : Int) (w : World) (hF : F.told.answers w.tape) (h1 : (n == 0) = false) (h2 : n ≤ 922337203685477579) (h3 : -922337203685477579 ≤ n) (h4 : 0 ≤ d) (h5 : d ≤ 9)
    (hn : 0 < n) (wn : (Lit.int .i64 n).wf = true) (wk : (Lit.int .i64 (n * 10 + d)).wf = true) (hT : ∀ m1 m2 : ByteArray, m1.data.toList = Lib.itoa n → m2.data.toList = Lib.itoa (n * 10 + d) → Hid (Two n d m1 m2)) :
    Calls Tryf.prog 4 #[.int .i64 n, .int .i64 d] w fun e w' => e = .returned (.bool true) ∧ Below w.heap.size w w' := by
  have H1 := zzTooDeep F n w hF wn
  have HFH : Hid (F.told.answers w.tape) := hF
  have HWK : Hid ((Lit.int .i64 (n * 10 + d)).wf = true) := wk
  have HT : Hid (∀ m1 m2 : ByteArray, m1.data.toList = Lib.itoa n → m2.data.toList = Lib.itoa (n * 10 + d) → Hid (Two n d m1 m2)) := hT
  have HL1 : Hid ((Lib.itoa n).length ≤ 21) := FmtText.itoa_length_le wn
  have HL2 : Hid ((Lib.itoa (n * 10 + d)).length ≤ 21) := FmtText.itoa_length_le wk
  clear hF wn wk hT
  go_enter Tryf.func4, Tryf.ntmps4
  go_wp2_with fail
  refine H1.mono ?_
  rintro e w1 ⟨s1, rfl, hs1, hb1⟩
  have H2 := zzTooDeep F (n * 10 + d) w1 (by rw [hb1.tape]; exact HFH.out) HWK.out
  have HS1 : Hid (s1.data.toList = txt n) := hs1
  clear H1 hs1
  go_wp2_with fail
  refine H2.mono ?_
  rintro e w2 ⟨s2, rfl, hs2, hb2⟩
  have HS2 : Hid (s2.data.toList = txt (n * 10 + d)) := hs2
  have hbel := hb1.trans (hb2.mono hb1.size)
  clear H2 hs2 hb1 hb2
  go_wp2_with fail
  refine (middle_any s1 n w2 HS1.out HL1.out).mono ?_
  rintro e w3 ⟨m1, rfl, hm1, rfl⟩
  have HM1 : Hid (m1.data.toList = Lib.itoa n) := hm1
  clear hm1
  go_wp2_with fail
  refine (middle_any s2 (n * 10 + d) w3 HS2.out HL2.out).mono ?_
  rintro e w4 ⟨m2, rfl, hm2, rfl⟩
  have HM2 : Hid (m2.data.toList = Lib.itoa (n * 10 + d)) := hm2
  clear hm2
  go_wp2_with fail
  refine (valid_any m1 n w4 HM1.out (by omega) HL1.out).mono ?_
  rintro e w5 ⟨rfl, rfl⟩
  go_wp2_with fail
  refine (valid_any m2 (n * 10 + d) w5 HM2.out (by omega) HL2.out).mono ?_
  rintro e w6 ⟨rfl, rfl⟩
  have T := (HT.out m1 m2 HM1.out HM2.out).out
  have t1 := T.pos
  have t2 : m2.size ≤ m1.size + 1 := by have := T.len; omega
  have t3 : m1.size + 1 ≤ m2.size := by have := T.len; omega
  have t4 : (((m1[0]'t1).toNat : Int) == 45) = false := T.first.trans (decide_eq_false (by omega))
  have t5 := T.same
  have t9 : m1.size < m2.size := by omega
  have t6 : (((m2[m1.size]'t9).toNat : Int) == 48 + d) = true := T.last
  have t7 : ((m2.size : Int) != (m1.size : Int) + 1) = false := by
    rw [show (m2.size : Int) = (m1.size : Int) + 1 by omega]; simp
  have t8 : m1.size ≤ 21 := by rw [size_list, HM1.out]; exact HL1.out
  clear T HT HM1 HM2 HS1 HS2 HL1 HL2 HWK HFH
  go_wp2
  go_ret
  exact ⟨rfl, hbel⟩
/-- FnTooDeepAppendDigit answers true, whatever the two ints -/
theorem append_law (F : Interp) (n d : Int) (w : World) (hF : F.told.answers w.tape) (wn : (Lit.int .i64 n).wf = true) (_wd : (Lit.int .i64 d).wf = true) (bn : -9223372036854775808 ≤ n ∧ n ≤ 9223372036854775807) (bd : -9223372036854775808 ≤ d ∧ d ≤ 9223372036854775807) :
    Calls Tryf.prog 4 #[.int .i64 n, .int .i64 d] w fun e w' => e = .returned (.bool true) ∧ Below w.heap.size w w' := by
  by_cases h : n = 0 ∨ 922337203685477579 < n ∨ n < -922337203685477579 ∨ d < 0 ∨ 9 < d
  · exact append_far n d w bn bd h
  · have h1 : (n == 0) = false := by rw [beq_eq_false_iff_ne]; omega
    by_cases hn : n < 0
    · exact append_neg F n d w hF h1 (by omega) (by omega) (by omega) (by omega) hn wn (WalkArith.wf_i64 (by omega)) (fun m1 m2 e1 e2 => two_of (by omega) (by omega) (.inl ⟨hn, rfl⟩) e1 e2)
    · exact append_pos F n d w hF h1 (by omega) (by omega) (by omega) (by omega) (by omega) wn (WalkArith.wf_i64 (by omega)) (fun m1 m2 e1 e2 => two_of (by omega) (by omega) (.inr ⟨by omega, rfl⟩) e1 e2)
end Go.Proofs.Qxb6616761aFmt
