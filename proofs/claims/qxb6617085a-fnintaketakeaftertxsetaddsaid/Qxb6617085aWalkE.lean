import Derived.Test.Qxb6617085aWalkC
namespace Go.Proofs.Qxb6617085a
open Go.RowKit

set_option maxHeartbeats 400000 in
theorem bytesE_any (w : World) (a : Option Addr) (n cap : Nat) (k : Int) (h : n ≤ 65536) :
    Calls Try.prog 6 #[.slice a n cap, .int .i64 k] w fun e w' => e = .returned (.bool true) ∧ w' = w := by
  go_enter Try.func6, Try.ntmps6
  go_wp2
  go_ret
  exact ⟨rfl, rfl⟩
set_option maxHeartbeats 400000 in
theorem exact_far (w : World) (a : Option Addr) (n cap : Nat) (k : Int) (hn : n ≤ 9223372036854775807) (hk : -9223372036854775808 ≤ k ∧ k ≤ 9223372036854775807) (h : 65536 < n ∨ k < 0 ∨ 4194304 < k) :
    Calls Try.prog 3 #[.slice a n cap, .int .i64 k] w fun e w' => e = .returned (.bool true) ∧ Below w.heap.size w w' := by
  obtain ⟨hk1, hk2⟩ := hk
  by_cases h1 : 1048576 < n
  · clear h
    go_enter Try.func3, Try.ntmps3
    go_wp2
    go_ret
    exact ⟨rfl, Below.refl _ _⟩
  · by_cases h2 : 65536 < n
    · clear h
      go_enter Try.func3, Try.ntmps3
      go_wp2
      go_ret
      exact ⟨rfl, Below.refl _ _⟩
    · by_cases h3 : k < 0
      · clear h
        go_enter Try.func3, Try.ntmps3
        go_wp2
        go_ret
        exact ⟨rfl, Below.refl _ _⟩
      · have h4 : 4194304 < k := by omega
        clear h
        go_enter Try.func3, Try.ntmps3
        go_wp2
        go_ret
        exact ⟨rfl, Below.refl _ _⟩

/-- two rows of the call's own, the second made in the world behind the first -/
theorem Own.apart {α β : Type} {f : α → Value} {f' : β → Value} {e e' : TypeId} {w1 w2 : World} {b1 : Nat} {v1 v2 : Value} {xs : List α} {ys : List β} (h1 : Own f e w1 b1 v1 xs) (h2 : Own f' e' w2 w1.heap.size v2 ys) : v2.ownBlock = none ∨ v2.ownBlock ≠ v1.ownBlock := by
  cases hv : v2.ownBlock with
  | none => exact .inl rfl
  | some k =>
    refine .inr fun e => ?_
    have a := (World.ownsRow.lt h2 k hv).1
    have b := (World.ownsRow.lt h1 k e.symm).2
    omega
theorem bitOf_is (b : Bool) (w : World) (a : Option Addr) (cap : Nat) (xs : List Nat) (j : Nat) (hb : Mth.has xs j = b) (hl : xs.length ≤ 9223372036854775807) (hj : j ≤ 4611686018427387904) (hx : Mth.W64 xs) (hs : Src cu w a xs) :
    Calls Try.prog 9 #[.slice a xs.length cap, .int .i64 (j : Int)] w fun e w' => e = .returned (.bool b) ∧ w' = w := by
  rw [← hb]; exact bitOf_any w a cap xs j hl hj hx hs

set_option maxHeartbeats 1000000 in
theorem exact_near (w : World) (a : Option Addr) (cap k : Nat) (xs : List Nat) (hl : xs.length ≤ 65536) (hk : k ≤ 4194304) (hx : Mth.W64 xs) (hs : Src cu w a xs) (hn : a = none → cap = 0) :
    Calls Try.prog 3 #[.slice a xs.length cap, .int .i64 (k : Int)] w fun e w' => e = .returned (.bool true) ∧ Below w.heap.size w w' := by
  have hA := Mth.addW_length xs k
  obtain ⟨zs, hz⟩ : ∃ zs, zs = Mth.addW xs k := ⟨_, rfl⟩
  rw [← hz] at hA
  have hz64 : Mth.W64 zs := by rw [hz]; exact Mth.addW_W64 hx k
  have HZ : Hid (zs = Mth.addW xs k) := hz
  have hzl : zs.length ≤ 65537 := by omega
  have Htx : ∀ (w2 : World) (v : Value) (base : Nat), Own cu 27 w2 base v xs → base ≤ w2.heap.size → Calls Try.prog 8 #[v, .int .i64 (k : Int)] w2 fun e w' => ∃ v', e = .returned (.tuple #[v', .bool !(Mth.has xs k)]) ∧ Own cu 27 w' base v' zs ∧ w2.grownBy w' v.ownBlock ∧ Fresh w2 v.ownBlock v' := by
    intro w2 v base h1 h2
    rw [hz]
    exact txAdd_any w2 k base v xs (by omega) hk hx h1 h2
  obtain ⟨hb, hhb⟩ : ∃ b, Mth.has xs k = b := ⟨_, rfl⟩
  rw [hhb] at Htx
  have HHB : Hid (Mth.has xs k = hb) := hhb
  clear hz hhb
  have hz1 : zs.length ≤ k / 64 + 1 ∨ zs.length ≤ xs.length := by omega
  have hz2 : k / 64 + 1 ≤ zs.length := by omega
  have hz3 : xs.length ≤ zs.length := by omega
  clear hA
  by_cases hcase : xs.length < k / 64 + 1
  all_goals
    go_enter Try.func3, Try.ntmps3
    go_wp2_with fail
    refine (bytesE_any _ _ _ _ _ hl).mono ?_
    rintro e w' ⟨rfl, rfl⟩
    go_wp2_with fail
    refine (clone_any _ _ _ _ (by omega) hn hs).mono ?_
    rintro e w1 ⟨v1, rfl, ho1, hb1⟩
    obtain ⟨a1, c1, hv1, hs1, hn1⟩ := ho1.shape
    subst hv1
    clear hs hn
    go_wp2_with fail
    refine (clone_any _ _ _ _ (by omega) hn1 hs1).mono ?_
    rintro e w2 ⟨v2, rfl, ho2, hb2⟩
    go_wp2_with fail
    refine (Htx _ _ w'.heap.size (ho1.below hb2 (Nat.le_refl _)) (by have := hb1.size; have := hb2.size; omega)).mono ?_
    rintro e w3 ⟨v3, rfl, ho3, hg3, hf3⟩
    have ho2' := ho2.kept hg3 (ho1.apart ho2)
    obtain ⟨a2, c2, hv2, hs2, hn2⟩ := ho2'.shape
    subst hv2
    obtain ⟨a3, c3, hv3, hs3, hn3⟩ := ho3.shape
    subst hv3
    have hbel : Below w'.heap.size w' w3 := (hb1.trans (hb2.mono hb1.size)).grown hg3 (by have := hb1.size; have := hb2.size; omega) (fun i hi => (World.ownsRow.lt ho1 i hi).1)
    clear Htx hg3 hf3 ho1 ho2 ho2' hb1 hb2 hn1 hn2 hn3 hs1
    go_wp2_with fail
    refine (bitOf_is hb _ _ _ _ k HHB.out (by omega) (by omega) hx hs2).mono ?_
    rintro e w4 ⟨rfl, rfl⟩
    obtain ⟨b3, o3, ha3, hc3⟩ := hs3.split (by omega)
    subst ha3
    clear hs3
    go_wp2_with fail
    go_loop [9] (fun i => ∃ q : Nat, q ≤ zs.length ∧ i = .int .i64 q) (fun i => zs.length - (intOf i).toNat)
    case atStart => exact ⟨0, Nat.zero_le _, rfl⟩
    case round =>
      obtain ⟨q, hq, rfl⟩ := hrel
      by_cases hqz : q < zs.length
      · have hcq : w4.cell? ⟨b3, o3 + q, none⟩ = some (.int .u64 (zs[q] : Int)) := hc3 q _ (List.getElem?_eq_getElem hqz)
        have hyx : zs[q] < 18446744073709551616 := hz64 _ (List.getElem_mem hqz)
        have HJ : ∀ b, b < 64 → zs[q].testBit b = (Mth.has xs (q * 64 + b) || decide (q * 64 + b = k)) := by
          intro b hb
          rw [← Mth.addW_has, ← HZ.out]
          unfold Mth.has
          rw [show (q * 64 + b) / 64 = q by omega, show (q * 64 + b) % 64 = b by omega, Mth.getD_at hqz]
        have HB := fun b => bit_read zs[q] b hyx
        generalize zs[q] = y at hcq hyx HJ HB
        clear hc3 hyx
        go_wp2_with fail
        go_loop [10] (fun i => ∃ b : Nat, b ≤ 64 ∧ i = .int .i64 b) (fun i => 64 - (intOf i).toNat)
        case atStart => exact ⟨0, Nat.zero_le _, rfl⟩
        case round =>
          obtain ⟨b, hb64, rfl⟩ := hrel
          by_cases hblt : b < 64
          · have hj1 := HJ b hblt
            have hb1 := HB b
            clear HJ HB
            cases hh : Mth.has xs (q * 64 + b) with
            | true =>
              have hb2 : (bits .and .u64 ((y : Int) / 2 ^ b) 1 == 1) = true := by rw [hb1, hj1, hh]; rfl
              have HH : Hid (Mth.has xs (q * 64 + b) = true) := hh
              clear hh hb1 hj1
              go_wp2_with fail
              rw [show ((q : Int) * 64 + (b : Int)) = ((q * 64 + b : Nat) : Int) from by omega]
              refine (bitOf_is true _ _ _ _ (q * 64 + b) HH.out (by omega) (by omega) hx hs2).mono ?_
              rintro e w5 ⟨rfl, rfl⟩
              go_wp2
              go_round
              case rel => exact ⟨b + 1, by omega, by go_num⟩
              case measure => simp [intOf]; omega
            | false =>
              by_cases hjk : q * 64 + b = k
              · have hb2 : (bits .and .u64 ((y : Int) / 2 ^ b) 1 == 1) = true := by rw [hb1, hj1, hh]; simp [hjk]
                have hx1 : (((q * 64 + b : Nat) : Int) == (k : Int)) = true := by rw [hjk]; simp
                have hx2 : ((q : Int) * 64 + (b : Int) == (k : Int)) = true := by rw [← hjk]; simp
                have HH : Hid (Mth.has xs (q * 64 + b) = false) := hh
                clear hh hb1 hj1 hjk
                go_wp2_with fail
                rw [show ((q : Int) * 64 + (b : Int)) = ((q * 64 + b : Nat) : Int) from by omega]
                refine (bitOf_is false _ _ _ _ (q * 64 + b) HH.out (by omega) (by omega) hx hs2).mono ?_
                rintro e w5 ⟨rfl, rfl⟩
                go_wp2
                go_round
                case rel => exact ⟨b + 1, by omega, by go_num⟩
                case measure => simp [intOf]; omega
              · have hb2 : (bits .and .u64 ((y : Int) / 2 ^ b) 1 == 1) = false := by rw [hb1, hj1, hh]; simp [hjk]
                have hx1 : (((q * 64 + b : Nat) : Int) == (k : Int)) = false := by rw [beq_eq_false_iff_ne]; omega
                have hx2 : ((q : Int) * 64 + (b : Int) == (k : Int)) = false := by rw [beq_eq_false_iff_ne]; omega
                have HH : Hid (Mth.has xs (q * 64 + b) = false) := hh
                clear hh hb1 hj1 hjk
                go_wp2_with fail
                rw [show ((q : Int) * 64 + (b : Int)) = ((q * 64 + b : Nat) : Int) from by omega]
                refine (bitOf_is false _ _ _ _ (q * 64 + b) HH.out (by omega) (by omega) hx hs2).mono ?_
                rintro e w5 ⟨rfl, rfl⟩
                go_wp2
                go_round
                case rel => exact ⟨b + 1, by omega, by go_num⟩
                case measure => simp [intOf]; omega
          · clear HJ HB
            go_wp2
            go_round
            case rel => exact ⟨q + 1, by omega, by go_num⟩
            case measure => simp [intOf]; omega
      · go_wp2
        go_ret
        exact ⟨rfl, hbel⟩
end Go.Proofs.Qxb6617085a
