import Derived.Test.Qxb6617085aWalkF
namespace Go.Proofs.Qxb6617085a
open Go.RowKit
set_option maxRecDepth 100000

/-- an int's cell -/
def ck (z : Int) : Value := .int .i64 z
/-- an int's cell, the number a natural one -/
def cn (n : Nat) : Value := .int .i64 (n : Int)

set_option maxHeartbeats 400000 in
theorem bytesO_any (w : World) (a b : Option Addr) (n c m d : Nat) (h : n ≤ 65536) (h2 : m ≤ 4096) :
    Calls Try.prog 10 #[.slice a n c, .slice b m d] w fun e w' => e = .returned (.bool true) ∧ w' = w := by
  go_enter Try.func10, Try.ntmps10
  go_wp2
  go_ret
  exact ⟨rfl, rfl⟩
set_option maxHeartbeats 400000 in
theorem order_far (w : World) (a b : Option Addr) (n c m d : Nat) (hn : n ≤ 9223372036854775807) (hm : m ≤ 9223372036854775807) (h : 65536 < n ∨ 4096 < m) :
    Calls Try.prog 4 #[.slice a n c, .slice b m d] w fun e w' => e = .returned (.bool true) ∧ Below w.heap.size w w' := by
  by_cases h1 : 1048576 < n
  · clear h
    go_enter Try.func4, Try.ntmps4
    go_wp2
    go_ret
    exact ⟨rfl, Below.refl _ _⟩
  · by_cases h2 : 1048576 < m
    · clear h
      go_enter Try.func4, Try.ntmps4
      go_wp2
      go_ret
      exact ⟨rfl, Below.refl _ _⟩
    · by_cases h3 : 1048576 < n + m
      · clear h
        go_enter Try.func4, Try.ntmps4
        go_wp2
        go_ret
        exact ⟨rfl, Below.refl _ _⟩
      · by_cases h4 : 65536 < n
        · clear h
          go_enter Try.func4, Try.ntmps4
          go_wp2
          go_ret
          exact ⟨rfl, Below.refl _ _⟩
        · have h5 : 4096 < m := by omega
          clear h
          go_enter Try.func4, Try.ntmps4
          go_wp2
          go_ret
          exact ⟨rfl, Below.refl _ _⟩
set_option maxHeartbeats 400000 in
theorem order_bad (w : World) (a : Option Addr) (n c b off d : Nat) (zs : List Int) (hn : n ≤ 65536) (hm : zs.length ≤ 4096) (hc : ∀ i z, zs[i]? = some z → w.cell? ⟨b, off + i, none⟩ = some (ck z))
    (hw : ∀ z ∈ zs, -9223372036854775808 ≤ z ∧ z ≤ 9223372036854775807) (hbad : ¬ ∀ z ∈ zs, 0 ≤ z ∧ z ≤ 4194304) :
    Calls Try.prog 4 #[.slice a n c, .slice (some ⟨b, off, none⟩) zs.length d] w fun e w' => e = .returned (.bool true) ∧ Below w.heap.size w w' := by
  go_enter Try.func4, Try.ntmps4
  go_wp2_with fail
  refine (bytesO_any _ _ _ _ _ _ _ hn hm).mono ?_
  rintro e w' ⟨rfl, rfl⟩
  go_wp2
  go_loop [5] (fun i => ∃ k : Nat, k ≤ zs.length ∧ i = .int .i64 k ∧ ∀ z ∈ zs.take k, 0 ≤ z ∧ z ≤ 4194304) (fun i => zs.length - (intOf i).toNat)
  case atStart => exact ⟨0, Nat.zero_le _, rfl, by simp⟩
  case round =>
    obtain ⟨k, hk, rfl, hgood⟩ := hrel
    by_cases hlt : k < zs.length
    · have c1 : w'.cell? ⟨b, off + k, none⟩ = some (.int .i64 zs[k]) := hc k _ (List.getElem?_eq_getElem hlt)
      have HT : Hid (zs.take (k + 1) = zs.take k ++ [zs[k]]) := List.take_succ_eq_append_getElem hlt
      have HW := hw _ (List.getElem_mem hlt)
      generalize zs[k] = y at c1 HT HW
      have HG : Hid (∀ z ∈ zs.take k, 0 ≤ z ∧ z ≤ 4194304) := hgood
      have HB : Hid (¬ ∀ z ∈ zs, 0 ≤ z ∧ z ≤ 4194304) := hbad
      obtain ⟨hw1, hw2⟩ := HW
      clear hc hw hgood hbad
      by_cases h1 : y < 0
      · go_wp2
        go_ret
        exact ⟨rfl, Below.refl _ _⟩
      · by_cases h2 : 4194304 < y
        · go_wp2
          go_ret
          exact ⟨rfl, Below.refl _ _⟩
        · go_wp2
          go_round
          case rel =>
            refine ⟨k + 1, by omega, num_i64 (by omega), ?_⟩
            rw [HT.out]
            intro z hz
            rcases List.mem_append.1 hz with hz | hz
            · exact HG.out z hz
            · simp at hz; subst hz; omega
          case measure => simp [intOf]; omega
    · exact absurd (by rw [List.take_of_length_le (by omega)] at hgood; exact hgood) hbad
end Go.Proofs.Qxb6617085a
