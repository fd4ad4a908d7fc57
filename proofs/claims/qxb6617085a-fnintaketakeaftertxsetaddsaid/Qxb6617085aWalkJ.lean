import Derived.Test.Qxb6617085aWalkI
import Derived.Test.Qxb6617085aWalkG
import Derived.Test.Qxb6617085aMathB
namespace Go.Proofs.Qxb6617085a
open Go.RowKit
set_option maxRecDepth 100000

set_option maxHeartbeats 400000 in
theorem bytesI_any (w : World) (a b c : Option Addr) (n1 c1 n2 c2 n3 c3 : Nat) (nx : Int) (h1 : n1 ≤ 65536) (h2 : n2 ≤ 65536) (h3 : n3 ≤ 4096) :
    Calls Try.prog 13 #[.slice a n1 c1, .int .i64 nx, .slice b n2 c2, .slice c n3 c3] w fun e w' => e = .returned (.bool true) ∧ w' = w := by
  go_enter Try.func13, Try.ntmps13
  go_wp2
  go_ret
  exact ⟨rfl, rfl⟩
set_option maxHeartbeats 1000000 in
theorem intake_far (w : World) (a b c : Option Addr) (n1 c1 n2 c2 n3 c3 : Nat) (nx : Int) (h1 : n1 ≤ 9223372036854775807) (h2 : n2 ≤ 9223372036854775807) (h3 : n3 ≤ 9223372036854775807) (h : 65536 < n1 ∨ 65536 < n2 ∨ 4096 < n3) :
    Calls Try.prog 5 #[.slice a n1 c1, .int .i64 nx, .slice b n2 c2, .slice c n3 c3] w fun e w' => e = .returned (.bool true) ∧ Below w.heap.size w w' := by
  by_cases g1 : 1048576 < n1
  · clear h
    go_enter Try.func5, Try.ntmps5
    go_wp2
    go_ret
    exact ⟨rfl, Below.refl _ _⟩
  · by_cases g2 : 1048576 < n2
    · clear h
      go_enter Try.func5, Try.ntmps5
      go_wp2
      go_ret
      exact ⟨rfl, Below.refl _ _⟩
    · by_cases g3 : 1048576 < n1 + n2
      · clear h
        go_enter Try.func5, Try.ntmps5
        go_wp2
        go_ret
        exact ⟨rfl, Below.refl _ _⟩
      · by_cases g4 : 1048576 < n3
        · clear h
          go_enter Try.func5, Try.ntmps5
          go_wp2
          go_ret
          exact ⟨rfl, Below.refl _ _⟩
        · by_cases g5 : 1048576 < n1 + n2 + n3
          · clear h
            go_enter Try.func5, Try.ntmps5
            go_wp2
            go_ret
            exact ⟨rfl, Below.refl _ _⟩
          · by_cases g6 : 65536 < n1
            · clear h
              go_enter Try.func5, Try.ntmps5
              go_wp2
              go_ret
              exact ⟨rfl, Below.refl _ _⟩
            · by_cases g7 : 65536 < n2
              · clear h
                go_enter Try.func5, Try.ntmps5
                go_wp2
                go_ret
                exact ⟨rfl, Below.refl _ _⟩
              · have g8 : 4096 < n3 := by omega
                clear h
                go_enter Try.func5, Try.ntmps5
                go_wp2
                go_ret
                exact ⟨rfl, Below.refl _ _⟩
set_option maxHeartbeats 400000 in
theorem intake_bad (w : World) (a b2 : Option Addr) (n1 c1 n2 c2 b off d : Nat) (nx : Int) (zs : List Int) (h1 : n1 ≤ 65536) (h2 : n2 ≤ 65536) (hm : zs.length ≤ 4096) (hc : ∀ i z, zs[i]? = some z → w.cell? ⟨b, off + i, none⟩ = some (ck z))
    (hw : ∀ z ∈ zs, -9223372036854775808 ≤ z ∧ z ≤ 9223372036854775807) (hbad : ¬ ∀ z ∈ zs, 0 ≤ z ∧ z ≤ 4194304) :
    Calls Try.prog 5 #[.slice a n1 c1, .int .i64 nx, .slice b2 n2 c2, .slice (some ⟨b, off, none⟩) zs.length d] w fun e w' => e = .returned (.bool true) ∧ Below w.heap.size w w' := by
  go_enter Try.func5, Try.ntmps5
  go_wp2_with fail
  refine (bytesI_any _ _ _ _ _ _ _ _ _ _ _ h1 h2 hm).mono ?_
  rintro e w' ⟨rfl, rfl⟩
  go_wp2
  go_loop [9] (fun i => ∃ k : Nat, k ≤ zs.length ∧ i = .int .i64 k ∧ ∀ z ∈ zs.take k, 0 ≤ z ∧ z ≤ 4194304) (fun i => zs.length - (intOf i).toNat)
  case atStart => exact ⟨0, Nat.zero_le _, rfl, by simp⟩
  case round =>
    obtain ⟨k, hk, rfl, hgood⟩ := hrel
    by_cases hlt : k < zs.length
    · have c1 : w'.cell? ⟨b, off + k, none⟩ = some (.int .i64 zs[k]) := hc k _ (List.getElem?_eq_getElem hlt)
      have HT : Hid (zs.take (k + 1) = zs.take k ++ [zs[k]]) := List.take_succ_eq_append_getElem hlt
      have HW := hw _ (List.getElem_mem hlt)
      generalize zs[k] = y at c1 HT HW
      have HG : Hid (∀ z ∈ zs.take k, 0 ≤ z ∧ z ≤ 4194304) := hgood
      have HB : Hid (¬ ∀ z ∈ zs, 0 ≤ z ∧ z ≤ 4194304) := hbad
      obtain ⟨hw1, hw2⟩ := HW
      clear hc hw hgood hbad
      by_cases g1 : y < 0
      · go_wp2
        go_ret
        exact ⟨rfl, Below.refl _ _⟩
      · by_cases g2 : 4194304 < y
        · go_wp2
          go_ret
          exact ⟨rfl, Below.refl _ _⟩
        · go_wp2
          go_round
          case rel =>
            refine ⟨k + 1, by omega, num_i64 (by omega), ?_⟩
            rw [HT.out]
            intro z hz
            rcases List.mem_append.1 hz with hz | hz
            · exact HG.out z hz
            · simp at hz; subst hz; omega
          case measure => simp [intOf]; omega
    · exact absurd (by rw [List.take_of_length_le (by omega)] at hgood; exact hgood) hbad
end Go.Proofs.Qxb6617085a
