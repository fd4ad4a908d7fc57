import Derived.Test.Qxb6617085aWalkG
import Derived.Test.Qxb6617085aMathB
namespace Go.Proofs.Qxb6617085a
open Go.RowKit
set_option maxRecDepth 100000

theorem txAdd_is (b : Bool) (w : World) (k base : Nat) (v : Value) (xs : List Nat) (hb : Mth.has xs k = b) (hl : xs.length ≤ 16777216) (hk : k ≤ 4194304) (hx : Mth.W64 xs) (ho : Own cu 27 w base v xs) (hbs : base ≤ w.heap.size) :
    Calls Try.prog 8 #[v, .int .i64 (k : Int)] w fun e w' => ∃ v', e = .returned (.tuple #[v', .bool !b]) ∧ Own cu 27 w' base v' (Mth.addW xs k) ∧ w.grownBy w' v.ownBlock ∧ Fresh w v.ownBlock v' := by
  rw [← hb]; exact txAdd_any w k base v xs hl hk hx ho hbs
theorem below_own {w w' : World} {base : Nat} {v : Value} {xs : List Nat} (ho : Own cu 27 w base v xs) (hbs : base ≤ w.heap.size) (hg : w.grownBy w' v.ownBlock) : Below base w w' :=
  below_of_grown hg hbs (fun i hi => (World.ownsRow.lt ho i hi).1)

set_option maxHeartbeats 2000000 in
theorem order_near (w : World) (a aK : Option Addr) (cap cK : Nat) (xs ks : List Nat) (hl : xs.length ≤ 65536) (hm : ks.length ≤ 4096) (hx : Mth.W64 xs) (hs : Src cu w a xs) (hn : a = none → cap = 0) (hsK : Src cn w aK ks) (hK : ∀ k ∈ ks, k ≤ 4194304) :
    Calls Try.prog 4 #[.slice a xs.length cap, .slice aK ks.length cK] w fun e w' => e = .returned (.bool true) ∧ Below w.heap.size w w' := by
  go_enter Try.func4, Try.ntmps4
  go_wp2_with fail
  refine (bytesO_any _ _ _ _ _ _ _ hl hm).mono ?_
  rintro e w' ⟨rfl, rfl⟩
  go_wp2
  go_loop [5] (fun i => ∃ k : Nat, k ≤ ks.length ∧ i = .int .i64 k) (fun i => ks.length - (intOf i).toNat)
  case atStart => exact ⟨0, Nat.zero_le _, rfl⟩
  case round =>
    obtain ⟨k, hk, rfl⟩ := hrel
    by_cases hlt : k < ks.length
    · obtain ⟨b, off, ha, hc⟩ := hsK k _ (List.getElem?_eq_getElem hlt)
      subst ha
      have c1 : w'.cell? ⟨b, off + k, none⟩ = some (.int .i64 (ks[k] : Int)) := hc
      have hy := hK _ (List.getElem_mem hlt)
      generalize ks[k] = y at c1 hy
      clear hc hsK hK hs hn
      go_wp2
      go_round
      case rel => exact ⟨k + 1, by omega, num_i64 (by omega)⟩
      case measure => simp [intOf]; omega
    · go_wp2_with fail
      refine (clone_any _ _ _ _ (by omega) hn hs).mono ?_
      rintro e w1 ⟨v1, rfl, ho1, hb1⟩
      obtain ⟨a1, c1, hv1, hs1, hn1⟩ := ho1.shape
      subst hv1
      clear hs hn
      go_wp2_with fail
      refine (clone_any _ _ _ _ (by omega) hn1 hs1).mono ?_
      rintro e w2 ⟨v2, rfl, ho2, hb2⟩
      obtain ⟨a2, c2, hv2, hs2, hn2⟩ := ho2.shape
      subst hv2
      have ho1' := ho1.below hb2 (Nat.le_refl _)
      have hb02 : Below w'.heap.size w' w2 := hb1.trans (hb2.mono hb1.size)
      clear ho1 hb1 hb2 hs2 hn2
      go_wp2_with fail
      refine (clone_any _ _ _ _ (by omega) hn1 (by obtain ⟨_, _, h1, h2, _⟩ := ho1'.shape; simp only [Value.slice.injEq] at h1; rw [h1.1]; exact h2)).mono ?_
      rintro e w3 ⟨v3, rfl, ho3, hb3⟩
      clear hs1
      go_wp2_with fail
      go_loopw [7, 8, 9] (fun v t i wr => ∃ k : Nat, k ≤ ks.length ∧ i = .int .i64 k ∧ t = .int .i64 (Mth.cnt xs (ks.take k) : Nat) ∧ Own cu 27 wr w2.heap.size v (Mth.addAll xs (ks.take k)) ∧ Below w2.heap.size w2 wr) (fun _ _ i _ => ks.length - (intOf i).toNat)
      case atStart => exact ⟨0, Nat.zero_le _, rfl, rfl, ho3, hb3⟩
      case round =>
        obtain ⟨k, hk, rfl, ht, hown, hbel⟩ := hrel
        by_cases hlt : k < ks.length
        · obtain ⟨b, off, ha, hc⟩ := hsK k _ (List.getElem?_eq_getElem hlt)
          subst ha
          have hbw : Below w'.heap.size w' wr := hb02.trans (hbel.mono hb02.size)
          have cc : wr.cell? ⟨b, off + k, none⟩ = some (.int .i64 (ks[k] : Int)) := (hbw.cell (p := ⟨b, off + k, none⟩) (World.block_lt_of_cell? w' _ hc)).trans hc
          have hy := hK _ (List.getElem_mem hlt)
          have HT : Hid (ks.take (k + 1) = ks.take k ++ [ks[k]]) := Mth.take_snoc hlt
          have hlen : (Mth.addAll xs (ks.take k)).length ≤ 65537 := by
            rw [Mth.addAll_length]
            exact Mth.lenAll_le (by omega) (fun q hq => by have := hK q (List.mem_of_mem_take hq); omega)
          have hx' : Mth.W64 (Mth.addAll xs (ks.take k)) := Mth.addAll_W64 hx _
          have hA : Hid (Mth.addAll xs (ks.take (k + 1)) = Mth.addW (Mth.addAll xs (ks.take k)) ks[k]) := by rw [HT.out]; exact Mth.snoc_add _ _ _
          have hC : Hid (Mth.cnt xs (ks.take (k + 1)) = Mth.cnt xs (ks.take k) + if Mth.has (Mth.addAll xs (ks.take k)) ks[k] then 0 else 1) := by rw [HT.out]; exact Mth.snoc_cnt _ _ _
          have hcl : Mth.cnt xs (ks.take k) ≤ k := by have := Mth.cnt_le xs (ks.take k); simp at this; omega
          generalize ks[k] = y at cc hy hA hC
          generalize Mth.addAll xs (ks.take k) = A at hown hlen hx' hA hC
          generalize Mth.cnt xs (ks.take k) = C at ht hC hcl
          subst ht
          have hsz := hbel.size
          cases hh : Mth.has A y
          all_goals
            have HH := txAdd_is _ wr y w2.heap.size _ A hh (by omega) hy hx' hown hsz
            rw [hh] at hC
            clear hh HT hc hsK hK hn1 ho1' ho2 ho3 hb3 hx hx'
            go_wp2_with fail
            refine HH.mono ?_
            rintro e w4 ⟨v4, rfl, ho4, hg4, hf4⟩
            have hb4 := hbel.trans (below_own hown hsz hg4)
            rw [← hA.out] at ho4
            clear HH hg4 hf4 hown hbel hbw cc
            go_wp2
            go_roundw
            case rel => exact ⟨k + 1, by omega, num_i64 (by omega), num_i64 (by have := hC.out; simp at this; omega), ho4, hb4⟩
            case measure => simp [intOf]; omega
        · obtain ⟨wo, hwo⟩ : ∃ wo : World, wo = wr := ⟨_, rfl⟩
          subst hwo
          obtain rfl : k = ks.length := by omega
          rw [List.take_length] at ht hown
          have hK0 : ∀ q ∈ ks, q / 64 + 1 ≤ 65537 := fun q hq => by have := hK q hq; omega
          have hZl : (Mth.addAll xs ks).length ≤ 65537 := by rw [Mth.addAll_length]; exact Mth.lenAll_le (by omega) hK0
          have HZx : Hid (Mth.W64 (Mth.addAll xs ks)) := Mth.addAll_W64 hx _
          have HZL : Hid ((Mth.addAll xs ks).length = Mth.lenAll xs.length ks) := Mth.addAll_length _ _
          have HZP : Hid (Mth.pcAll (Mth.addAll xs ks) = Mth.pcAll xs + Mth.cnt xs ks) := Mth.cnt_pc _ _
          have HZH : Hid (∀ q ∈ ks, Mth.has (Mth.addAll xs ks) q = true) := fun q hq => by rw [Mth.addAll_has]; simp [hq]
          have HZS : Hid (∀ i (hi : i < xs.length) (hi' : i < (Mth.addAll xs ks).length), (Mth.addAll xs ks)[i] &&& xs[i] = xs[i]) := Mth.addAll_sub hx ks
          have HZR : Hid (Mth.addAll xs ks.reverse = Mth.addAll xs ks) := Mth.addAll_rev hx ks
          have HCR : Hid (Mth.cnt xs ks.reverse = Mth.cnt xs ks) := Mth.cnt_rev hx ks
          have hCl := Mth.cnt_le xs ks
          have hxl : xs.length ≤ (Mth.addAll xs ks).length := by rw [HZL.out]; exact Mth.lenAll_ge _ _
          have ho1w := ho1'.below hbel (Nat.le_refl _)
          have ho2w := ho2.below hbel (Nat.le_refl _)
          have hb0w : Below w'.heap.size w' wo := hb02.trans (hbel.mono hb02.size)
          obtain ⟨_, _, h1, hs1w, _⟩ := ho1w.shape
          simp only [Value.slice.injEq] at h1
          obtain ⟨rfl, _, rfl⟩ := h1
          obtain ⟨aF, cF, hvF, hsF, _⟩ := hown.shape
          subst hvF
          subst ht
          generalize hC : Mth.cnt xs ks = C at HZP HCR hCl ⊢
          generalize hZ : Mth.addAll xs ks = Z at hown hZl HZx HZL HZP HZH HZS HZR hxl hsF ⊢
          have HCd : Hid (Mth.cnt xs ks = C) := hC
          clear hC hZ ho1' ho2 ho3 hb3 hb02 hbel hK0 ho1w
          go_wp2_with fail
          refine (clone_any _ _ _ _ (by omega) hn1 hs1w).mono ?_
          rintro e w4 ⟨v4, rfl, ho4, hb4⟩
          clear hn1 hs1w
          go_wp2_with fail
          go_loopw [11, 12, 13] (fun v t i wr => ∃ q : Nat, q ≤ ks.length ∧ i = .int .i64 ((q : Int) - 1) ∧ t = .int .i64 (Mth.cnt xs (ks.drop q).reverse : Nat) ∧ Own cu 27 wr wo.heap.size v (Mth.addAll xs (ks.drop q).reverse) ∧ Below wo.heap.size wo wr) (fun _ _ i _ => (intOf i + 1).toNat)
          case atStart => exact ⟨ks.length, Nat.le_refl _, rfl, by simp [Mth.cnt], by simp [Mth.addAll]; exact ho4, hb4⟩
          case round =>
            obtain ⟨q, hq, hi, ht, hown', hbel⟩ := hrel
            by_cases hq0 : 0 < q
            · obtain ⟨p, rfl⟩ : ∃ p, q = p + 1 := ⟨q - 1, by omega⟩
              have hi' : u13 = .int .i64 (p : Int) := by rw [hi]; exact num_i64 (by omega)
              subst hi'
              clear hi
              have hlt : p < ks.length := by omega
              obtain ⟨b, off, ha, hc⟩ := hsK p _ (List.getElem?_eq_getElem hlt)
              subst ha
              have hbw : Below w'.heap.size w' wr := hb0w.trans (hbel.mono hb0w.size)
              have cc : wr.cell? ⟨b, off + p, none⟩ = some (.int .i64 (ks[p] : Int)) := (hbw.cell (p := ⟨b, off + p, none⟩) (World.block_lt_of_cell? w' _ hc)).trans hc
              have hy := hK _ (List.getElem_mem hlt)
              have HT : Hid ((ks.drop p).reverse = (ks.drop (p + 1)).reverse ++ [ks[p]]) := Mth.drop_snoc hlt
              have hlen : (Mth.addAll xs (ks.drop (p + 1)).reverse).length ≤ 65537 := by
                rw [Mth.addAll_length]
                exact Mth.lenAll_le (by omega) (fun q hq => by have := hK q (List.mem_of_mem_drop (List.mem_reverse.1 hq)); omega)
              have hx' : Mth.W64 (Mth.addAll xs (ks.drop (p + 1)).reverse) := Mth.addAll_W64 hx _
              have hA : Hid (Mth.addAll xs (ks.drop p).reverse = Mth.addW (Mth.addAll xs (ks.drop (p + 1)).reverse) ks[p]) := by rw [HT.out]; exact Mth.snoc_add _ _ _
              have hC : Hid (Mth.cnt xs (ks.drop p).reverse = Mth.cnt xs (ks.drop (p + 1)).reverse + if Mth.has (Mth.addAll xs (ks.drop (p + 1)).reverse) ks[p] then 0 else 1) := by rw [HT.out]; exact Mth.snoc_cnt _ _ _
              have hcl : Mth.cnt xs (ks.drop (p + 1)).reverse ≤ 4096 := by have := Mth.cnt_le xs (ks.drop (p + 1)).reverse; simp at this; omega
              generalize ks[p] = y at cc hy hA hC
              generalize Mth.addAll xs (ks.drop (p + 1)).reverse = A at hown' hlen hx' hA hC
              generalize Mth.cnt xs (ks.drop (p + 1)).reverse = C1 at ht hC hcl
              subst ht
              have hsz := hbel.size
              cases hh : Mth.has A y
              all_goals
                have HH := txAdd_is _ wr y wo.heap.size _ A hh (by omega) hy hx' hown' hsz
                rw [hh] at hC
                clear hh HT hc hsK hK hx hx' ho4 hb4 hsF ho2w hown HZx HZL HZP HZH HZS HZR HCR HCd hq hq0
                go_wp2_with fail
                refine HH.mono ?_
                rintro e w5 ⟨v5, rfl, ho5, hg5, hf5⟩
                have hb5 := hbel.trans (below_own hown' hsz hg5)
                rw [← hA.out] at ho5
                clear HH hg5 hf5 hown' hbel hbw cc
                go_wp2
                go_roundw
                case rel => exact ⟨p, by omega, num_i64 (by omega), num_i64 (by have := hC.out; simp at this; omega), ho5, hb5⟩
                case measure => simp [intOf]
            · obtain rfl : q = 0 := by omega
              have hi' : u13 = .int .i64 (-1) := by rw [hi]; exact num_i64 (by omega)
              subst hi'
              rw [List.drop_zero, HCR.out] at ht
              rw [List.drop_zero, HZR.out] at hown'
              subst ht
              obtain ⟨aB, cB, hvB, hsB, _⟩ := hown'.shape
              subst hvB
              have hownF := hown.below hbel (Nat.le_refl _)
              have ho2x := ho2w.below hbel (Nat.le_refl _)
              have hb0x : Below w'.heap.size w' wr := hb0w.trans (hbel.mono hb0w.size)
              obtain ⟨_, _, h1, hsFx, _⟩ := hownF.shape
              simp only [Value.slice.injEq] at h1
              obtain ⟨rfl, _, rfl⟩ := h1
              obtain ⟨_, _, h1, hs2x, _⟩ := ho2x.shape
              simp only [Value.slice.injEq] at h1
              obtain ⟨rfl, _, rfl⟩ := h1
              clear hi hown hsF ho2w hb0w ho4 hb4 hbel hown' hownF ho2x HZR HCR hq hq0
              go_wp2_with fail
              refine (equal_any _ _ _ _ _ Z (by omega) hsFx hsB).mono ?_
              rintro e w5 ⟨rfl, hS⟩
              have hF := hsFx.same hS
              have hX := hs2x.same hS
              have hB5 : Below w'.heap.size w' w5 := hb0x.trans (hS _)
              have hKs := hsK.later hB5
              clear hsFx hs2x hS hb0x hsB hsK
              go_wp2_with fail
              go_loop [15, 16, 17] (fun t l i => ∃ k : Nat, k ≤ ks.length ∧ i = .int .i64 k ∧ t = .int .i64 (Mth.cnt xs (ks.take k) : Nat) ∧ l = .int .i64 (Mth.lenAll xs.length (ks.take k) : Nat)) (fun _ _ i => ks.length - (intOf i).toNat)
              case atStart => exact ⟨0, Nat.zero_le _, rfl, rfl, rfl⟩
              case round =>
                obtain ⟨k, hk, rfl, ht, hL⟩ := hrel
                by_cases hlt : k < ks.length
                · obtain ⟨b, off, ha, hc⟩ := hKs k _ (List.getElem?_eq_getElem hlt)
                  subst ha
                  have cc : w5.cell? ⟨b, off + k, none⟩ = some (.int .i64 (ks[k] : Int)) := hc
                  have hcq : ∀ q (h : q < ks.length), w5.cell? ⟨b, off + q, none⟩ = some (.int .i64 (ks[q] : Int)) := by
                    intro q h
                    obtain ⟨b', off', e, hc'⟩ := hKs q _ (List.getElem?_eq_getElem h)
                    cases e
                    exact hc'
                  have hy := hK _ (List.getElem_mem hlt)
                  have HT : ks.take (k + 1) = ks.take k ++ [ks[k]] := Mth.take_snoc hlt
                  have hLl : Mth.lenAll xs.length (ks.take k) ≤ 65537 := Mth.lenAll_le (by omega) (fun q hq => by have := hK q (List.mem_of_mem_take hq); omega)
                  have hcl : Mth.cnt xs (ks.take k) ≤ 4096 := by have := Mth.cnt_le xs (ks.take k); simp at this; omega
                  have HLs : Hid (Mth.lenAll xs.length (ks.take (k + 1)) = max (Mth.lenAll xs.length (ks.take k)) (ks[k] / 64 + 1)) := by rw [HT]; exact Mth.lenAll_snoc _ _ _
                  have HCs : Hid (Mth.cnt xs (ks.take (k + 1)) = Mth.cnt xs (ks.take k) + if Mth.has xs ks[k] || decide (ks[k] ∈ ks.take k) then 0 else 1) := by rw [HT]; exact Mth.cnt_snoc _ _ _
                  generalize ks[k] = y at cc hy HLs HCs HT
                  generalize Mth.lenAll xs.length (ks.take k) = L at hL hLl HLs
                  generalize Mth.cnt xs (ks.take k) = C1 at ht hcl HCs
                  subst ht
                  subst hL
                  have HK : Hid (∀ q (h : q < ks.length), w5.cell? ⟨b, off + q, none⟩ = some (.int .i64 (ks[q] : Int))) := hcq
                  have HXs : Hid (Src cu w5 a2 xs) := hX
                  clear hc hcq hKs hK HT HZx HZL HZP HZH HZS HCd hF hB5 hX
                  by_cases hw : L < y / 64 + 1
                  all_goals
                    cases hh : Mth.has xs y
                    case true =>
                      have HB := bitOf_is true w5 a2 c2 xs y hh (by omega) (by omega) hx HXs.out
                      rw [hh] at HCs
                      clear hh
                      go_wp2_with fail
                      refine HB.mono ?_
                      rintro e w6 ⟨rfl, rfl⟩
                      clear HB
                      go_wp2
                      go_round
                      case rel => exact ⟨k + 1, by omega, num_i64 (by omega), num_i64 (by have := HCs.out; simp at this; omega), num_i64 (by have := HLs.out; omega)⟩
                      case measure => simp [intOf]; omega
                    case false =>
                      have HB := bitOf_is false w5 a2 c2 xs y hh (by omega) (by omega) hx HXs.out
                      rw [hh, Bool.false_or] at HCs
                      clear hh
                      go_wp2_with fail
                      refine HB.mono ?_
                      rintro e w6 ⟨rfl, rfl⟩
                      clear HB
                      go_wp2
                      go_loop [19, 20] (fun sn j => ∃ q : Nat, q ≤ k ∧ sn = .bool false ∧ j = .int .i64 q ∧ Hid (y ∉ ks.take q)) (fun _ j => k - (intOf j).toNat)
                      case atStart => exact ⟨0, Nat.zero_le _, rfl, rfl, by show y ∉ ks.take 0; simp⟩
                      case round =>
                        obtain ⟨q, hq, rfl, rfl, HN⟩ := hrel
                        by_cases hqk : q < k
                        · have cq := HK.out q (by omega)
                          have HM : Hid (ks[q] ∈ ks.take k) := Mth.mem_take_of hqk hk
                          have HT : Hid (ks.take (q + 1) = ks.take q ++ [ks[q]]) := Mth.take_snoc (by omega)
                          generalize ks[q] = x at cq HM HT
                          by_cases hxy : x = y
                          · have hbe : ((x : Int) == (y : Int)) = true := by rw [hxy]; simp
                            have HC : Hid (Mth.cnt xs (ks.take (k + 1)) = C1) := by have := HCs.out; rw [hxy] at HM; simp [HM.out] at this; exact this
                            clear hxy HM HT HN HCs
                            go_wp2
                            go_round
                            case rel => exact ⟨k + 1, by omega, num_i64 (by omega), num_i64 (by have := HC.out; omega), num_i64 (by have := HLs.out; omega)⟩
                            case measure => simp [intOf]; omega
                          · have hbe : ((x : Int) == (y : Int)) = false := by rw [beq_eq_false_iff_ne]; omega
                            have HN' : Hid (y ∉ ks.take (q + 1)) := by
                              show y ∉ ks.take (q + 1)
                              rw [HT.out]
                              intro hm'
                              rcases List.mem_append.1 hm' with hm' | hm'
                              · exact HN.out hm'
                              · simp at hm'; exact hxy hm'.symm
                            clear hxy HM HT HN
                            go_wp2
                            go_round
                            case rel => exact ⟨q + 1, by omega, rfl, num_i64 (by omega), HN'⟩
                            case measure => simp [intOf]; omega
                        · obtain rfl : q = k := by omega
                          have HC : Hid (Mth.cnt xs (ks.take (q + 1)) = C1 + 1) := by have := HCs.out; simp [HN.out] at this; exact this
                          clear HN HCs
                          go_wp2
                          go_round
                          case rel => exact ⟨q + 1, by omega, num_i64 (by omega), num_i64 (by have := HC.out; omega), num_i64 (by have := HLs.out; omega)⟩
                          case measure => simp [intOf]; omega
                · obtain rfl : k = ks.length := by omega
                  rw [List.take_length] at ht hL
                  rw [HCd.out] at ht
                  rw [← HZL.out] at hL
                  subst ht
                  subst hL
                  have P1 := pop_any w5 aF cF Z (by omega) HZx.out hF
                  have P2 := pop_any w5 a2 c2 xs (by omega) hx hX
                  have hp0 := Mth.pcAll_le xs
                  have hp1 : Mth.pcAll Z ≤ Mth.pcAll xs + C := by have := HZP.out; omega
                  have hp2 : Mth.pcAll xs + C ≤ Mth.pcAll Z := by have := HZP.out; omega
                  generalize Mth.pcAll Z = PZ at P1 hp1 hp2
                  generalize Mth.pcAll xs = PX at P2 hp0 hp1 hp2
                  have hne : ((PZ : Int) != (PX : Int) + (C : Int)) = false := by
                    rw [show (PZ : Int) = (PX : Int) + (C : Int) by omega]; simp
                  have HXs : Hid (Src cu w5 a2 xs) := hX
                  have HFs : Hid (Src cu w5 aF Z) := hF
                  have HKs : Hid (Src cn w5 aK ks) := hKs
                  have HKb : Hid (∀ k ∈ ks, k ≤ 4194304) := hK
                  have HX64 : Hid (Mth.W64 xs) := hx
                  clear hX hF hKs hK hx HZP HCd HZL hk
                  go_wp2_with fail
                  refine P1.mono ?_
                  rintro e w6 ⟨rfl, rfl⟩
                  clear P1
                  go_wp2_with fail
                  refine P2.mono ?_
                  rintro e w7 ⟨rfl, rfl⟩
                  clear P2
                  go_wp2_with fail
                  go_loop [21] (fun i => ∃ k : Nat, k ≤ ks.length ∧ i = .int .i64 k) (fun i => ks.length - (intOf i).toNat)
                  case atStart => exact ⟨0, Nat.zero_le _, rfl⟩
                  case round =>
                    obtain ⟨k, hk, rfl⟩ := hrel
                    by_cases hlt2 : k < ks.length
                    · obtain ⟨b, off, ha, hc⟩ := HKs.out k _ (List.getElem?_eq_getElem hlt2)
                      subst ha
                      have cc : w7.cell? ⟨b, off + k, none⟩ = some (.int .i64 (ks[k] : Int)) := hc
                      have hy := HKb.out _ (List.getElem_mem hlt2)
                      have HB := bitOf_is true w7 aF cF Z ks[k] (HZH.out _ (List.getElem_mem hlt2)) (by omega) (by omega) HZx.out HFs.out
                      generalize ks[k] = y at cc hy HB
                      clear hc
                      go_wp2_with fail
                      refine HB.mono ?_
                      rintro e w8 ⟨rfl, rfl⟩
                      clear HB
                      go_wp2
                      go_round
                      case rel => exact ⟨k + 1, by omega, num_i64 (by omega)⟩
                      case measure => simp [intOf]; omega
                    · go_wp2
                      go_loopw [22] (fun i wr => ∃ k : Nat, k ≤ xs.length ∧ i = .int .i64 k ∧ Same w7 wr) (fun i _ => xs.length - (intOf i).toNat)
                      case atStart => exact ⟨0, Nat.zero_le _, rfl, Same.refl _⟩
                      case round =>
                        obtain ⟨j, hj, rfl, hS⟩ := hrel
                        by_cases hlt3 : j < xs.length
                        · obtain ⟨b2, o2, ha, hc⟩ := HXs.out j _ (List.getElem?_eq_getElem hlt3)
                          subst ha
                          obtain ⟨bF, oF, ha, hc'⟩ := HFs.out j _ (List.getElem?_eq_getElem (show j < Z.length by omega))
                          subst ha
                          have cx : wr.cell? ⟨b2, o2 + j, none⟩ = some (.int .u64 (xs[j] : Int)) := (hS.cell _).trans hc
                          have cz : wr.cell? ⟨bF, oF + j, none⟩ = some (.int .u64 (Z[j] : Int)) := (hS.cell _).trans hc'
                          have hsub := HZS.out j hlt3 (by omega)
                          have hand : bits .and .u64 (Z[j] : Int) (xs[j] : Int) = ((Z[j] &&& xs[j] : Nat) : Int) := u64_and_nat _ _ (HZx.out _ (List.getElem_mem _)) (HX64.out _ (List.getElem_mem _))
                          rw [hsub] at hand
                          have hlt4 : (j : Int) < (xs.length : Int) := by omega
                          have hlt5 : (j : Int) < (Z.length : Int) := by omega
                          clear hsub hc hc'
                          generalize xs[j] = x at cx hand
                          generalize Z[j] = z at cz hand
                          go_wp2
                          go_quiet (fail)
                          go_wp2
                          go_roundw
                          case rel => exact ⟨j + 1, by omega, num_i64 (by omega), hS.drewN _⟩
                          case measure => simp [intOf]; omega
                        · go_wp2
                          go_ret
                          exact ⟨rfl, hB5.trans (hS _)⟩
end Go.Proofs.Qxb6617085a
