import Derived.Test.Qxb6617085aWalkJ
namespace Go.Proofs.Qxb6617085a
open Go.RowKit
set_option maxRecDepth 100000

theorem txAdd_at (b : Bool) (w : World) (k base : Nat) (v : Value) (xs : List Nat) (hb : Mth.has xs k = b) (hl : xs.length ≤ 16777216) (hk : k ≤ 4194304) (hx : Mth.W64 xs) (ho : Own cu 27 w base v xs) (hbs : base ≤ w.heap.size) :
    Calls Try.prog 8 #[v, .int .i64 (k : Int)] w fun e w' => ∃ v', e = .returned (.tuple #[v', .bool !b]) ∧ Own cu 27 w' base v' (Mth.addW xs k) ∧ w.grownBy w' v.ownBlock ∧ Fresh w v.ownBlock v' := by
  rw [← hb]; exact txAdd_any w k base v xs hl hk hx ho hbs
theorem Own.belowOf {α : Type} {f : α → Value} {e : TypeId} {w w' : World} {base : Nat} {v : Value} {xs : List α} (ho : Own f e w base v xs) (hbs : base ≤ w.heap.size) (hg : w.grownBy w' v.ownBlock) : Below base w w' :=
  below_of_grown hg hbs (fun i hi => (World.ownsRow.lt ho i hi).1)
/-- two rows of different element types lie in different blocks -/
theorem Own.neType {α β : Type} {f : α → Value} {f' : β → Value} {e e' : TypeId} {w : World} {b b' : Nat} {v v' : Value} {xs : List α} {ys : List β} (h : Own f e w b v xs) (h' : Own f' e' w b' v' ys) (he : e ≠ e') : v'.ownBlock = none ∨ v'.ownBlock ≠ v.ownBlock := by
  rcases h'.2 with ⟨rfl, _⟩ | ⟨g', cap', cur', rfl, _, hg', _⟩
  · exact .inl rfl
  · refine .inr ?_
    rcases h.2 with ⟨rfl, _⟩ | ⟨g, cap, cur, rfl, _, hg, _⟩
    · simp [Value.ownBlock]
    · simp only [Value.ownBlock, ne_eq, Option.some.injEq]
      rintro rfl
      rw [hg'] at hg
      simp only [Option.some.injEq, Obj.cells.injEq] at hg
      exact he hg.2.1.symm
/-- late, behind the script's first numbers -/
def lateOf (ls : List Int) (xs : List Nat) (nx : Int) (qs : List Nat) : List Int := ls ++ (Mth.news xs nx qs).map (fun n : Nat => (n : Int))
theorem lateOf_le (ls : List Int) (xs : List Nat) (nx : Int) (qs : List Nat) : (lateOf ls xs nx qs).length ≤ ls.length + qs.length := by
  have := Mth.news_le xs qs nx
  simp [lateOf]; omega
theorem lateOf_old {ls : List Int} {xs : List Nat} {nx : Int} {qs : List Nat} {k : Nat} (h : Mth.has (Mth.addAll xs qs) k = true) : lateOf ls xs nx (qs ++ [k]) = lateOf ls xs nx qs := by
  unfold lateOf; rw [Mth.snoc_news, h]; simp
theorem lateOf_new {ls : List Int} {xs : List Nat} {nx : Int} {qs : List Nat} {k : Nat} (h : Mth.has (Mth.addAll xs qs) k = false) : lateOf ls xs nx (qs ++ [k]) = lateOf ls xs nx qs ++ if (k : Int) < nx then [(k : Int)] else [] := by
  unfold lateOf; rw [Mth.snoc_news, h]
  by_cases h2 : (k : Int) < nx <;> simp [h2]

theorem lateOf_snoc (ls : List Int) (xs : List Nat) (nx : Int) (qs : List Nat) (k : Nat) : lateOf ls xs nx (qs ++ [k]) = lateOf ls xs nx qs ++ if Mth.has xs k || decide (k ∈ qs) then [] else if (k : Int) < nx then [(k : Int)] else [] := by
  unfold lateOf; rw [Mth.news_snoc]
  cases Mth.has xs k || decide (k ∈ qs)
  · by_cases h2 : (k : Int) < nx <;> simp [h2]
  · simp

set_option maxHeartbeats 2000000 in
theorem intake_near (w : World) (a aL aK : Option Addr) (cap cL cK : Nat) (nx : Int) (xs ks : List Nat) (ls : List Int) (hl : xs.length ≤ 65536) (hll : ls.length ≤ 65536) (hm : ks.length ≤ 4096) (hx : Mth.W64 xs) (hs : Src cu w a xs) (hn : a = none → cap = 0)
    (hsL : Src ci w aL ls) (hnL : aL = none → cL = 0) (hsK : Src cn w aK ks) (hK : ∀ k ∈ ks, k ≤ 4194304) (hnx : -9223372036854775808 ≤ nx ∧ nx ≤ 9223372036854775807) :
    Calls Try.prog 5 #[.slice a xs.length cap, .int .i64 nx, .slice aL ls.length cL, .slice aK ks.length cK] w fun e w' => e = .returned (.bool true) ∧ Below w.heap.size w w' := by
  obtain ⟨hnx1, hnx2⟩ := hnx
  go_enter Try.func5, Try.ntmps5
  go_wp2_with fail
  refine (bytesI_any _ _ _ _ _ _ _ _ _ _ _ hl hll hm).mono ?_
  rintro e w' ⟨rfl, rfl⟩
  go_wp2
  go_loop [9] (fun i => ∃ k : Nat, k ≤ ks.length ∧ i = .int .i64 k) (fun i => ks.length - (intOf i).toNat)
  case atStart => exact ⟨0, Nat.zero_le _, rfl⟩
  case round =>
    obtain ⟨k, hk, rfl⟩ := hrel
    by_cases hlt : k < ks.length
    · obtain ⟨b, off, ha, hc⟩ := hsK k _ (List.getElem?_eq_getElem hlt)
      subst ha
      have c1 : w'.cell? ⟨b, off + k, none⟩ = some (.int .i64 (ks[k] : Int)) := hc
      have hy := hK _ (List.getElem_mem hlt)
      generalize ks[k] = y at c1 hy
      clear hc hsK hK hs hn hsL hnL
      go_wp2
      go_round
      case rel => exact ⟨k + 1, by omega, num_i64 (by omega)⟩
      case measure => simp [intOf]; omega
    · go_wp2_with fail
      refine (clone_any _ _ _ _ (by omega) hn hs).mono ?_
      rintro e w1 ⟨v1, rfl, ho1, hb1⟩
      obtain ⟨a1, c1, hv1, hs1, hn1⟩ := ho1.shape
      subst hv1
      have hsL1 := hsL.later hb1
      clear hs hn hsL
      go_wp2_with fail
      refine (cloneI_any _ _ _ _ (by omega) hnL hsL1).mono ?_
      rintro e w2 ⟨v2, rfl, ho2, hb2⟩
      obtain ⟨a2, c2, hv2, hs2, hn2⟩ := ho2.shape
      subst hv2
      have ho1b := ho1.below hb2 (Nat.le_refl _)
      have hs1b := hs1.later hb2
      have hb02 : Below w'.heap.size w' w2 := hb1.trans (hb2.mono hb1.size)
      clear ho1 hs1 hb1 hb2 hsL1 hnL
      go_wp2_with fail
      refine (clone_any _ _ _ _ (by omega) hn1 hs1b).mono ?_
      rintro e w3 ⟨v3, rfl, ho3, hb3⟩
      obtain ⟨a3, c3, hv3, hs3, hn3⟩ := ho3.shape
      subst hv3
      have hs1c := hs1b.later hb3
      have hs2c := hs2.later hb3
      have hb03 : Below w'.heap.size w' w3 := hb02.trans (hb3.mono hb02.size)
      clear ho1b hs1b hs2 hb3 hb02 ho2
      go_wp2_with fail
      refine (cloneI_any _ _ _ _ (by omega) hn2 hs2c).mono ?_
      rintro e w4 ⟨v4, rfl, ho4, hb4⟩
      obtain ⟨a4, c4, hv4, hs4, hn4⟩ := ho4.shape
      subst hv4
      have hs1d := hs1c.later hb4
      have hs2d := hs2c.later hb4
      have hs3d := hs3.later hb4
      have hb04 : Below w'.heap.size w' w4 := hb03.trans (hb4.mono hb03.size)
      clear hs1c hs2c hs3 ho3 hn3 hb4 hb03
      go_wp2_with fail
      refine (clone_any _ _ _ _ (by omega) hn1 hs1d).mono ?_
      rintro e w5 ⟨v5, rfl, ho5, hb5⟩
      have hs2e := hs2d.later hb5
      clear hs1d hs2d hn1
      go_wp2_with fail
      refine (cloneI_any _ _ _ _ (by omega) hn2 hs2e).mono ?_
      rintro e w6 ⟨v6, rfl, ho6, hb6⟩
      have ho5f := ho5.below hb6 (Nat.le_refl _)
      have ho6f := ho6.base_le hb5.size
      have hb46 : Below w4.heap.size w4 w6 := hb5.trans (hb6.mono hb5.size)
      clear hs2e hn2 ho5 ho6 hb5 hb6
      go_wp2_with fail
      go_loopw [12, 13, 14, 15] (fun h n l i wr => ∃ k : Nat, k ≤ ks.length ∧ i = .int .i64 k ∧ n = .int .i64 nx ∧ Own cu 27 wr w4.heap.size h (Mth.addAll xs (ks.take k)) ∧ Own ci 21 wr w4.heap.size l (lateOf ls xs nx (ks.take k)) ∧ Below w4.heap.size w4 wr) (fun _ _ _ i _ => ks.length - (intOf i).toNat)
      case atStart => exact ⟨0, Nat.zero_le _, rfl, rfl, ho5f, by unfold lateOf; rw [List.take_zero, Mth.news]; simpa using ho6f, hb46⟩
      case round =>
        obtain ⟨k, hk, rfl, rfl, hoH, hoL, hbel⟩ := hrel
        by_cases hlt2 : k < ks.length
        · obtain ⟨b, off, ha, hc⟩ := hsK k _ (List.getElem?_eq_getElem hlt2)
          subst ha
          have hbw : Below w'.heap.size w' wr := hb04.trans (hbel.mono hb04.size)
          have hblt := World.block_lt_of_cell? w' _ hc
          have cc : wr.cell? ⟨b, off + k, none⟩ = some (.int .i64 (ks[k] : Int)) := (hbw.cell (p := ⟨b, off + k, none⟩) hblt).trans hc
          have hy := hK _ (List.getElem_mem hlt2)
          have HT : Hid (ks.take (k + 1) = ks.take k ++ [ks[k]]) := Mth.take_snoc hlt2
          have hlen : (Mth.addAll xs (ks.take k)).length ≤ 65537 := by
            rw [Mth.addAll_length]
            exact Mth.lenAll_le (by omega) (fun q hq => by have := hK q (List.mem_of_mem_take hq); omega)
          have hLl : (lateOf ls xs nx (ks.take k)).length ≤ 69632 := by have := lateOf_le ls xs nx (ks.take k); simp at this; omega
          have hx' : Mth.W64 (Mth.addAll xs (ks.take k)) := Mth.addAll_W64 hx _
          have hA : Hid (Mth.addAll xs (ks.take (k + 1)) = Mth.addW (Mth.addAll xs (ks.take k)) ks[k]) := by rw [HT.out]; exact Mth.snoc_add _ _ _
          have hC1 : Hid (Mth.has (Mth.addAll xs (ks.take k)) ks[k] = true → lateOf ls xs nx (ks.take (k + 1)) = lateOf ls xs nx (ks.take k)) := by rw [HT.out]; exact lateOf_old
          have hC0 : Hid (Mth.has (Mth.addAll xs (ks.take k)) ks[k] = false → lateOf ls xs nx (ks.take (k + 1)) = lateOf ls xs nx (ks.take k) ++ if (ks[k] : Int) < nx then [(ks[k] : Int)] else []) := by rw [HT.out]; exact lateOf_new
          generalize hA2 : Mth.addAll xs (ks.take (k + 1)) = A2 at hA
          generalize hL2 : lateOf ls xs nx (ks.take (k + 1)) = L2 at hC1 hC0
          have HA2 : Hid (Mth.addAll xs (ks.take (k + 1)) = A2) := hA2
          have HL2 : Hid (lateOf ls xs nx (ks.take (k + 1)) = L2) := hL2
          generalize ks[k] = y at cc hy hA hC1 hC0 HT
          generalize Mth.addAll xs (ks.take k) = A at hoH hlen hx' hA hC1 hC0
          generalize lateOf ls xs nx (ks.take k) = L at hoL hLl hC1 hC0
          have hsz := hbel.size
          have hapart := hoH.neType hoL (by decide)
          clear hA2 hL2
          cases hh : Mth.has A y
          case true =>
            have HH := txAdd_at _ wr y w4.heap.size _ A hh (by omega) hy hx' hoH hsz
            have HL : Hid (L2 = L) := hC1.out hh
            clear hh HT hc hsK hK hx hx' ho5f ho6f hb46 ho4 hs4 hn4 hs3d hC1 hC0
            go_wp2_with fail
            refine HH.mono ?_
            rintro e w7 ⟨v7, rfl, ho7, hg7, hf7⟩
            have hb7 := hbel.trans (hoH.belowOf hsz hg7)
            have hoL7 := hoL.kept hg7 hapart
            rw [← hA.out, ← HA2.out] at ho7
            rw [← HL.out, ← HL2.out] at hoL7
            clear HH hg7 hf7 hoH hoL hbel hbw cc
            go_wp2
            go_roundw
            case rel => exact ⟨k + 1, by omega, num_i64 (by omega), rfl, ho7, hoL7, hb7⟩
            case measure => simp [intOf]; omega
          case false =>
            have HH := txAdd_at _ wr y w4.heap.size _ A hh (by omega) hy hx' hoH hsz
            have HL : Hid (L2 = L ++ if (y : Int) < nx then [(y : Int)] else []) := hC0.out hh
            clear hh HT hc hsK hK hx hx' ho5f ho6f hb46 ho4 hs4 hn4 hs3d hC1 hC0
            go_wp2_with fail
            refine HH.mono ?_
            rintro e w7 ⟨v7, rfl, ho7, hg7, hf7⟩
            have hb7 := hbel.trans (hoH.belowOf hsz hg7)
            have hoL7 := hoL.kept hg7 hapart
            have hcc7 : w7.cell? ⟨b, off + k, none⟩ = some (.int .i64 (y : Int)) := ((hoH.belowOf hsz hg7).cell (p := ⟨b, off + k, none⟩) (by have := hb04.size; show b < _; omega)).trans cc
            rw [← hA.out, ← HA2.out] at ho7
            have hsz7 := hb7.size
            have H8 := intake_any w7 y w4.heap.size nx _ L L2 HL (by omega) hy ⟨hnx1, hnx2⟩ hoL7 hsz7
            have hap7 := hoL7.neType ho7 (by decide)
            clear HH hg7 hf7 hoH hoL hbel hbw cc hapart
            go_wp2_with fail
            refine H8.mono ?_
            rintro e w8 ⟨v8, rfl, ho8, hg8, hf8⟩
            have hb8 := hb7.trans (hoL7.belowOf hsz7 hg8)
            have ho78 := ho7.kept hg8 hap7
            rw [← HL2.out] at ho8
            clear H8 hg8 hf8 hoL7 ho7 hb7 hcc7 hap7
            go_wp2
            go_roundw
            case rel => exact ⟨k + 1, by omega, num_i64 (by omega), rfl, ho78, ho8, hb8⟩
            case measure => simp [intOf]; omega
        · obtain ⟨wo, hwo⟩ : ∃ wo : World, wo = wr := ⟨_, rfl⟩
          subst hwo
          obtain rfl : k = ks.length := by omega
          rw [List.take_length] at hoL
          obtain ⟨i0, hi, hz0, hz1, hz2⟩ := info_parts Try.info21
          have hs4w := hs4.later hbel
          have hs3w := hs3d.later hbel
          have hb0w : Below w'.heap.size w' wo := hb04.trans (hbel.mono hb04.size)
          obtain ⟨aZ, cZ, hvZ, hsZ, _⟩ := hoL.shape
          subst hvZ
          have hZl : (lateOf ls xs nx ks).length ≤ 69632 := by have := lateOf_le ls xs nx ks; omega
          generalize hZ : lateOf ls xs nx ks = Z at hoL hsZ hZl ⊢
          have HZ : Hid (lateOf ls xs nx ks = Z) := hZ
          clear hZ hoH hbel ho5f ho6f hb46 ho4 hs4 hs3d hb04 hk hlt
          go_wp2_with fail
          refine (cloneI_any _ _ _ _ (by omega) hn4 hs4w).mono ?_
          rintro e w9 ⟨v9, rfl, ho9, hb9⟩
          clear hs4w hn4
          go_wp2_with fail
          go_loopw [17, 18] (fun v i wr => ∃ k : Nat, k ≤ ks.length ∧ i = .int .i64 k ∧ Own ci 21 wr wo.heap.size v (lateOf ls xs nx (ks.take k)) ∧ Below wo.heap.size wo wr) (fun _ i _ => ks.length - (intOf i).toNat)
          case atStart => exact ⟨0, Nat.zero_le _, rfl, by unfold lateOf; rw [List.take_zero, Mth.news]; simpa using ho9, hb9⟩
          case round =>
            obtain ⟨k, hk, rfl, hoW, hbel⟩ := hrel
            by_cases hlt : k < ks.length
            · obtain ⟨b, off, ha, hc⟩ := hsK k _ (List.getElem?_eq_getElem hlt)
              subst ha
              have hbw : Below w'.heap.size w' wr := hb0w.trans (hbel.mono hb0w.size)
              have hKw := hsK.later hbw
              have hcq : ∀ q (h : q < ks.length), wr.cell? ⟨b, off + q, none⟩ = some (.int .i64 (ks[q] : Int)) := by
                intro q h
                obtain ⟨b', off', e, hc'⟩ := hKw q _ (List.getElem?_eq_getElem h)
                cases e
                exact hc'
              have cc := hcq k hlt
              have hy := hK _ (List.getElem_mem hlt)
              have HT : ks.take (k + 1) = ks.take k ++ [ks[k]] := Mth.take_snoc hlt
              have HLs : Hid (lateOf ls xs nx (ks.take (k + 1)) = lateOf ls xs nx (ks.take k) ++ if Mth.has xs ks[k] || decide (ks[k] ∈ ks.take k) then [] else if (ks[k] : Int) < nx then [(ks[k] : Int)] else []) := by rw [HT]; exact lateOf_snoc _ _ _ _ _
              have hLl : (lateOf ls xs nx (ks.take k)).length ≤ 69632 := by have := lateOf_le ls xs nx (ks.take k); simp at this; omega
              generalize ks[k] = y at cc hy HT HLs
              generalize hL2 : lateOf ls xs nx (ks.take (k + 1)) = L2 at HLs
              generalize lateOf ls xs nx (ks.take k) = L at hoW hLl HLs
              have HL2 : Hid (lateOf ls xs nx (ks.take (k + 1)) = L2) := hL2
              have HK : Hid (∀ q (h : q < ks.length), wr.cell? ⟨b, off + q, none⟩ = some (.int .i64 (ks[q] : Int))) := hcq
              have HXs : Hid (Src cu wr a3 xs) := hs3w.later hbel
              have hsz := hbel.size
              clear hL2 HT hc hcq hKw hsK hK hs3w hoL hsZ ho9 hb9 hbw HZ
              by_cases g1 : nx ≤ (y : Int)
              · have HE : Hid (L2 = L) := by
                  have := HLs.out
                  rw [if_neg (show ¬ (y : Int) < nx by omega)] at this
                  show L2 = L
                  simpa using this
                clear HLs HXs HK
                go_wp2
                go_roundw
                case rel => exact ⟨k + 1, by omega, num_i64 (by omega), by rw [HL2.out, HE.out]; exact hoW, hbel⟩
                case measure => simp [intOf]; omega
              · cases hh : Mth.has xs y
                case true =>
                  have HB := bitOf_is true wr a3 c3 xs y hh (by omega) (by omega) hx HXs.out
                  have HE : Hid (L2 = L) := by have := HLs.out; rw [hh] at this; show L2 = L; simpa using this
                  clear HLs HXs HK hh
                  go_wp2_with fail
                  refine HB.mono ?_
                  rintro e w10 ⟨rfl, rfl⟩
                  clear HB
                  go_wp2
                  go_roundw
                  case rel => exact ⟨k + 1, by omega, num_i64 (by omega), by rw [HL2.out, HE.out]; exact hoW, hbel⟩
                  case measure => simp [intOf]; omega
                case false =>
                  have HB := bitOf_is false wr a3 c3 xs y hh (by omega) (by omega) hx HXs.out
                  rw [hh, Bool.false_or, if_pos (show (y : Int) < nx by omega)] at HLs
                  clear HXs hh
                  go_wp2_with fail
                  refine HB.mono ?_
                  rintro e w10 ⟨rfl, rfl⟩
                  clear HB
                  go_wp2
                  go_loop [20, 21] (fun sn j => ∃ q : Nat, q ≤ k ∧ sn = .bool false ∧ j = .int .i64 q ∧ Hid (y ∉ ks.take q)) (fun _ j => k - (intOf j).toNat)
                  case atStart => exact ⟨0, Nat.zero_le _, rfl, rfl, by show y ∉ ks.take 0; simp⟩
                  case round =>
                    obtain ⟨q, hq, rfl, rfl, HN⟩ := hrel
                    by_cases hqk : q < k
                    · have cq := HK.out q (by omega)
                      have HM : Hid (ks[q] ∈ ks.take k) := Mth.mem_take_of hqk hk
                      have HT : Hid (ks.take (q + 1) = ks.take q ++ [ks[q]]) := Mth.take_snoc (by omega)
                      generalize ks[q] = x at cq HM HT
                      by_cases hxy : x = y
                      · have hbe : ((x : Int) == (y : Int)) = true := by rw [hxy]; simp
                        have HE : Hid (L2 = L) := by have := HLs.out; rw [hxy] at HM; simp [HM.out] at this; exact this
                        clear hxy HM HT HN HLs
                        go_wp2
                        go_roundw
                        case rel => exact ⟨k + 1, by omega, num_i64 (by omega), by rw [HL2.out, HE.out]; exact hoW, hbel⟩
                        case measure => simp [intOf]; omega
                      · have hbe : ((x : Int) == (y : Int)) = false := by rw [beq_eq_false_iff_ne]; omega
                        have HN' : Hid (y ∉ ks.take (q + 1)) := by
                          show y ∉ ks.take (q + 1)
                          rw [HT.out]
                          intro hm'
                          rcases List.mem_append.1 hm' with hm' | hm'
                          · exact HN.out hm'
                          · simp at hm'; exact hxy hm'.symm
                        clear hxy HM HT HN
                        go_wp2
                        go_round
                        case rel => exact ⟨q + 1, by omega, rfl, num_i64 (by omega), HN'⟩
                        case measure => simp [intOf]; omega
                    · obtain rfl : q = k := by omega
                      have HE : Hid (L2 = L ++ [(y : Int)]) := by have := HLs.out; simp [HN.out] at this; exact this
                      clear HN HLs HK
                      go_wp2_with (first | (at_builtin; refine wpList_append_own2 _ rfl _ _ 33 rfl wo.heap.size 21 i0 (.int .i32 0) 1 4 Try.underlying33 hi hz0 hz1 hz2 rfl (by decide) _ _ _ rfl (World.ownsRow.alloc hoW _) ⟨w10.heap.size, 0, none⟩ 1 1 [.int .i32 (y : Int)] rfl rfl (by decide) ?c1 ?c2 ?c3 ?c4 ?c5 ?_))
                      case c2 => rfl
                      case c3 => unfold maxLen; omega
                      case c4 => omega
                      case c5 => omega
                      intro v2 w11 hown' hgrow hfresh
                      have hO : Own ci 21 w11 wo.heap.size v2 (L ++ [(y : Int)]) := by
                        unfold Own
                        rw [List.length_append, List.map_append]
                        exact hown'
                      have hb11 : Below wo.heap.size wo w11 := (hbel.alloc hsz _).grown hgrow (by simp; omega) (fun i hi => (World.ownsRow.lt hoW i hi).1)
                      rw [← HE.out, ← HL2.out] at hO
                      clear hown' hgrow hfresh hoW hbel HE HL2 cc
                      go_wp2
                      go_roundw
                      case rel => exact ⟨q + 1, by omega, num_i64 (by omega), hO, hb11⟩
                      case measure => simp [intOf]; omega
            · obtain rfl : k = ks.length := by omega
              rw [List.take_length, HZ.out] at hoW
              obtain ⟨aW, cW, hvW, hsW, _⟩ := hoW.shape
              subst hvW
              have hoLw := hoL.below hbel (Nat.le_refl _)
              obtain ⟨_, _, h1, hsZw, _⟩ := hoLw.shape
              simp only [Value.slice.injEq] at h1
              obtain ⟨rfl, _, rfl⟩ := h1
              have hB := hb0w.trans (hbel.mono hb0w.size)
              have HQ := equalI_any wr aZ aW cZ cW Z (by omega) hsZw hsW
              clear hoW hsW hoLw hsZw hoL hsZ hb0w hbel hs3w HZ hsK hK hx ho9 hb9
              go_wp2_with fail
              refine HQ.mono ?_
              rintro e w12 ⟨rfl, hS⟩
              go_wp2
              go_ret
              exact ⟨rfl, hB.trans (hS _)⟩
end Go.Proofs.Qxb6617085a
