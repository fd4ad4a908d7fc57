import Derived.Test.Qxb6616761aFmtWalkB
namespace Go.Proofs.Qxb6616761aFmt
open Go.RowKit Go.Extern.Stop Go.Stop Go.Extern

theorem cmp_txt {s d : ByteArray} {a : Int} (hs : s.data.toList = txt a) (hd : d.data.toList = Lib.itoa a) :
    (s.toList == ((⟨#[97, 114, 114, 97, 121, 115, 44, 32, 111, 98, 106, 101, 99, 116, 115, 32, 97, 110, 100, 32, 115, 101, 116, 115, 32, 110, 101, 115, 116, 32, 109, 111, 114, 101, 32, 116, 104, 97, 110, 32]⟩ : ByteArray) ++ d ++ (⟨#[32, 108, 101, 118, 101, 108, 115, 32, 100, 101, 101, 112]⟩ : ByteArray)).toList) = true := by
  rw [beq_iff_eq, ByteArray.toList_eq, ByteArray.toList_eq, hs, ByteArray.data_append, ByteArray.data_append, Array.toList_append, Array.toList_append, hd, txt, List.append_assoc]
  rfl
theorem txt_inj {a b : Int} (h : txt a = txt b) : a = b := by
  unfold txt at h
  have h1 := List.append_cancel_left h
  exact Num.itoa_inj (List.append_cancel_right h1)
theorem cmp_two {s t : ByteArray} {a b : Int} (hs : s.data.toList = txt a) (ht : t.data.toList = txt b) : (s.toList == t.toList) = (a == b) := by
  rw [Bool.eq_iff_iff, beq_iff_eq, beq_iff_eq, ByteArray.toList_eq, ByteArray.toList_eq, hs, ht]
  exact ⟨txt_inj, fun h => by rw [h]⟩

set_option maxHeartbeats 400000 in
theorem exact_law (F : Interp) (a b : Int) (w : World) (hF : F.told.answers w.tape) (ha : (Lit.int .i64 a).wf = true) (hb : (Lit.int .i64 b).wf = true) (ba : -9223372036854775808 ≤ a ∧ a ≤ 9223372036854775807) (bb : -9223372036854775808 ≤ b ∧ b ≤ 9223372036854775807) :
    Calls Tryf.prog 3 #[.int .i64 a, .int .i64 b] w fun e w' => e = .returned (.bool true) ∧ Below w.heap.size w w' := by
  have H1 := zzTooDeep F a w hF ha
  have HB : Hid ((Lit.int .i64 b).wf = true) := hb
  have HFH : Hid (F.told.answers w.tape) := hF
  clear ha hb hF
  go_enter Tryf.func3, Tryf.ntmps3
  go_wp2_with fail
  refine H1.mono ?_
  rintro e w1 ⟨sa, rfl, hsa, hb1⟩
  have H2 := zzTooDeep F b w1 (by rw [hb1.tape]; exact HFH.out) HB.out
  have HSA : Hid (sa.data.toList = txt a) := hsa
  clear H1 hsa
  go_wp2_with fail
  refine H2.mono ?_
  rintro e w2 ⟨sb, rfl, hsb, hb2⟩
  have HSB : Hid (sb.data.toList = txt b) := hsb
  clear H2 hsb
  go_wp2_with fail
  refine (dec_any a w2 ba).mono ?_
  rintro e w3 ⟨da, rfl, hda, hdz, hb3⟩
  have hc1 := cmp_txt HSA.out hda
  clear hda
  go_wp2_with fail
  refine (dec_any b w3 bb).mono ?_
  rintro e w4 ⟨db, rfl, hdb, hdz2, hb4⟩
  have hc2 := cmp_txt HSB.out hdb
  have hc3 := cmp_two HSA.out HSB.out
  have hbel := ((hb1.trans (hb2.mono hb1.size)).trans (hb3.mono (by have := hb1.size; have := hb2.size; omega))).trans (hb4.mono (by have := hb1.size; have := hb2.size; have := hb3.size; omega))
  clear hdb hb1 hb2 hb3 hb4
  go_wp2
  go_ret
  exact ⟨rfl, hbel⟩
end Go.Proofs.Qxb6616761aFmt
