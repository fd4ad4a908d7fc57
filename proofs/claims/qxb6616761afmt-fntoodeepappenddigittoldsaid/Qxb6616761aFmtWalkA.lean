import Derived.Test.Qxb6616761aFmtProg
import Derived.WalkKit
import Derived.WalkSpells
import Derived.WalkLawsBesides
import Derived.Stop.CallBack
import Derived.Stop.IfaceNil
import Derived.Stop.Texts
import Derived.Stop.Told
import Derived.Stop.FmtTextKit
import Derived.Lib.ItoaNum
namespace Go.Proofs.Qxb6616761aFmt
open Go.RowKit Go.Extern.Stop Go.Stop Go.Extern

theorem call10 (args : Array Value) (w : World) : (callFunc 10 args).run Tryf.prog w = ((FmtStop.sprintf #[9, 48] #[9] args).run Tryf.prog w).andThen fun v w' => .ok (.value v) w' :=
  run_callFunc_extern Tryf.func10 (by kernel_rfl) (by kernel_rfl) (by kernel_rfl) (by kernel_rfl) args w
theorem guardF (name : String) (w : World) : (FmtStop.guard name).run Tryf.prog w = .ok () w := by kernel_rfl
/-- the format's bytes -/
abbrev fmtB : List UInt8 := [97, 114, 114, 97, 121, 115, 44, 32, 111, 98, 106, 101, 99, 116, 115, 32, 97, 110, 100, 32, 115, 101, 116, 115, 32, 110, 101, 115, 116, 32, 109, 111, 114, 101, 32, 116, 104, 97, 110, 32, 37, 100, 32, 108, 101, 118, 101, 108, 115, 32, 100, 101, 101, 112]
theorem fmt0 : FmtStop.printed? ⟨#[97, 114, 114, 97, 121, 115, 44, 32, 111, 98, 106, 101, 99, 116, 115, 32, 97, 110, 100, 32, 115, 101, 116, 115, 32, 110, 101, 115, 116, 32, 109, 111, 114, 101, 32, 116, 104, 97, 110, 32, 37, 100, 32, 108, 101, 118, 101, 108, 115, 32, 100, 101, 101, 112]⟩ 1 = some [(0, 100, false)] := by kernel_rfl
theorem fmt0r (w : World) : (FmtDoors.printed ⟨#[97, 114, 114, 97, 121, 115, 44, 32, 111, 98, 106, 101, 99, 116, 115, 32, 97, 110, 100, 32, 115, 101, 116, 115, 32, 110, 101, 115, 116, 32, 109, 111, 114, 101, 32, 116, 104, 97, 110, 32, 37, 100, 32, 108, 101, 118, 101, 108, 115, 32, 100, 101, 101, 112]⟩ 1).run Tryf.prog w = .ok [(0, 100, false)] w := by kernel_rfl
def shape3 : List UInt8 := [5, 3, 0, 0, 0, 0, 0, 0, 0, 105, 110, 116]
theorem op3 (name : String) (x : Int) (w : World) : (FmtStop.operand name false 100 false (.iface 3 (.int .i64 x))).run Tryf.prog w = .ok (shape3, Go.Extern.Stop.digits 8 (x % 2 ^ 64).toNat) w := by kernel_rfl
/-- what fmt is asked -/
def reading (n : Int) : List (List UInt8) := [fmtB, shape3, digits 8 (n % 18446744073709551616).toNat]

set_option maxHeartbeats 400000 in
theorem tooDeep_all (F : Interp) (n : Int) (w : World) (hF : F.answers w.tape) :
    Calls Tryf.prog 9 #[.int .i64 n] w fun e w' => e = .returned (.string (FmtStop.textOf (F "fmt.Sprintf" (reading n) 0))) ∧ Below w.heap.size w w' := by
  have hF' := answers_open hF
  have h1 := call10
  have h2 := guardF
  have h3 := fmt0
  have h4 := fmt0r
  have h5 := op3
  go_enter Tryf.func9, Tryf.ntmps9
  go_wp2
  go_ret
  exact ⟨rfl, ((Below.refl _ _).alloc (Nat.le_refl _) _).drew⟩

/-! ### the text -/
theorem t_parse : (FmtText.parse fmtB).map FmtText.glue = some [.lit [97, 114, 114, 97, 121, 115, 44, 32, 111, 98, 106, 101, 99, 116, 115, 32, 97, 110, 100, 32, 115, 101, 116, 115, 32, 110, 101, 115, 116, 32, 109, 111, 114, 101, 32, 116, 104, 97, 110, 32], .verb {} 100, .lit [32, 108, 101, 118, 101, 108, 115, 32, 100, 101, 101, 112]] := by rfl
def preB : List UInt8 := [97, 114, 114, 97, 121, 115, 44, 32, 111, 98, 106, 101, 99, 116, 115, 32, 97, 110, 100, 32, 115, 101, 116, 115, 32, 110, 101, 115, 116, 32, 109, 111, 114, 101, 32, 116, 104, 97, 110, 32]
def sufB : List UInt8 := [32, 108, 101, 118, 101, 108, 115, 32, 100, 101, 101, 112]
/-- the complaint's bytes -/
def txt (n : Int) : List UInt8 := preB ++ (Lib.itoa n ++ sufB)
theorem t_text (n : Int) (hw : (Lit.int .i64 n).wf = true) : FmtText.text "fmt.Sprintf" (reading n) = some (txt n) := by
  have hi := FmtText.operand_int_at (sh := shape3) (k := .i64) rfl rfl n hw
  rw [reading, FmtText.text_sprintf_glued t_parse (FmtText.operands_cons hi FmtText.operands_nil)]
  simp [FmtText.render, FmtText.printArg_d _ _ hw, txt, preB, sufB]
theorem txt_len (n : Int) (hw : (Lit.int .i64 n).wf = true) : (txt n).length ≤ 73 := by
  have := FmtText.itoa_length_le hw
  simp [txt, preB, sufB]; omega
/-- tooDeep's text, told -/
theorem told_list (F : Interp) (n : Int) (hw : (Lit.int .i64 n).wf = true) : (FmtStop.textOf (F.told "fmt.Sprintf" (reading n) 0)).data.toList = txt n := by
  rw [Kit.textOf_list]
  exact told_string F (t_text n hw) (by have := txt_len n hw; omega)
set_option maxHeartbeats 400000 in
/-- ZZtooDeep hands back the complaint -/
theorem zzTooDeep (F : Interp) (n : Int) (w : World) (hF : F.told.answers w.tape) (hw : (Lit.int .i64 n).wf = true) :
    Calls Tryf.prog 5 #[.int .i64 n] w fun e w' => ∃ s : ByteArray, e = .returned (.string s) ∧ s.data.toList = txt n ∧ Below w.heap.size w w' := by
  have H := tooDeep_all F.told n w hF
  have HT : Hid ((FmtStop.textOf (F.told "fmt.Sprintf" (reading n) 0)).data.toList = txt n) := told_list F n hw
  generalize FmtStop.textOf (F.told "fmt.Sprintf" (reading n) 0) = s at H HT
  clear hF
  go_enter Tryf.func5, Tryf.ntmps5
  go_wp2_with fail
  refine H.mono ?_
  rintro e w1 ⟨rfl, hb⟩
  clear H
  go_wp2
  go_ret
  exact ⟨s, rfl, HT.out, hb⟩
end Go.Proofs.Qxb6616761aFmt
