/-
  No cell of these rows narrows 'for every input' (looked for: loops, veiled, ifaces, maps, wideKeys, modest, calm, conditions, laid).
  DERIVED. THE GIVEN ROWS OF THIS SEAT. 2 by the template 'for every input the law returns true; each argument reads behind the call as it read before'; 0 by the template 'total and deterministic' (their statements: Qxb6616761aFmtTotals.lean).
  GIVEN WITH THE SEED: the statements are not yours to turn. If you find one false, say at which input.
  Laid BY PROGRAM, IN A SANDBOX (cutbox-rows.mjs): the forced cells as the released guide's own fill.sh prints them over the translation 6a47cdf4a70496c4… (all of the seat's roots in one cut). By AI agents, Wed Nov 11 2026. No macro, syntax, notation, axiom, sorry.
-/
import Derived.Test.Qxb6616761aFmtChecked
import GoSem.Claim
import GoSem.ClaimJoined
import GoSem.ClaimMapViews
import Derived.JoinedTies
import Derived.KernelRfl
namespace Go.Proofs.Qxb6616761aFmt
/- THE CELL 'sum', in the pinned program and in every row, IS THE sha256 OF THE DUMP (.gsa) THAT Qxb6616761aFmtProg.lean LOADS. Nothing in Lean hashes anything: it is a label: what it is worth is what the hold of that sum in a sandbox is worth. -/
noncomputable def Tryf.pinned : Pinned := { name := "qxb6616761afmt", sum := "6a47cdf4a70496c41fd47a48f537956c553288cce443f6e1da50d268139c7416", checked := Tryf.checked }
namespace Rows
def none {H : Type} : Left H := { results := [], args := [] }

/-- 'zzlaws_root_b1.FnTooDeepExactAndInjective': WHATEVER THE INPUT: true; the input reads as it did. -/
def fnTooDeepExactAndInjectiveSpec : ChangeSpec := { name := "fnTooDeepExactAndInjective", fn := fun _ => fun
  | [d1, d2] => { results := [.lit (.bool true)], args := [d1, d2] }
  | _ => none }
def fnTooDeepExactAndInjectiveRow : OpenClaim := { program := "qxb6616761afmt", sum := "6a47cdf4a70496c41fd47a48f537956c553288cce443f6e1da50d268139c7416", func := "example.com/json-object-ops/json-object-ops/zzlaws_root_b1.FnTooDeepExactAndInjective", spec := "fnTooDeepExactAndInjective", stops := ["fmt.Sprintf"], inPlace := ["fmt.Sprintf"], apart := false }
/-- NO THEOREM (fmt's text is open here; it may be false): for the released tool's asking of the row's closed facts alone. THE STATEMENT IS 'FnTooDeepExactAndInjectiveToldSaid' (Qxb6616761aFmtCards.lean). -/
def FnTooDeepExactAndInjectiveFormAsk : Prop := fnTooDeepExactAndInjectiveRow.holds Tryf.pinned (OpenSpec.ofChange fnTooDeepExactAndInjectiveSpec)

/-- ITS FALSE NEIGHBOUR: 'it returns false'. Refute it at one input. -/
def fnTooDeepExactAndInjectiveWrong : ChangeSpec := { name := "fnTooDeepExactAndInjective", fn := fun _ => fun
  | [d1, d2] => { results := [.lit (.bool false)], args := [d1, d2] }
  | _ => none }
def FnTooDeepExactAndInjectiveWrongFormAsk : Prop := fnTooDeepExactAndInjectiveRow.holds Tryf.pinned (OpenSpec.ofChange fnTooDeepExactAndInjectiveWrong)

/-- 'zzlaws_root_b1.FnTooDeepAppendDigit': WHATEVER THE INPUT: true; the input reads as it did. -/
def fnTooDeepAppendDigitSpec : ChangeSpec := { name := "fnTooDeepAppendDigit", fn := fun _ => fun
  | [d1, d2] => { results := [.lit (.bool true)], args := [d1, d2] }
  | _ => none }
def fnTooDeepAppendDigitRow : OpenClaim := { program := "qxb6616761afmt", sum := "6a47cdf4a70496c41fd47a48f537956c553288cce443f6e1da50d268139c7416", func := "example.com/json-object-ops/json-object-ops/zzlaws_root_b1.FnTooDeepAppendDigit", spec := "fnTooDeepAppendDigit", stops := ["fmt.Sprintf"], inPlace := ["fmt.Sprintf"], apart := false }
/-- NO THEOREM (fmt's text is open here; it may be false): for the released tool's asking of the row's closed facts alone. THE STATEMENT IS 'FnTooDeepAppendDigitToldSaid' (Qxb6616761aFmtCards.lean). -/
def FnTooDeepAppendDigitFormAsk : Prop := fnTooDeepAppendDigitRow.holds Tryf.pinned (OpenSpec.ofChange fnTooDeepAppendDigitSpec)

/-- ITS FALSE NEIGHBOUR: 'it returns false'. Refute it at one input. -/
def fnTooDeepAppendDigitWrong : ChangeSpec := { name := "fnTooDeepAppendDigit", fn := fun _ => fun
  | [d1, d2] => { results := [.lit (.bool false)], args := [d1, d2] }
  | _ => none }
def FnTooDeepAppendDigitWrongFormAsk : Prop := fnTooDeepAppendDigitRow.holds Tryf.pinned (OpenSpec.ofChange fnTooDeepAppendDigitWrong)

end Rows
end Go.Proofs.Qxb6616761aFmt
