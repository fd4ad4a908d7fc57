/-
  No cell of these rows narrows 'for every input' (looked for: loops, veiled, ifaces, maps, wideKeys, modest, calm, conditions, laid).
  DERIVED. THE GIVEN ROWS OF THIS SEAT. 3 by the template 'for every input the law returns true; each argument reads behind the call as it read before'; 0 by the template 'total and deterministic' (their statements: Qxb6617085aTotals.lean).
  GIVEN WITH THE SEED: the statements are not yours to turn. If you find one false, say at which input.
  Laid BY PROGRAM, IN A SANDBOX (cutbox-rows.mjs): the forced cells as the released guide's own fill.sh prints them over the translation acad56e02e7a3b48… (all of the seat's roots in one cut). By AI agents, Wed Nov 11 2026. No macro, syntax, notation, axiom, sorry.
-/
import Derived.Test.Qxb6617085aChecked
import GoSem.Claim
import GoSem.ClaimJoined
import GoSem.ClaimMapViews
import Derived.JoinedTies
import Derived.KernelRfl
namespace Go.Proofs.Qxb6617085a
/- THE CELL 'sum', in the pinned program and in every row, IS THE sha256 OF THE DUMP (.gsa) THAT Qxb6617085aProg.lean LOADS. Nothing in Lean hashes anything: it is a label: what it is worth is what the hold of that sum in a sandbox is worth. -/
noncomputable def Try.pinned : Pinned := { name := "qxb6617085a", sum := "acad56e02e7a3b48879f5675a775d787018184882cc5b54433bc90ef0622ec5b", checked := Try.checked }
namespace Rows
def none {H : Type} : Left H := { results := [], args := [] }

/-- 'zzlaws_internal_sim_b1.FnTxSetAddExact': WHATEVER THE INPUT: true; the input reads as it did. -/
def fnTxSetAddExactSpec : ChangeSpec := { name := "fnTxSetAddExact", fn := fun _ => fun
  | [d1, d2] => { results := [.lit (.bool true)], args := [d1, d2] }
  | _ => none }
def fnTxSetAddExactRow : OpenClaim := { program := "qxb6617085a", sum := "acad56e02e7a3b48879f5675a775d787018184882cc5b54433bc90ef0622ec5b", func := "example.com/spanwell/spanwell/zzlaws_internal_sim_b1.FnTxSetAddExact", spec := "fnTxSetAddExact", apart := false }
def FnTxSetAddExactSaid : Prop := fnTxSetAddExactRow.holds Try.pinned (OpenSpec.ofChange fnTxSetAddExactSpec)

/-- ITS FALSE NEIGHBOUR: 'it returns false'. Refute it at one input. -/
def fnTxSetAddExactWrong : ChangeSpec := { name := "fnTxSetAddExact", fn := fun _ => fun
  | [d1, d2] => { results := [.lit (.bool false)], args := [d1, d2] }
  | _ => none }
def FnTxSetAddExactWrongFalsely : Prop := fnTxSetAddExactRow.holds Try.pinned (OpenSpec.ofChange fnTxSetAddExactWrong)

/-- 'zzlaws_internal_sim_b1.FnTxSetAddOrderFree': WHATEVER THE INPUT: true; the input reads as it did. -/
def fnTxSetAddOrderFreeSpec : ChangeSpec := { name := "fnTxSetAddOrderFree", fn := fun _ => fun
  | [d1, d2] => { results := [.lit (.bool true)], args := [d1, d2] }
  | _ => none }
def fnTxSetAddOrderFreeRow : OpenClaim := { program := "qxb6617085a", sum := "acad56e02e7a3b48879f5675a775d787018184882cc5b54433bc90ef0622ec5b", func := "example.com/spanwell/spanwell/zzlaws_internal_sim_b1.FnTxSetAddOrderFree", spec := "fnTxSetAddOrderFree", apart := false }
def FnTxSetAddOrderFreeSaid : Prop := fnTxSetAddOrderFreeRow.holds Try.pinned (OpenSpec.ofChange fnTxSetAddOrderFreeSpec)

/-- ITS FALSE NEIGHBOUR: 'it returns false'. Refute it at one input. -/
def fnTxSetAddOrderFreeWrong : ChangeSpec := { name := "fnTxSetAddOrderFree", fn := fun _ => fun
  | [d1, d2] => { results := [.lit (.bool false)], args := [d1, d2] }
  | _ => none }
def FnTxSetAddOrderFreeWrongFalsely : Prop := fnTxSetAddOrderFreeRow.holds Try.pinned (OpenSpec.ofChange fnTxSetAddOrderFreeWrong)

/-- 'zzlaws_internal_sim_b1.FnIntakeTakeAfterTxSetAdd': WHATEVER THE INPUT: true; the input reads as it did. -/
def fnIntakeTakeAfterTxSetAddSpec : ChangeSpec := { name := "fnIntakeTakeAfterTxSetAdd", fn := fun _ => fun
  | [d1, d2, d3, d4] => { results := [.lit (.bool true)], args := [d1, d2, d3, d4] }
  | _ => none }
def fnIntakeTakeAfterTxSetAddRow : OpenClaim := { program := "qxb6617085a", sum := "acad56e02e7a3b48879f5675a775d787018184882cc5b54433bc90ef0622ec5b", func := "example.com/spanwell/spanwell/zzlaws_internal_sim_b1.FnIntakeTakeAfterTxSetAdd", spec := "fnIntakeTakeAfterTxSetAdd", apart := false }
def FnIntakeTakeAfterTxSetAddSaid : Prop := fnIntakeTakeAfterTxSetAddRow.holds Try.pinned (OpenSpec.ofChange fnIntakeTakeAfterTxSetAddSpec)

/-- ITS FALSE NEIGHBOUR: 'it returns false'. Refute it at one input. -/
def fnIntakeTakeAfterTxSetAddWrong : ChangeSpec := { name := "fnIntakeTakeAfterTxSetAdd", fn := fun _ => fun
  | [d1, d2, d3, d4] => { results := [.lit (.bool false)], args := [d1, d2, d3, d4] }
  | _ => none }
def FnIntakeTakeAfterTxSetAddWrongFalsely : Prop := fnIntakeTakeAfterTxSetAddRow.holds Try.pinned (OpenSpec.ofChange fnIntakeTakeAfterTxSetAddWrong)

end Rows
end Go.Proofs.Qxb6617085a
