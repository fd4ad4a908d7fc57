/-
  FROM THE ROW's OWN WORDS ON A SLICE OF INTEGERS THAT CAME IN to what the walks ask.
-/
import Derived.Test.Qxb6617085aBase
import Derived.OpenShut
namespace Go.Proofs.Qxb6617085a
open Go.RowKit

theorem row_src {k : IntKind} {w : World} {a : Option Addr} {len cap : Nat} {zs : List Int}
    (h : (a = none ∧ len = 0 ∧ cap = 0 ∧ zs = []) ∨
      ∃ x, a = some x ∧ len ≤ cap ∧ cap ≤ maxLen ∧ zs.length = cap ∧ (∀ i, i < zs.length → w.cell? (x.add i) = some (.int k (zs.getD i 0))) ∧ ∀ n ∈ zs, (Lit.int k n).wf = true) :
    (zs.take len).length = len ∧ Src (fun z => Value.int k z) w a (zs.take len) ∧ (a = none → cap = 0) ∧ len ≤ 9223372036854775807 ∧ ∀ n ∈ zs.take len, (Lit.int k n).wf = true := by
  rcases h with ⟨rfl, rfl, rfl, rfl⟩ | ⟨x, rfl, hl, hm, hz, hc, hwf⟩
  · exact ⟨rfl, fun i x hx => by simp at hx, fun _ => rfl, by decide, fun n hn => by simp at hn⟩
  · refine ⟨by simp; omega, ?_, fun e => (by cases e), by unfold maxLen at hm; omega, fun n hn => hwf n (List.mem_of_mem_take hn)⟩
    intro i z hi
    obtain ⟨hil, hie⟩ := List.getElem?_eq_some_iff.1 hi
    have hil' : i < zs.length := by simp at hil; omega
    obtain ⟨b, off, rfl, hcc⟩ := ints_at hc (by omega)
    refine ⟨b, off, rfl, ?_⟩
    rw [hcc i hil', ← hie, List.getElem_take, List.getD, List.getElem?_eq_getElem hil']
    rfl
theorem row_u64 {w : World} {a : Option Addr} {len cap : Nat} {zs : List Int}
    (h : (a = none ∧ len = 0 ∧ cap = 0 ∧ zs = []) ∨
      ∃ x, a = some x ∧ len ≤ cap ∧ cap ≤ maxLen ∧ zs.length = cap ∧ (∀ i, i < zs.length → w.cell? (x.add i) = some (.int .u64 (zs.getD i 0))) ∧ ∀ n ∈ zs, (Lit.int .u64 n).wf = true) :
    ∃ xs : List Nat, xs.length = len ∧ Mth.W64 xs ∧ Src cu w a xs ∧ (a = none → cap = 0) ∧ len ≤ 9223372036854775807 := by
  obtain ⟨h1, h2, h3, h4, h5⟩ := row_src h
  refine ⟨(zs.take len).map Int.toNat, by rw [List.length_map]; exact h1, ?_, ?_, h3, h4⟩
  · intro x hx
    obtain ⟨z, hz, rfl⟩ := List.mem_map.1 hx
    have := bounds_u64 (h5 z hz)
    omega
  · intro i x hx
    rw [List.getElem?_map] at hx
    cases hz : (zs.take len)[i]? with
    | none => rw [hz] at hx; simp at hx
    | some z =>
      rw [hz] at hx
      simp only [Option.map_some, Option.some.injEq] at hx
      obtain ⟨b, off, ha, hc⟩ := h2 i z hz
      refine ⟨b, off, ha, hc.trans ?_⟩
      have := bounds_u64 (h5 z (List.mem_of_getElem? hz))
      unfold cu
      rw [← hx, Int.toNat_of_nonneg this.1]
end Go.Proofs.Qxb6617085a
