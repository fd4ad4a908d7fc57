/-
  A slice of ints that came in: its numbers, and, where all lie from 0 to 1<<22, the natural ones.
-/
import Derived.Test.Qxb6617085aArgs
import Derived.Test.Qxb6617085aWalkG
namespace Go.Proofs.Qxb6617085a
open Go.RowKit

theorem row_i64 {w : World} {a : Option Addr} {len cap : Nat} {zs : List Int}
    (h : (a = none ∧ len = 0 ∧ cap = 0 ∧ zs = []) ∨
      ∃ x, a = some x ∧ len ≤ cap ∧ cap ≤ maxLen ∧ zs.length = cap ∧ (∀ i, i < zs.length → w.cell? (x.add i) = some (.int .i64 (zs.getD i 0))) ∧ ∀ n ∈ zs, (Lit.int .i64 n).wf = true) :
    ∃ ys : List Int, ys.length = len ∧ Src ck w a ys ∧ (a = none → cap = 0) ∧ len ≤ 9223372036854775807 ∧ ∀ z ∈ ys, -9223372036854775808 ≤ z ∧ z ≤ 9223372036854775807 := by
  obtain ⟨h1, h2, h3, h4, h5⟩ := row_src h
  exact ⟨zs.take len, h1, h2, h3, h4, fun z hz => bounds_i64 (h5 z hz)⟩
theorem nats_of {w : World} {a : Option Addr} {ys : List Int} (hs : Src ck w a ys) (hb : ∀ z ∈ ys, 0 ≤ z ∧ z ≤ 4194304) :
    ∃ ks : List Nat, ks.length = ys.length ∧ Src cn w a ks ∧ ∀ k ∈ ks, k ≤ 4194304 := by
  refine ⟨ys.map Int.toNat, by simp, ?_, ?_⟩
  · intro i x hx
    rw [List.getElem?_map] at hx
    cases hz : ys[i]? with
    | none => rw [hz] at hx; simp at hx
    | some z =>
      rw [hz] at hx
      simp only [Option.map_some, Option.some.injEq] at hx
      obtain ⟨b, off, ha, hc⟩ := hs i z hz
      refine ⟨b, off, ha, hc.trans ?_⟩
      have := hb z (List.mem_of_getElem? hz)
      unfold ck cn
      rw [← hx, Int.toNat_of_nonneg this.1]
  · intro k hk
    obtain ⟨z, hz, rfl⟩ := List.mem_map.1 hk
    have := hb z hz
    omega
end Go.Proofs.Qxb6617085a
