/-
  THE GROUND OF THE WALKS of this seat: what a slice that is read, and one that the call owns, says of the world; the laws on bits in the walk's own spelling.
-/
import Derived.Test.Qxb6617085aProg
import Derived.Test.Qxb6617085aMath
import Derived.WalkKit
import Derived.WalkSpells
import Derived.WalkLawsBesides
namespace Go.Proofs.Qxb6617085a
open Go.RowKit

theorem Try.info27 : (Try.prog.info? 27).map (fun i => (i.zero, i.size, i.bytes)) = some (some (.int .u64 0), 1, 8) := by kernel_rfl
theorem Try.info21 : (Try.prog.info? 21).map (fun i => (i.zero, i.size, i.bytes)) = some (some (.int .i32 0), 1, 4) := by kernel_rfl

/-- a word's cell -/
def cu (x : Nat) : Value := .int .u64 (x : Int)
/-- an int32's cell -/
def ci (x : Int) : Value := .int .i32 x

/-- A SLICE THAT IS READ: where there is an element, the slice leads to a plain address, and the element's cell lies there. -/
def Src {α : Type} (f : α → Value) (w : World) (a : Option Addr) (xs : List α) : Prop :=
  ∀ i x, xs[i]? = some x → ∃ b off, a = some ⟨b, off, none⟩ ∧ w.cell? ⟨b, off + i, none⟩ = some (f x)

theorem Src.nil {α : Type} {f : α → Value} {w : World} {xs : List α} (h : Src f w none xs) : xs = [] := by
  cases xs with
  | nil => rfl
  | cons x xs => obtain ⟨b, off, e, _⟩ := h 0 x rfl; cases e

theorem Src.split {α : Type} {f : α → Value} {w : World} {a : Option Addr} {xs : List α} (h : Src f w a xs) (h0 : 0 < xs.length) :
    ∃ b off, a = some ⟨b, off, none⟩ ∧ ∀ i x, xs[i]? = some x → w.cell? ⟨b, off + i, none⟩ = some (f x) := by
  obtain ⟨b, off, rfl, _⟩ := h 0 xs[0] (List.getElem?_eq_getElem h0)
  refine ⟨b, off, rfl, fun i x hx => ?_⟩
  obtain ⟨b', off', e, hc⟩ := h i x hx
  cases e
  exact hc

theorem Src.below {α : Type} {f : α → Value} {w w' : World} {a : Option Addr} {xs : List α} {B : Nat} (h : Src f w a xs) (hb : Below B w w') (hB : ∀ x, a = some x → x.block < B) : Src f w' a xs := by
  intro i x hx
  obtain ⟨b, off, rfl, hc⟩ := h i x hx
  exact ⟨b, off, rfl, (hb.cell (p := ⟨b, off + i, none⟩) (hB ⟨b, off, none⟩ rfl)).trans hc⟩

/-- A SLICE OF THE CALL's OWN, its elements written out -/
def Own {α : Type} (f : α → Value) (e : TypeId) (w : World) (base : Nat) (v : Value) (xs : List α) : Prop := w.ownsRow base e 1 v xs.length (xs.map f)

theorem Own.shape {α : Type} {f : α → Value} {e : TypeId} {w : World} {base : Nat} {v : Value} {xs : List α} (h : Own f e w base v xs) :
    ∃ a cap, v = .slice a xs.length cap ∧ Src f w a xs ∧ (a = none → cap = 0) := by
  rcases h.2 with ⟨rfl, h0⟩ | ⟨g, cap, cur, rfl, hb, hg, rest⟩
  · obtain rfl : xs = [] := List.eq_nil_of_length_eq_zero h0
    exact ⟨none, 0, rfl, fun i x hx => by simp at hx, fun _ => rfl⟩
  · refine ⟨some ⟨g, 0, none⟩, cap, rfl, fun i x hx => ⟨g, 0, rfl, ?_⟩, fun hx => by cases hx⟩
    obtain ⟨hi, _⟩ := List.getElem?_eq_some_iff.1 hx
    have := World.ownsRow.cellAt h i (by simpa using hi)
    rw [Nat.zero_add, this, List.getElem?_map, hx]
    rfl

theorem Own.base_le {α : Type} {f : α → Value} {e : TypeId} {w : World} {base base' : Nat} {v : Value} {xs : List α} (h : Own f e w base v xs) (hb : base' ≤ base) : Own f e w base' v xs := by
  refine ⟨h.1, ?_⟩
  rcases h.2 with h' | ⟨g, cap, cur, hv, hg, rest⟩
  · exact .inl h'
  · exact .inr ⟨g, cap, cur, hv, Nat.le_trans hb hg, rest⟩

/-- what is owned stays owned where its own block is not written -/
theorem Own.kept {α : Type} {f : α → Value} {e : TypeId} {w w' : World} {base : Nat} {v : Value} {xs : List α} {row : Option Nat} (h : Own f e w base v xs) (hg : w.grownBy w' row) (hne : v.ownBlock = none ∨ v.ownBlock ≠ row) : Own f e w' base v xs :=
  World.ownsRow.kept h hg hne

theorem Own.below {α : Type} {f : α → Value} {e : TypeId} {w w' : World} {base B : Nat} {v : Value} {xs : List α} (h : Own f e w base v xs) (hb : Below B w w') (hB : w.heap.size ≤ B) : Own f e w' base v xs := by
  refine ⟨h.1, ?_⟩
  rcases h.2 with h' | ⟨g, cap, cur, hv, hg, hh, rest⟩
  · exact .inl h'
  · refine .inr ⟨g, cap, cur, hv, hg, ?_, rest⟩
    rw [hb.block g (by have := lt_of_block hh; omega)]
    exact hh

theorem grownBy_refl (w : World) (r : Option Nat) : w.grownBy w r := ⟨rfl, rfl, rfl, Nat.le_refl _, fun _ _ _ => rfl⟩
theorem grownBy_drewN (w : World) (r : Option Nat) (n : Nat) : w.grownBy (w.drewN n) r := ⟨rfl, rfl, rfl, Nat.le_refl _, fun _ _ _ => rfl⟩
/-- two steps: what the second writes is the first's row, or newer than the first world -/
theorem grownBy_trans {a b c : World} {r s : Option Nat} (h : a.grownBy b r) (k : b.grownBy c s) (hs : ∀ i, s = some i → i < a.heap.size → r = some i) : a.grownBy c r :=
  ⟨k.os.trans h.os, k.tape.trans h.tape, k.output.trans h.output, Nat.le_trans h.size k.size, fun i hi hr =>
    (k.block i (Nat.lt_of_lt_of_le hi h.size) (fun e => hr (hs i e.symm hi).symm)).trans (h.block i hi hr)⟩
theorem grownBy_setCell (w : World) (ad : Addr) (u : Value) : w.grownBy (w.setCell ad u) (some ad.block) :=
  ⟨rfl, rfl, rfl, by simp [World.setCell], fun k _ hk => Below.heap_setCell _ _ _ _ (fun e => hk (by rw [e]))⟩
theorem below_of_grown {w w' : World} {r : Option Nat} {B : Nat} (h : w.grownBy w' r) (hB : B ≤ w.heap.size) (hr : ∀ k, r = some k → B ≤ k) : Below B w w' :=
  (Below.refl B w).grown h hB hr
theorem grown_of_below {w w' : World} {r : Option Nat} (h : Below w.heap.size w w') : w.grownBy w' r :=
  ⟨h.os, h.tape, h.output, h.size, fun k hk _ => h.block k hk⟩

/-- v's own block is r, or newer than the world w -/
def Fresh (w : World) (r : Option Nat) (v : Value) : Prop := v.ownBlock = r ∨ ∀ i, v.ownBlock = some i → w.heap.size ≤ i
theorem Fresh.refl (w : World) (v : Value) : Fresh w v.ownBlock v := .inl rfl
theorem Fresh.ne {w : World} {r : Option Nat} {v : Value} (h : Fresh w r v) {i : Nat} (hi : i < w.heap.size) (hr : some i ≠ r) : some i ≠ v.ownBlock := by
  rcases h with h | h
  · rw [h]; exact hr
  · intro e; have := h i e.symm; omega
theorem Fresh.trans {w w1 : World} {r : Option Nat} {v v1 : Value} (h : Fresh w r v) (h1 : Fresh w1 v.ownBlock v1) (hs : w.heap.size ≤ w1.heap.size) : Fresh w r v1 := by
  rcases h1 with h1 | h1
  · rcases h with h | h
    · exact .inl (h1.trans h)
    · exact .inr (by rw [h1]; exact h)
  · exact .inr fun i hi => Nat.le_trans hs (h1 i hi)
theorem grownBy_more {a b c : World} {v : Value} {r : Option Nat} (h : a.grownBy b r) (hf : Fresh a r v) (k : b.grownBy c v.ownBlock) : a.grownBy c r :=
  ⟨k.os.trans h.os, k.tape.trans h.tape, k.output.trans h.output, Nat.le_trans h.size k.size, fun i hi hr =>
    (k.block i (Nat.lt_of_lt_of_le hi h.size) (hf.ne hi hr)).trans (h.block i hi hr)⟩

/-- 'append' onto a row of the call's own, AND WHERE THE NEW ROW LIES: in the old one, or in a new block. (The kit's two laws, 'wpList_append_fits' and 'wpList_append_grows', in one.) -/
theorem wpList_append_own2 {P : Program} (w : World) {ops : Array Oper} {rest : List Oper} {o : Oper} {a : Act} {Q : Exit → Act → World → Prop} (hgd : o.guard = none) (s x : Operand) (t : TypeId)
    (ho : o.op = .call { callee := .builtin .append, args := #[s, x], argTypes := #[t, t] })
    (base : Nat) (e : TypeId) (i : TypeInfo) (z : Value) (size bytes : Nat) (ht : P.underlying t = some (.slice e)) (hi : P.info? e = some i) (hz : i.zero = some z)
    (hsize : i.size = size) (hby : i.bytes = bytes) (hzs : z.cells.size = size) (hsz : 0 < size)
    (v : Value) (n : Nat) (xs : List Value) (hs : a.eval s = v) (hown : w.ownsRow base e size v n xs)
    (ad : Addr) (m c : Nat) (news : List Value) (hx : a.eval x = .slice (some ad) m c) (hl : news.length = m * size) (hm : 0 < m) (hnews : ∀ j u, news[j]? = some u → w.cell? (ad.add j) = some u) (h1 : ∀ u ∈ news, u.oneCell' = true)
    (h63 : n + m ≤ maxLen) (hbytes : (n + m) * bytes ≤ 140737488355328) (hbase : base ≤ w.heap.size)
    (h : ∀ v' w', w'.ownsRow base e size v' (n + m) (xs ++ news) → w.grownBy w' v.ownBlock → Fresh w v.ownBlock v' → wpList P ops Q rest (a.put o.dst v') w') : wpList P ops Q (o :: rest) a w := by
  have fin : ∀ v' w', w'.ownsRow w.heap.size e size v' (n + m) (xs ++ news) → w.grownBy w' none → wpList P ops Q rest (a.put o.dst v') w' := by
    intro v' w' ho' hg'
    refine h v' w' ⟨ho'.1, ?_⟩ ⟨hg'.os, hg'.tape, hg'.output, hg'.size, fun k hk _ => hg'.block k hk (by simp)⟩ (.inr fun i hi => (ho'.lt i hi).1)
    rcases ho'.2 with h' | ⟨g, cap, cur, hv, hg, rest⟩
    · exact .inl h'
    · exact .inr ⟨g, cap, cur, hv, Nat.le_trans hbase hg, rest⟩
  have hcells := fun g => World.ownsRow.cells hown (g := g)
  rcases hown.2 with ⟨rfl, rfl⟩ | ⟨g, cap, cur, rfl, hb, hg, rest'⟩
  · exact wpList_append_grows w hgd s x t ho e i z size bytes ht hi hz hsize hby hzs hsz none 0 0 xs hs (fun _ => ⟨rfl, rfl⟩) hown.1 (fun b hb => by cases hb) ad m c news hx hl hnews h1 (by omega) h63 hbytes fin
  · by_cases hroom : n + m ≤ cap
    · exact wpList_append_fits w hgd s x t ho base e i size ht hi hsize g n cap xs hs hown ad m c news hx hl hnews h1 hroom (fun w' h2 h3 => h _ w' h2 h3 (.inl rfl))
    · exact wpList_append_grows w hgd s x t ho e i z size bytes ht hi hz hsize hby hzs hsz (some ⟨g, 0, none⟩) n cap xs hs (fun hb => by cases hb) hown.1 (fun b hb => by cases hb; exact hcells g rfl) ad m c news hx hl hnews h1 (by omega) h63 hbytes fin

/-! ### bits, as the walk spells them -/
theorem bit_read (x i : Nat) (hx : x < 18446744073709551616) : (bits .and .u64 ((x : Int) / 2 ^ i) 1 == 1) = x.testBit i := by
  have e : ((x : Int) / 2 ^ i) = ((x / 2 ^ i : Nat) : Int) := by simp
  have h1 := u64_and_nat (x / 2 ^ i) 1 (Nat.lt_of_le_of_lt (Nat.div_le_self _ _) hx) (by decide)
  rw [e, show (1 : Int) = ((1 : Nat) : Int) from rfl, h1, nat_mask1, Nat.testBit_eq_decide_div_mod_eq, Bool.eq_iff_iff]
  simp only [beq_iff_eq, decide_eq_true_eq]
  omega
theorem pow_lt_u64 {i : Nat} (hi : i < 64) : 2 ^ i < 18446744073709551616 := Nat.pow_lt_pow_right (a := 2) (m := i) (n := 64) (by decide) hi
theorem bit_test (x i : Nat) (hx : x < 18446744073709551616) (hi : i < 64) : (bits .and .u64 (x : Int) ((2 ^ i : Nat) : Int) != 0) = x.testBit i := by
  rw [u64_and_nat x _ hx (pow_lt_u64 hi), nat_bit, Nat.testBit_eq_decide_div_mod_eq, Bool.eq_iff_iff]
  have hp : 0 < 2 ^ i := Nat.two_pow_pos _
  have h2 : x / 2 ^ i % 2 = 0 ∨ x / 2 ^ i % 2 = 1 := by omega
  rcases h2 with h | h
  · simp [h]
  · simp only [h, bne_iff_ne, ne_eq, decide_eq_true_eq, Nat.one_mul, iff_true]; omega
theorem bit_set (x i : Nat) (hx : x < 18446744073709551616) (hi : i < 64) : bits .or .u64 (x : Int) ((2 ^ i : Nat) : Int) = ((x ||| 2 ^ i : Nat) : Int) :=
  u64_or_nat x _ hx (pow_lt_u64 hi)

end Go.Proofs.Qxb6617085a
