/-
  Memory: what is kept; a run's fields.
-/
import Derived.Test.Qxb6619300aClone
import Derived.Deep.AppendLies
import Derived.Deep.LoopGhost
import Derived.BigQuiet
import Derived.Deep.QuietTactic
namespace Go.Proofs.Qxb6619300a
open Go.RowKit

/-- w' is w but for new blocks and for the blocks of S. -/
structure Kept (S : Nat → Prop) (w w' : World) : Prop where
  os : w'.os = w.os
  tape : w'.tape = w.tape
  output : w'.output = w.output
  size : w.heap.size ≤ w'.heap.size
  block : ∀ k, k < w.heap.size → ¬ S k → w'.heap[k]? = w.heap[k]?

section
variable {S : Nat → Prop} {a w w' : World}
theorem Kept.refl (S : Nat → Prop) (w : World) : Kept S w w := ⟨rfl, rfl, rfl, Nat.le_refl _, fun _ _ _ => rfl⟩
theorem Kept.trans {b c : World} (h : Kept S a b) (k : Kept S b c) : Kept S a c :=
  ⟨k.os.trans h.os, k.tape.trans h.tape, k.output.trans h.output, Nat.le_trans h.size k.size, fun i hi hs => (k.block i (Nat.lt_of_lt_of_le hi h.size) hs).trans (h.block i hi hs)⟩
theorem Kept.drewN (h : Kept S a w) (n : Nat) : Kept S a (w.drewN n) := ⟨h.os, h.tape, h.output, h.size, h.block⟩
theorem Kept.alloc (h : Kept S a w) (o : Obj) : Kept S a (w.alloc o) :=
  h.trans ⟨rfl, rfl, rfl, by simp, fun k hk _ => Below.heap_alloc _ _ _ hk⟩
theorem Kept.setCell (h : Kept S a w) {p : Addr} (hp : a.heap.size ≤ p.block ∨ S p.block) (u : Value) : Kept S a (w.setCell p u) := by
  refine ⟨h.os, h.tape, h.output, by simpa [World.setCell] using h.size, fun k hk hs => ?_⟩
  rw [Below.heap_setCell _ _ _ _ (fun e => by subst e; rcases hp with hp | hp; omega; exact hs hp)]
  exact h.block k hk hs
theorem Kept.grown {row : Option Nat} (h : Kept S a w) (hg : w.grownBy w' row) (hr : ∀ k, row = some k → a.heap.size ≤ k ∨ S k) : Kept S a w' := by
  refine ⟨hg.os.trans h.os, hg.tape.trans h.tape, hg.output.trans h.output, Nat.le_trans h.size hg.size, fun k hk hs => ?_⟩
  rw [hg.block k (Nat.lt_of_lt_of_le hk h.size) (fun e => by rcases hr k e.symm with h' | h'; omega; exact hs h')]
  exact h.block k hk hs
theorem Kept.below {B : Nat} (h : Kept S a w) (hs : ∀ k, S k → B ≤ k) (hB : B ≤ a.heap.size) : Below B a w :=
  ⟨h.os, h.tape, h.output, h.size, fun k hk => h.block k (by omega) (fun e => by have := hs k e; omega)⟩
end

/-- The run's fields, in memory. -/
def Fields (w : World) (gr : Nat) (size : Int) (v : Value) (held purged : Int) : Prop := w.heap[gr]? = some (.cells #[.int .i64 size, v, .int .i64 held, .int .i64 purged] 29 (0, 0))

theorem Fields.cells {w : World} {gr : Nat} {size held purged : Int} {v : Value} (h : Fields w gr size v held purged) :
    w.cell? ⟨gr, 0, none⟩ = some (.int .i64 size) ∧ w.cell? ⟨gr, 1, none⟩ = some v ∧ w.cell? ⟨gr, 2, none⟩ = some (.int .i64 held) ∧ w.cell? ⟨gr, 3, none⟩ = some (.int .i64 purged) ∧
    w.frozen? ⟨gr, 1, none⟩ = false ∧ w.frozen? ⟨gr, 2, none⟩ = false ∧ w.frozen? ⟨gr, 3, none⟩ = false ∧ gr < w.heap.size := by
  refine ⟨?_, ?_, ?_, ?_, frozen_of_row _ _ _ _ _ h, frozen_of_row _ _ _ _ _ h, frozen_of_row _ _ _ _ _ h, (Array.getElem?_eq_some_iff.1 h).1⟩
  · rw [cell_of_row _ _ _ _ _ _ h]; rfl
  · rw [cell_of_row _ _ _ _ _ _ h]; rfl
  · rw [cell_of_row _ _ _ _ _ _ h]; rfl
  · rw [cell_of_row _ _ _ _ _ _ h]; rfl

end Go.Proofs.Qxb6619300a
