/-
  The two ends and the runs of closestAbove and closestBelow, in memory.
-/
import Derived.Test.Qxb6619080aGcd
import Derived.Test.Qxb6619080aPlain
namespace Go.Proofs.Qxb6619080a
open Go.RowKit

theorem Try.info39 : (Try.prog.info? 39).map (fun i => (i.zero, i.size, i.bytes)) = some (some (.agg #[.int .i64 0, .int .i64 0, .int .i64 0]), 3, 24) := by kernel_rfl
theorem Try.info2 : (Try.prog.info? 2).map (fun i => (i.zero, i.size, i.bytes)) = some (some (.int .i64 0), 1, 8) := by kernel_rfl
theorem Try.info4 : (Try.prog.info? 4).map (fun i => (i.zero, i.size, i.bytes)) = some (some (.bool false), 1, 1) := by kernel_rfl

/-- The two ends and the runs, in memory. -/
structure Mem (w wr : World) (ln ld hn hd : Int) (v : Value) (n : Nat) (xs : List Value) : Prop where
  lo : wr.heap[w.heap.size + 1 + 1]? = some (.cells #[.int .i64 ln, .int .i64 ld] 37 (0, 0))
  hi : wr.heap[w.heap.size + 1 + 1 + 1]? = some (.cells #[.int .i64 hn, .int .i64 hd] 37 (0, 0))
  own : wr.ownsRow w.heap.size 39 3 v n xs
  below : Below w.heap.size w wr

section
variable {w wr w1 : World} {ln ld hn hd : Int} {v v' : Value} {n : Nat} {xs : List Value}

theorem Mem.los (h : Mem w wr ln ld hn hd v n xs) :
    wr.cell? ⟨w.heap.size + 1 + 1, 0, none⟩ = some (.int .i64 ln) ∧ wr.cell? ⟨w.heap.size + 1 + 1, 1, none⟩ = some (.int .i64 ld) ∧
    wr.cell? ⟨w.heap.size + 1 + 1 + 1, 0, none⟩ = some (.int .i64 hn) ∧ wr.cell? ⟨w.heap.size + 1 + 1 + 1, 1, none⟩ = some (.int .i64 hd) ∧ 
    wr.frozen? ⟨w.heap.size + 1 + 1, 0, none⟩ = false ∧ wr.frozen? ⟨w.heap.size + 1 + 1, 1, none⟩ = false ∧
    wr.frozen? ⟨w.heap.size + 1 + 1 + 1, 0, none⟩ = false ∧ wr.frozen? ⟨w.heap.size + 1 + 1 + 1, 1, none⟩ = false ∧ w.heap.size + 1 + 1 + 1 < wr.heap.size := by
  refine ⟨?_, ?_, ?_, ?_, ?_, ?_, ?_, ?_, ?_⟩
  · rw [cell_of_row _ _ _ _ _ _ h.lo]; rfl
  · rw [cell_of_row _ _ _ _ _ _ h.lo]; rfl
  · rw [cell_of_row _ _ _ _ _ _ h.hi]; rfl
  · rw [cell_of_row _ _ _ _ _ _ h.hi]; rfl
  · exact frozen_of_row _ _ _ _ _ h.lo
  · exact frozen_of_row _ _ _ _ _ h.lo
  · exact frozen_of_row _ _ _ _ _ h.hi
  · exact frozen_of_row _ _ _ _ _ h.hi
  · exact (Array.getElem?_eq_some_iff.1 h.hi).1

/-- The row's block is no end's. -/
theorem own_apart {base b : Nat} {e t size : Nat} {cs : Array Value} (h : wr.ownsRow base e size v n xs) (hb : wr.heap[b]? = some (.cells cs t (0, 0))) (ht : e ≠ t) : some b ≠ v.ownBlock := by
  rcases h.2 with ⟨rfl, _⟩ | ⟨g, cap, cur, rfl, _, hg, _⟩
  · simp [Value.ownBlock]
  · intro hc
    simp only [Value.ownBlock, Option.some.injEq] at hc
    subst hc
    rw [hg] at hb
    simp only [Option.some.injEq, Obj.cells.injEq] at hb
    exact ht hb.2.1

theorem Mem.append (h : Mem w wr ln ld hn hd v n xs) {o : Obj} {news : List Value} (hown : w1.ownsRow w.heap.size 39 3 v' (n + 1) (xs ++ news)) (hg : (wr.alloc o).grownBy w1 v.ownBlock) :
    Mem w w1 ln ld hn hd v' (n + 1) (xs ++ news) := by
  have hl := (Array.getElem?_eq_some_iff.1 h.hi).1
  refine ⟨?_, ?_, hown, ?_⟩
  · rw [hg.block _ (by simp; omega) (own_apart h.own h.lo (by decide)), Below.heap_alloc _ _ _ (by omega)]
    exact h.lo
  · rw [hg.block _ (by simp; omega) (own_apart h.own h.hi (by decide)), Below.heap_alloc _ _ _ (by omega)]
    exact h.hi
  · have hs := h.below.size
    exact (h.below.alloc hs o).grown hg (by simp; omega) (fun k hk => (h.own.lt k hk).1)

theorem own_set {base b j : Nat} {e t size : Nat} {cs : Array Value} {u : Value} (h : wr.ownsRow base e size v n xs) (hb : wr.heap[b]? = some (.cells cs t (0, 0))) (ht : e ≠ t) : (wr.setCell ⟨b, j, none⟩ u).ownsRow base e size v n xs := by
  have ha := own_apart h hb ht
  refine h.kept (row := some b) ⟨rfl, rfl, rfl, by simp, fun k _ hk => Below.heap_setCell _ _ _ _ (fun e => hk (by simp [e]))⟩ ?_
  exact .inr (Ne.symm ha)

theorem set_block {b j : Nat} {t : Nat} {cs : Array Value} {u : Value} (hb : wr.heap[b]? = some (.cells cs t (0, 0))) : (wr.setCell ⟨b, j, none⟩ u).heap[b]? = some (.cells (cs.setIfInBounds j u) t (0, 0)) :=
  heap_setCell_same wr b j cs t u hb

theorem Mem.setlo (h : Mem w wr ln ld hn hd v n xs) (a b : Int) :
    Mem w ((wr.setCell ⟨w.heap.size + 1 + 1, 0, none⟩ (.int .i64 a)).setCell ⟨w.heap.size + 1 + 1, 1, none⟩ (.int .i64 b)) a b hn hd v n xs := by
  refine ⟨?_, ?_, ?_, ?_⟩
  · have := set_block (j := 1) (u := .int .i64 b) (set_block (j := 0) (u := .int .i64 a) h.lo)
    simpa using this
  · rw [Below.heap_setCell _ _ _ _ (by simp), Below.heap_setCell _ _ _ _ (by simp)]
    exact h.hi
  · exact own_set (own_set h.own h.lo (by decide)) (set_block h.lo) (by decide)
  · exact (h.below.setCell (by simp; omega) _).setCell (by simp; omega) _

theorem Mem.sethi (h : Mem w wr ln ld hn hd v n xs) (a b : Int) :
    Mem w ((wr.setCell ⟨w.heap.size + 1 + 1 + 1, 0, none⟩ (.int .i64 a)).setCell ⟨w.heap.size + 1 + 1 + 1, 1, none⟩ (.int .i64 b)) ln ld a b v n xs := by
  refine ⟨?_, ?_, ?_, ?_⟩
  · rw [Below.heap_setCell _ _ _ _ (by simp), Below.heap_setCell _ _ _ _ (by simp)]
    exact h.lo
  · have := set_block (j := 1) (u := .int .i64 b) (set_block (j := 0) (u := .int .i64 a) h.hi)
    simpa using this
  · exact own_set (own_set h.own h.hi (by decide)) (set_block h.hi) (by decide)
  · exact (h.below.setCell (by simp; omega) _).setCell (by simp; omega) _

theorem own_base {base base' e size : Nat} (h : wr.ownsRow base e size v n xs) (hb : base' ≤ base) : wr.ownsRow base' e size v n xs := by
  refine ⟨h.1, ?_⟩
  rcases h.2 with h | ⟨g, cap, cur, hv, hg, r⟩
  · exact .inl h
  · exact .inr ⟨g, cap, cur, hv, by omega, r⟩

/-- As the loops begin. -/
theorem Mem.start (w : World) (x : Obj) (nq : Nat) :
    Mem w (((((w.alloc x).alloc (.cells #[.int .i64 1, .int .i64 1, .int .i64 1] 39)).alloc (.cells #[.int .i64 0, .int .i64 1] 37)).alloc (.cells #[.int .i64 1, .int .i64 1] 37)).drewN nq) 0 1 1 1
      (.slice (some ⟨w.heap.size + 1, 0, none⟩) 1 1) 1 [.int .i64 1, .int .i64 1, .int .i64 1] := by
  refine ⟨?_, ?_, ?_, ?_⟩
  · rw [World.heap_drewN, Below.heap_alloc _ _ _ (by simp)]
    have := heap_alloc_new ((w.alloc x).alloc (.cells #[.int .i64 1, .int .i64 1, .int .i64 1] 39)) (.cells #[.int .i64 0, .int .i64 1] 37)
    simpa using this
  · rw [World.heap_drewN]
    have := heap_alloc_new (((w.alloc x).alloc (.cells #[.int .i64 1, .int .i64 1, .int .i64 1] 39)).alloc (.cells #[.int .i64 0, .int .i64 1] 37)) (.cells #[.int .i64 1, .int .i64 1] 37)
    simpa using this
  · have h := World.ownsRow_lit (base := w.heap.size) (e := 39) (size := 3) (w.alloc x) #[.int .i64 1, .int .i64 1, .int .i64 1] 1 (by simp) (by decide) rfl
    have h' := (h.alloc (.cells #[.int .i64 0, .int .i64 1] 37)).alloc (.cells #[.int .i64 1, .int .i64 1] 37)
    simp only [World.size_alloc] at h'
    exact h'
  · exact below_drewN (((((Below.refl _ _).alloc (Nat.le_refl _) _).alloc (by simp) _).alloc (by simp; omega) _).alloc (by simp; omega) _) nq
end
end Go.Proofs.Qxb6619080a
