/-
  The table of records, round by round: for the two laws on records.
-/
import Derived.Test.Qxb6619080aPts
import Derived.Test.Qxb6619080aPlainS
namespace Go.Proofs.Qxb6619080a
open Go.RowKit

theorem cnt_le (W : Int → Int) (e : Int) : ∀ n : Nat, cnt W e n ≤ n
  | 0 => Nat.le_refl _
  | n + 1 => by
    have := cnt_le W e n
    rw [cnt]
    split <;> omega

/-- The table of records, one round more. -/
theorem tab_hit {w wr : World} {L : Nat} {W : Int → Int} {e : Int} {n : Nat} (h0 : 0 ≤ e) (h1 : e ≤ 1) (h : Tab w wr L (fun x => x ≤ n ∧ Rec W e x)) (hn : n + 1 ≤ L) (hr : isRec W e (n + 1) = true) :
    Tab w (wr.setCell ⟨w.heap.size, n + 1, none⟩ (.bool true)) L (fun x => x ≤ ((n + 1 : Nat) : Int) ∧ Rec W e x) := by
  refine (h.set hn).same (fun x _ => ?_)
  constructor
  · rintro (⟨a, b⟩ | a)
    · exact ⟨by omega, b⟩
    · exact ⟨by omega, by rw [a]; exact (isRec_iff h0 h1 _).1 hr⟩
  · rintro ⟨a, b⟩
    by_cases c : (x : Int) ≤ n
    · exact .inl ⟨c, b⟩
    · exact .inr (by omega)

theorem tab_miss {w wr : World} {L : Nat} {W : Int → Int} {e : Int} {n : Nat} (h0 : 0 ≤ e) (h1 : e ≤ 1) (h : Tab w wr L (fun x => x ≤ n ∧ Rec W e x)) (hr : ¬ isRec W e (n + 1) = true) :
    Tab w wr L (fun x => x ≤ ((n + 1 : Nat) : Int) ∧ Rec W e x) := by
  refine h.same (fun x _ => ?_)
  constructor
  · rintro ⟨a, b⟩
    exact ⟨by omega, b⟩
  · rintro ⟨a, b⟩
    refine ⟨?_, b⟩
    by_cases c : (x : Int) ≤ n
    · exact c
    · have e1 : x = n + 1 := by omega
      subst e1
      exact absurd ((isRec_iff h0 h1 _).2 b) hr

end Go.Proofs.Qxb6619080a
