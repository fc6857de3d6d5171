/-
  Plain facts on lists of bools: how many are true, and the longest suffix that holds few. No Go in sight.
-/
namespace Go.Proofs.Qxb6619300a

def trues : List Bool → Nat
  | [] => 0
  | b :: l => (if b = true then 1 else 0) + trues l

theorem trues_le : ∀ l : List Bool, trues l ≤ l.length
  | [] => Nat.le_refl _
  | b :: l => by
    have := trues_le l
    simp only [trues, List.length_cons]
    split <;> omega

theorem trues_append : ∀ a b : List Bool, trues (a ++ b) = trues a + trues b
  | [], b => by simp [trues]
  | x :: a, b => by
    have := trues_append a b
    simp only [List.cons_append, trues]
    omega

/-- One element further on. -/
theorem trues_drop (A : List Bool) (j : Nat) (h : j < A.length) : trues (A.drop j) = (if A.getD j false = true then 1 else 0) + trues (A.drop (j + 1)) := by
  rw [List.drop_eq_getElem_cons h, trues, List.getD_eq_getElem?_getD, List.getElem?_eq_getElem h, Option.getD_some]

theorem trues_mono (A : List Bool) : ∀ (i d : Nat), trues (A.drop (i + d)) ≤ trues (A.drop i)
  | _, 0 => Nat.le_refl _
  | i, d + 1 => by
    have h1 := trues_mono A i d
    by_cases h : i + d < A.length
    · have := trues_drop A (i + d) h
      rw [← Nat.add_assoc]
      omega
    · rw [List.drop_of_length_le (show A.length ≤ i + (d + 1) by omega)]
      exact Nat.zero_le _

theorem trues_past (A : List Bool) (j : Nat) (h : A.length ≤ j) : trues (A.drop j) = 0 := by
  rw [List.drop_of_length_le h]; rfl

/-- t begins the longest suffix of A with at most m trues. -/
def IsT (A : List Bool) (m : Int) (t : Nat) : Prop := t ≤ A.length ∧ (trues (A.drop t) : Int) ≤ m ∧ ∀ j, j < t → m < (trues (A.drop j) : Int)

theorem IsT.unique {A : List Bool} {m : Int} {t u : Nat} (h : IsT A m t) (h' : IsT A m u) : t = u := by
  rcases Nat.lt_trichotomy t u with c | c | c
  · have := h'.2.2 t c
    have := h.2.1
    omega
  · exact c
  · have := h.2.2 u c
    have := h'.2.1
    omega

/-- The span as it is behind the message: the named one false, a true appended. -/
def after (bs : List Bool) (named : Bool) (i : Nat) : List Bool := (if named = true then bs.set i false else bs) ++ [true]

theorem after_length (bs : List Bool) (named : Bool) (i : Nat) : (after bs named i).length = bs.length + 1 := by
  unfold after
  split <;> simp

theorem trues_set : ∀ (bs : List Bool) (i : Nat), bs.getD i false = true → trues (bs.set i false) + 1 = trues bs
  | [], i, h => by simp at h
  | b :: bs, 0, h => by
    simp at h
    subst h
    simp [trues]
    omega
  | b :: bs, i + 1, h => by
    have := trues_set bs i (by simpa using h)
    simp only [List.set_cons_succ, trues]
    omega

/-- The whole of it. -/
theorem trues_after (bs : List Bool) (named : Bool) (i : Nat) (h : named = true → bs.getD i false = true) : trues (after bs named i) + (if named = true then 1 else 0) = trues bs + 1 := by
  unfold after
  rw [trues_append]
  by_cases hn : named = true
  · have := trues_set bs i (h hn)
    simp only [hn, if_true, trues]
    omega
  · simp only [hn, trues]
    simp

end Go.Proofs.Qxb6619300a
