/-
  Plain mathematics, more: records, how many there are, and that the runs list just them. No Go in sight.
-/
import Derived.Test.Qxb6619080aPlainA
namespace Go.Proofs.Qxb6619080a

section
variable (W : Int → Int) (e : Int)

/-- The least value so far: as the laws' loops keep it. e = 1: a record lies below all before; e = 0: at or below. -/
def least : Nat → Int
  | 0 => 0
  | n + 1 => if n = 0 ∨ W ((n + 1 : Nat) : Int) + e ≤ least n then W ((n + 1 : Nat) : Int) else least n
def isRec : Nat → Bool
  | 0 => false
  | n + 1 => decide (n = 0 ∨ W ((n + 1 : Nat) : Int) + e ≤ least W e n)
def cnt : Nat → Nat
  | 0 => 0
  | n + 1 => cnt n + if isRec W e (n + 1) = true then 1 else 0

/-- A record: e below all that come before it. -/
def Rec (x : Int) : Prop := 1 ≤ x ∧ ∀ y, 1 ≤ y → y < x → W x + e ≤ W y

variable {W e}

theorem least_succ (n : Nat) : least W e (n + 1) = if isRec W e (n + 1) = true then W ((n + 1 : Nat) : Int) else least W e n := by
  simp only [least, isRec, decide_eq_true_eq]

theorem least_spec (h0 : 0 ≤ e) (h1 : e ≤ 1) : ∀ n : Nat, 1 ≤ n → (∀ y : Nat, 1 ≤ y → y ≤ n → least W e n ≤ W y) ∧ ∃ y : Nat, 1 ≤ y ∧ y ≤ n ∧ W y = least W e n
  | 0, h => by omega
  | n + 1, _ => by
    by_cases hc : n = 0 ∨ W ((n + 1 : Nat) : Int) + e ≤ least W e n
    · have hl : least W e (n + 1) = W ((n + 1 : Nat) : Int) := by rw [least, if_pos hc]
      rw [hl]
      refine ⟨fun y y1 y2 => ?_, n + 1, by omega, by omega, rfl⟩
      by_cases hy : y = n + 1
      · subst hy; exact Int.le_refl _
      · have := (least_spec h0 h1 n (by omega)).1 y y1 (by omega)
        rcases hc with hc | hc
        · omega
        · omega
    · have hl : least W e (n + 1) = least W e n := by rw [least, if_neg hc]
      have hn : 1 ≤ n := by omega
      obtain ⟨i1, y, y1, y2, y3⟩ := least_spec h0 h1 n hn
      rw [hl]
      refine ⟨fun y y1 y2 => ?_, y, y1, by omega, y3⟩
      by_cases hy : y = n + 1
      · subst hy
        omega
      · exact i1 y y1 (by omega)

theorem isRec_iff (h0 : 0 ≤ e) (h1 : e ≤ 1) (n : Nat) : isRec W e n = true ↔ Rec W e n := by
  cases n with
  | zero => simp [isRec, Rec]
  | succ n =>
    rw [isRec, decide_eq_true_iff]
    constructor
    · intro h
      refine ⟨by omega, fun y y1 y2 => ?_⟩
      obtain ⟨z, rfl⟩ := Int.eq_ofNat_of_zero_le (show 0 ≤ y by omega)
      rcases h with h | h
      · omega
      · have := (least_spec (W := W) h0 h1 n (by omega)).1 z (by omega) (by omega)
        exact Int.le_trans h this
    · rintro ⟨_, h⟩
      by_cases hn : n = 0
      · exact .inl hn
      · obtain ⟨_, y, y1, y2, y3⟩ := least_spec (W := W) h0 h1 n (by omega)
        right
        rw [← y3]
        exact h y (by omega) (by omega)

theorem cnt_none (h0 : 0 ≤ e) (h1 : e ≤ 1) (a : Nat) : ∀ d : Nat, (∀ y : Nat, a < y → y ≤ a + d → ¬ Rec W e y) → cnt W e (a + d) = cnt W e a
  | 0, _ => rfl
  | d + 1, h => by
    rw [← Nat.add_assoc, cnt, if_neg (by rw [isRec_iff h0 h1]; exact h _ (by omega) (by omega))]
    exact cnt_none h0 h1 a d (fun y y1 y2 => h y y1 (by omega))

theorem cnt_one (h0 : 0 ≤ e) (h1 : e ≤ 1) {a b : Nat} (hab : a < b) (hn : ∀ y : Nat, a < y → y < b → ¬ Rec W e y) (hb : Rec W e b) : cnt W e b = cnt W e a + 1 := by
  obtain ⟨d, rfl⟩ : ∃ d, b = a + d + 1 := ⟨b - a - 1, by omega⟩
  rw [cnt, if_pos ((isRec_iff h0 h1 _).2 hb), cnt_none h0 h1 a d (fun y y1 y2 => hn y y1 (by omega))]

/-- In steps: q records a + d, a + 2 d, .., a + q d, and none between. -/
theorem cnt_grid (h0 : 0 ≤ e) (h1 : e ≤ 1) (a d : Int) (ha : 0 ≤ a) (hd : 1 ≤ d) : ∀ q : Nat, (∀ j : Int, 0 ≤ j → j < q → Rec W e (a + (j + 1) * d) ∧ ∀ y, a + j * d < y → y < a + (j + 1) * d → ¬ Rec W e y) →
    cnt W e (a + q * d).toNat = cnt W e a.toNat + q
  | 0, _ => by simp
  | q + 1, h => by
    have ih := cnt_grid h0 h1 a d ha hd q (fun j j1 j2 => h j j1 (by omega))
    obtain ⟨r1, r2⟩ := h q (by omega) (by omega)
    have m0 : 0 ≤ (q : Int) * d := Int.mul_nonneg (by omega) (by omega)
    have m1 : ((q : Int) + 1) * d = q * d + d := by rw [Int.add_mul, Int.one_mul]
    have e1 : ((a + ((q + 1 : Nat) : Int) * d).toNat : Int) = a + ((q : Int) + 1) * d := by
      rw [Int.natCast_add, Int.natCast_one]
      omega
    have e2 : ((a + (q : Int) * d).toNat : Int) = a + q * d := by omega
    rw [cnt_one h0 h1 (a := (a + (q : Int) * d).toNat) (by omega) (fun y y1 y2 => r2 y (by omega) (by omega)) (by rw [e1]; exact r1), ih]
    omega
end

/-- The values of the two laws. -/
def val (num den : Int) (above : Bool) (x : Int) : Int := if above = true then den - x * num % den else x * num % den

theorem val_bounds {num den : Int} (hd : 1 ≤ den) (above : Bool) (x : Int) : 0 ≤ val num den above x ∧ val num den above x ≤ den := by
  have h1 := Int.emod_nonneg (x * num) (show den ≠ 0 by omega)
  have h2 := Int.emod_lt_of_pos (x * num) (show 0 < den by omega)
  unfold val
  split <;> omega

/-- (x, y) in the basis of the two ends. -/
theorem Sb.Ok.basis {num den : Int} {s : Sb} (h : s.Ok num den) (x y : Int) :
    x = (x * s.hn - y * s.hd) * s.ld + (y * s.ld - x * s.ln) * s.hd ∧ x * num - y * den = (x * s.hn - y * s.hd) * s.rl - (y * s.ld - x * s.ln) * s.rh := by
  obtain ⟨_, _, _, _, _, _, e1, e2, e3, d1, d2⟩ := h
  obtain ⟨ln, ld, hn, hd, rl, rh⟩ := s
  simp only at e1 e2 e3 d1 d2 ⊢
  constructor
  · have a1 : x = x * (hn * ld - ln * hd) := by rw [e3, Int.mul_one]
    have a2 : y * hd * ld = y * ld * hd := by rw [Int.mul_assoc, Int.mul_assoc, Int.mul_comm hd]
    rw [Int.sub_mul, Int.sub_mul, Int.mul_assoc x hn, Int.mul_assoc x ln]
    rw [Int.mul_sub] at a1
    omega
  · have a1 : x * num = x * (ln * rh + hn * rl) := by rw [d2]
    have a2 : y * den = y * (ld * rh + hd * rl) := by rw [d1]
    rw [a1, a2]
    simp only [Int.sub_mul, Int.mul_add, Int.mul_assoc]
    omega

/-- Below the lower end's value no x lies ahead of the next step. -/
theorem Sb.Ok.low_far {num den : Int} {s : Sb} (h : s.Ok num den) (hd : 1 ≤ den) {x : Int} (hx : 1 ≤ x) (hv : x * num % den < s.rl) : s.ld + s.hd ≤ x := by
  obtain ⟨b1, b2⟩ := h.basis x (x * num / den)
  have hm := Int.emod_def (x * num) den
  have hn := Int.emod_nonneg (x * num) (show den ≠ 0 by omega)
  rw [Int.mul_comm den] at hm
  generalize x * s.hn - x * num / den * s.hd = p at *
  generalize x * num / den * s.ld - x * s.ln = q at *
  have ld1 := h.ld1
  have hd1 := h.hd1
  have rh1 := h.rh1
  have rl0 := h.rl0
  by_cases hq : q ≤ 0
  · exfalso
    have m1 : q * s.rh ≤ 0 := Int.mul_nonpos_of_nonpos_of_nonneg hq (by omega)
    have m2 : q * s.hd ≤ 0 := Int.mul_nonpos_of_nonpos_of_nonneg hq (by omega)
    by_cases hp : p ≤ 0
    · have m3 : p * s.ld ≤ 0 := Int.mul_nonpos_of_nonpos_of_nonneg hp (by omega)
      omega
    · have m3 := Int.mul_le_mul_of_nonneg_right (show 1 ≤ p by omega) rl0
      omega
  · have m1 := Int.mul_le_mul_of_nonneg_right (show 1 ≤ q by omega) (show 0 ≤ s.rh by omega)
    have m2 := Int.mul_le_mul_of_nonneg_right (show 1 ≤ q by omega) (show 0 ≤ s.hd by omega)
    have hp : 1 ≤ p := by
      by_cases hp : p ≤ 0
      · have m3 : p * s.rl ≤ 0 := Int.mul_nonpos_of_nonpos_of_nonneg hp rl0
        omega
      · omega
    have m3 := Int.mul_le_mul_of_nonneg_right hp (show 0 ≤ s.ld by omega)
    omega

/-- At or below the upper end's value no x behind it lies ahead of the next step. -/
theorem Sb.Ok.high_far {num den : Int} {s : Sb} (h : s.Ok num den) (hd : 1 ≤ den) {x : Int} (hx : s.hd < x) (hv : den - x * num % den ≤ s.rh) : s.hd + s.ld ≤ x := by
  obtain ⟨b1, b2⟩ := h.basis x (x * num / den + 1)
  have hm := Int.emod_def (x * num) den
  have hn := Int.emod_lt_of_pos (x * num) (show 0 < den by omega)
  rw [Int.mul_comm den] at hm
  rw [Int.add_mul (x * num / den) 1 den, Int.one_mul] at b2
  generalize x * s.hn - (x * num / den + 1) * s.hd = p at *
  generalize (x * num / den + 1) * s.ld - x * s.ln = q at *
  have ld1 := h.ld1
  have hd1 := h.hd1
  have rh1 := h.rh1
  have rl0 := h.rl0
  by_cases hp : p ≤ 0
  · exfalso
    have m1 : p * s.rl ≤ 0 := Int.mul_nonpos_of_nonpos_of_nonneg hp rl0
    have m2 : p * s.ld ≤ 0 := Int.mul_nonpos_of_nonpos_of_nonneg hp (by omega)
    by_cases hq : q ≤ 1
    · have m3 := Int.mul_le_mul_of_nonneg_right hq (show 0 ≤ s.hd by omega)
      omega
    · have m3 := Int.mul_le_mul_of_nonneg_right (show 2 ≤ q by omega) (show 0 ≤ s.rh by omega)
      omega
  · have m1 := Int.mul_le_mul_of_nonneg_right (show 1 ≤ p by omega) (show 0 ≤ s.ld by omega)
    have m2 : 0 ≤ p * s.rl := Int.mul_nonneg (by omega) rl0
    have hq : 1 ≤ q := by
      by_cases hq : q ≤ 0
      · have m3 : q * s.rh ≤ 0 := Int.mul_nonpos_of_nonpos_of_nonneg hq (by omega)
        omega
      · omega
    have m3 := Int.mul_le_mul_of_nonneg_right hq (show 0 ≤ s.hd by omega)
    omega

end Go.Proofs.Qxb6619080a
