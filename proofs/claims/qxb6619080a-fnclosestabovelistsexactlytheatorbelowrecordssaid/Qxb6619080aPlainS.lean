/-
  Plain mathematics, the end: closestBelow's and closestAbove's runs list exactly the records. No Go in sight.
-/
import Derived.Test.Qxb6619080aPlainR
namespace Go.Proofs.Qxb6619080a

/-- What zzCheckRuns asks of a run beyond 'GoodAt': each point is a record; the value changes by the same amount at each step. -/
def RunOk (R : Int → Prop) (V : Int → Int) (t : Int × Int × Int) : Prop :=
  t.1 ≤ t.2.2 → (∀ x, OnRun t x → R x) ∧ ∃ c, ∀ j, 0 ≤ j → j + 1 ≤ (t.2.2 - t.1) / t.2.1 → V (t.1 + (j + 1) * t.2.1) - V (t.1 + j * t.2.1) = c

/-- How many points the runs have: as zzCheckRuns counts them. -/
def tally (ts : List (Int × Int × Int)) : Int := ts.foldl (fun acc t => if t.1 ≤ t.2.2 then acc + ((t.2.2 - t.1) / t.2.1 + 1) else acc) 0
theorem tally_snoc (ts : List (Int × Int × Int)) (t : Int × Int × Int) : tally (ts ++ [t]) = if t.1 ≤ t.2.2 then tally ts + ((t.2.2 - t.1) / t.2.1 + 1) else tally ts := by
  simp [tally]

theorem tally_grid {ts : List (Int × Int × Int)} {a d q : Int} (hd : 1 ≤ d) (hq : 0 ≤ q) : tally (ts ++ [(a + d, d, a + q * d)]) = tally ts + q := by
  rw [tally_snoc]
  by_cases h : 1 ≤ q
  · have := Int.mul_le_mul_of_nonneg_right h (show 0 ≤ d by omega)
    rw [if_pos (by simp only; omega)]
    simp only
    rw [show a + q * d - (a + d) = q * d - d by omega, grid_div hd]
    omega
  · have e : q = 0 := by omega
    subst e
    rw [if_neg (by simp only; omega)]
    omega

theorem runOk_grid {R : Int → Prop} {V : Int → Int} {a d q c : Int} (hd : 1 ≤ d) (h1 : ∀ j, 0 ≤ j → j < q → R (a + (j + 1) * d)) (h2 : ∀ j, 0 ≤ j → j < q → V (a + (j + 1) * d) - V (a + j * d) = c) :
    RunOk R V (a + d, d, a + q * d) := by
  intro _
  refine ⟨fun x hx => ?_, c, fun j j0 j1 => ?_⟩
  · obtain ⟨j, j1, j2, rfl⟩ := (onRun_grid hd).1 hx
    have := h1 (j - 1) (by omega) (by omega)
    rw [show j - 1 + 1 = j by omega] at this
    exact this
  · simp only at j1 ⊢
    rw [show a + q * d - (a + d) = q * d - d by omega, grid_div hd] at j1
    have := h2 (j + 1) (by omega) (by omega)
    rw [show a + d + (j + 1) * d = a + (j + 1 + 1) * d by rw [Int.add_mul (j + 1) 1 d, Int.one_mul]; omega,
      show a + d + j * d = a + (j + 1) * d by rw [Int.add_mul, Int.one_mul]; omega]
    exact this

section
variable {num den : Int} {s : Sb}

/-! ### Below -/
theorem stepB (h : s.Ok num den) (hd : 1 ≤ den) {q : Int} (hq : q * s.rh ≤ s.rl) (j : Int) (j0 : 0 ≤ j) (j1 : j < q) :
    Rec (val num den false) 1 (s.ld + (j + 1) * s.hd) ∧ (∀ y, s.ld + j * s.hd < y → y < s.ld + (j + 1) * s.hd → ¬ Rec (val num den false) 1 y) ∧
    val num den false (s.ld + (j + 1) * s.hd) - val num den false (s.ld + j * s.hd) = -s.rh := by
  have rh1 := h.rh1
  have hd1 := h.hd1
  have ld1 := h.ld1
  have m1 := Int.mul_le_mul_of_nonneg_right (show j ≤ q by omega) (show 0 ≤ s.rh by omega)
  have m2 := Int.mul_le_mul_of_nonneg_right (show j + 1 ≤ q by omega) (show 0 ≤ s.rh by omega)
  have ha := h.lower j0 (show j * s.rh ≤ s.rl by omega)
  have hb := h.lower (show 0 ≤ j + 1 by omega) (show (j + 1) * s.rh ≤ s.rl by omega)
  have va : val num den false (s.ld + j * s.hd) = s.rl - j * s.rh := ha.low_val
  have vb : val num den false (s.ld + (j + 1) * s.hd) = s.rl - (j + 1) * s.rh := hb.low_val
  have e1 : (j + 1) * s.rh = j * s.rh + s.rh := by rw [Int.add_mul, Int.one_mul]
  have e2 : (j + 1) * s.hd = j * s.hd + s.hd := by rw [Int.add_mul, Int.one_mul]
  have n1 : 0 ≤ j * s.hd := Int.mul_nonneg j0 (by omega)
  have far : ∀ y, 1 ≤ y → y < s.ld + (j + 1) * s.hd → s.rl - j * s.rh ≤ val num den false y := by
    intro y y1 y2
    by_cases hc : s.rl - j * s.rh ≤ val num den false y
    · exact hc
    · have : s.ld + j * s.hd + s.hd ≤ y := ha.low_far hd y1 (show y * num % den < s.rl - j * s.rh by have e : val num den false y = y * num % den := rfl; omega)
      omega
  refine ⟨⟨by omega, fun y y1 y2 => ?_⟩, fun y y1 y2 hr => ?_, by omega⟩
  · have := far y y1 y2
    omega
  · have := far y (by omega) y2
    have := hr.2 _ (by omega) y1
    omega

/-! ### Above -/
/-- No x ahead of the upper end lies below it. -/
def IA (num den : Int) (s : Sb) : Prop := ∀ y, 1 ≤ y → y < s.hd → s.rh ≤ val num den true y

theorem IA.far (h : s.Ok num den) (hd : 1 ≤ den) (hi : IA num den s) {y : Int} (y1 : 1 ≤ y) (y2 : y < s.hd + s.ld) : s.rh ≤ val num den true y ∧ (s.hd < y → s.rh < val num den true y) := by
  have hv : val num den true s.hd = s.rh := by
    have := h.high_val
    show den - s.hd * num % den = s.rh
    omega
  have hf : s.hd < y → s.rh < val num den true y := by
    intro hlt
    by_cases hc : val num den true y ≤ s.rh
    · have := h.high_far hd hlt hc
      omega
    · omega
  refine ⟨?_, hf⟩
  rcases Int.lt_trichotomy y s.hd with hc | hc | hc
  · exact hi y y1 hc
  · subst hc
    omega
  · have := hf hc
    omega

theorem IA.upper (h : s.Ok num den) (hd : 1 ≤ den) (hi : IA num den s) : ∀ j : Nat, (j : Int) * s.rl < s.rh → IA num den (s.upper j)
  | 0, _ => by
    intro y y1 y2
    have := hi y y1 (by simpa [Sb.upper] using y2)
    simpa [Sb.upper] using this
  | j + 1, hj => by
    have rl0 := h.rl0
    have e1 : ((j + 1 : Nat) : Int) * s.rl = j * s.rl + s.rl := by rw [Int.natCast_add, Int.natCast_one, Int.add_mul, Int.one_mul]
    have e2 : ((j + 1 : Nat) : Int) * s.ld = j * s.ld + s.ld := by rw [Int.natCast_add, Int.natCast_one, Int.add_mul, Int.one_mul]
    have ih := IA.upper h hd hi j (by omega)
    have ho := h.upper (q := j) (by omega) (by omega)
    intro y y1 y2
    have y3 : y < s.hd + ((j + 1 : Nat) : Int) * s.ld := y2
    have := (IA.far ho hd ih y1 (show y < s.hd + j * s.ld + s.ld by omega)).1
    have h3 : s.rh - j * s.rl ≤ val num den true y := this
    show s.rh - ((j + 1 : Nat) : Int) * s.rl ≤ val num den true y
    omega

theorem stepA (h : s.Ok num den) (hd : 1 ≤ den) (hi : IA num den s) {q : Int} (hq : q * s.rl < s.rh) (j : Int) (j0 : 0 ≤ j) (j1 : j < q) :
    Rec (val num den true) 0 (s.hd + (j + 1) * s.ld) ∧ (∀ y, s.hd + j * s.ld < y → y < s.hd + (j + 1) * s.ld → ¬ Rec (val num den true) 0 y) ∧
    val num den true (s.hd + (j + 1) * s.ld) - val num den true (s.hd + j * s.ld) = -s.rl := by
  obtain ⟨i, rfl⟩ := Int.eq_ofNat_of_zero_le j0
  have rh1 := h.rh1
  have rl0 := h.rl0
  have hd1 := h.hd1
  have ld1 := h.ld1
  have m1 := Int.mul_le_mul_of_nonneg_right (show (i : Int) ≤ q by omega) rl0
  have m2 := Int.mul_le_mul_of_nonneg_right (show (i : Int) + 1 ≤ q by omega) rl0
  have ha := h.upper j0 (show (i : Int) * s.rl < s.rh by omega)
  have hb := h.upper (show 0 ≤ (i : Int) + 1 by omega) (show ((i : Int) + 1) * s.rl < s.rh by omega)
  have va : val num den true (s.hd + i * s.ld) = s.rh - i * s.rl := by
    have : (s.hd + i * s.ld) * num % den = den - (s.rh - i * s.rl) := ha.high_val
    show den - (s.hd + i * s.ld) * num % den = _
    omega
  have vb : val num den true (s.hd + ((i : Int) + 1) * s.ld) = s.rh - ((i : Int) + 1) * s.rl := by
    have : (s.hd + ((i : Int) + 1) * s.ld) * num % den = den - (s.rh - ((i : Int) + 1) * s.rl) := hb.high_val
    show den - (s.hd + ((i : Int) + 1) * s.ld) * num % den = _
    omega
  have e1 : ((i : Int) + 1) * s.rl = i * s.rl + s.rl := by rw [Int.add_mul, Int.one_mul]
  have e2 : ((i : Int) + 1) * s.ld = i * s.ld + s.ld := by rw [Int.add_mul, Int.one_mul]
  have n1 : 0 ≤ (i : Int) * s.ld := Int.mul_nonneg j0 (by omega)
  have hia := IA.upper h hd hi i (by omega)
  have far : ∀ y, 1 ≤ y → y < s.hd + ((i : Int) + 1) * s.ld → s.rh - i * s.rl ≤ val num den true y ∧ (s.hd + i * s.ld < y → s.rh - i * s.rl < val num den true y) := by
    intro y y1 y2
    exact IA.far ha hd hia y1 (show y < s.hd + i * s.ld + s.ld by omega)
  refine ⟨⟨by omega, fun y y1 y2 => ?_⟩, fun y y1 y2 hr => ?_, by omega⟩
  · have := (far y y1 y2).1
    omega
  · have := (far y (by omega) y2).2 y1
    have := hr.2 _ (by omega) y1
    omega
end

/-- What the laws say of a list of runs. -/
structure Lists (num den limit : Int) (above : Bool) (e : Int) (ts : List (Int × Int × Int)) : Prop where
  good : Good limit ts
  runs : ∀ t ∈ ts, RunOk (Rec (val num den above) e) (val num den above) t
  tally : tally ts = (cnt (val num den above) e limit.toNat : Int)

theorem runOk_one {R : Int → Prop} {V : Int → Int} (h : R 1) : RunOk R V (1, 1, 1) := by
  intro _
  refine ⟨?_, 0, ?_⟩
  · rintro x ⟨j, j0, _, j1, rfl⟩
    simp only [Int.sub_self, Int.zero_ediv] at j1
    have e : j = 0 := by omega
    subst e
    exact h
  · intro j j0 j1
    simp only [Int.sub_self, Int.zero_ediv] at j1
    omega

theorem rec_one (W : Int → Int) (e : Int) : Rec W e 1 := ⟨Int.le_refl _, fun y y1 y2 => by omega⟩
theorem cnt_first (W : Int → Int) (e : Int) : cnt W e 1 = 1 := by simp [cnt, isRec]
theorem tally_first : tally [(1, 1, 1)] = 1 := rfl

theorem mem_snoc {P : Int × Int × Int → Prop} {ts : List (Int × Int × Int)} {t : Int × Int × Int} (h : ∀ u ∈ ts, P u) (ht : P t) : ∀ u ∈ ts ++ [t], P u := by
  intro u hu
  rcases List.mem_append.1 hu with h' | h'
  · exact h u h'
  · obtain rfl := List.mem_singleton.1 h'
    exact ht

theorem good_first {limit : Int} (h : 1 ≤ limit) : Good limit [(1, 1, 1)] := by
  intro i hi
  have e : i = 0 := by simp at hi; omega
  subst e
  exact .inr ⟨Int.le_refl _, Int.le_refl _, by show (0 : Int) < 1; decide, h, rfl⟩

/-- closestBelow, round by round. -/
theorem runsB_all {num den limit : Int} (h0 : 1 ≤ num) (h1 : num < den) (h2 : den ≤ limit) : ∀ k : Nat, (∀ j, j < k → ((sb0 num den).it j).down.rl ≠ 0) →
    Good limit (runsB num den k) ∧ lastPt (runsB num den k) = ((sb0 num den).it k).ld ∧ (∀ t ∈ runsB num den k, RunOk (Rec (val num den false) 1) (val num den false) t) ∧
    tally (runsB num den k) = (cnt (val num den false) 1 ((sb0 num den).it k).ld.toNat : Int)
  | 0, _ => by
    refine ⟨good_first (by omega), rfl, ?_, ?_⟩
    · intro t ht
      obtain rfl : t = (1, 1, 1) := by simpa [runsB] using ht
      exact runOk_one (rec_one _ _)
    · show tally [(1, 1, 1)] = (cnt (val num den false) 1 1 : Int)
      rw [cnt_first, tally_first]
      rfl
  | k + 1, h => by
    obtain ⟨g1, g2, g3, g4⟩ := runsB_all h0 h1 h2 k (fun j hj => h j (by omega))
    have hf := (fine_it (by omega) h1 k (fun j hj => h j (by omega))).ok
    have hdn := hf.down
    have e : ((sb0 num den).it (k + 1)).ld = ((sb0 num den).it k).down.ld := rfl
    rw [runsB_succ, e]
    generalize (sb0 num den).it k = s at *
    have e2 : s.down.ld = s.ld + s.rl / s.rh * s.hd := rfl
    have rh1 := hf.rh1
    have hd1 := hf.hd1
    have ld1 := hf.ld1
    have q0 : 0 ≤ s.rl / s.rh := Int.ediv_nonneg hf.rl0 (by omega)
    have hq : s.rl / s.rh * s.rh ≤ s.rl := Int.ediv_mul_le _ (by omega)
    have hl := hdn.ld_le
    have hst := fun j j0 j1 => stepB hf (by omega) hq j j0 j1
    have er : s.runB = (s.ld + s.hd, s.hd, s.ld + s.rl / s.rh * s.hd) := rfl
    rw [er]
    refine ⟨g1.snoc (goodAt_grid hd1 (by omega) (by omega)), ?_, mem_snoc g3 (runOk_grid (c := -s.rh) hd1 (fun j j0 j1 => (hst j j0 j1).1) (fun j j0 j1 => (hst j j0 j1).2.2)), ?_⟩
    · rw [lastPt_grid hd1 q0 g2, e2]
    · rw [tally_grid hd1 q0, g4, e2]
      obtain ⟨Q, hQ⟩ := Int.eq_ofNat_of_zero_le q0
      rw [hQ] at hst ⊢
      rw [cnt_grid (by omega) (by omega) s.ld s.hd (by omega) hd1 Q (fun j j0 j1 => ⟨(hst j j0 j1).1, (hst j j0 j1).2.1⟩)]
      omega

theorem listB_lists {num den limit : Int} {k : Nat} (h0 : 1 ≤ num) (h1 : num < den) (h2 : den ≤ limit) (hg : Int.gcd num den = 1) (h : Stops num den k) : Lists num den limit false 1 (runsB num den (k + 1)) := by
  obtain ⟨g1, g2, g3, g4⟩ := runsB_all h0 h1 h2 k h.1
  have hf := (fine_it (by omega) h1 k h.1).ok
  have hl := h.last (by omega) h1 hg
  have hz := h.2
  rw [runsB_succ]
  generalize (sb0 num den).it k = s at *
  have hdn := hf.down
  have e2 : s.down.ld = s.ld + s.rl / s.rh * s.hd := rfl
  have rh1 := hf.rh1
  have hd1 := hf.hd1
  have ld1 := hf.ld1
  have q0 : 0 ≤ s.rl / s.rh := Int.ediv_nonneg hf.rl0 (by omega)
  have hq : s.rl / s.rh * s.rh ≤ s.rl := Int.ediv_mul_le _ (by omega)
  have hst := fun j j0 j1 => stepB hf (by omega) hq j j0 j1
  have er : s.runB = (s.ld + s.hd, s.hd, s.ld + s.rl / s.rh * s.hd) := rfl
  have hv : val num den false den = 0 := by
    have := hdn.low_val
    rw [hl.2, hz] at this
    exact this
  rw [er]
  refine ⟨g1.snoc (goodAt_grid hd1 (by omega) (by omega)), mem_snoc g3 (runOk_grid (c := -s.rh) hd1 (fun j j0 j1 => (hst j j0 j1).1) (fun j j0 j1 => (hst j j0 j1).2.2)), ?_⟩
  rw [tally_grid hd1 q0, g4]
  have hc : cnt (val num den false) 1 limit.toNat = cnt (val num den false) 1 den.toNat := by
    obtain ⟨d, hd⟩ : ∃ d, limit.toNat = den.toNat + d := ⟨limit.toNat - den.toNat, by omega⟩
    rw [hd]
    refine cnt_none (by omega) (by omega) _ d (fun y y1 _ hr => ?_)
    have := hr.2 den (by omega) (by omega)
    have := (val_bounds (num := num) (show 1 ≤ den by omega) false y).1
    omega
  have hdt : den.toNat = (s.ld + s.rl / s.rh * s.hd).toNat := by rw [← e2, hl.2]
  rw [hc, hdt]
  obtain ⟨Q, hQ⟩ := Int.eq_ofNat_of_zero_le q0
  rw [hQ] at hst ⊢
  rw [cnt_grid (by omega) (by omega) s.ld s.hd (by omega) hd1 Q (fun j j0 j1 => ⟨(hst j j0 j1).1, (hst j j0 j1).2.1⟩)]
  omega

/-- num = den = 1. -/
theorem listB_one {limit : Int} (h2 : 1 ≤ limit) : Lists 1 1 limit false 1 [(1, 1, 1)] := by
  refine ⟨good_first h2, ?_, ?_⟩
  · intro t ht
    obtain rfl : t = (1, 1, 1) := by simpa using ht
    exact runOk_one (rec_one _ _)
  · have hc : cnt (val 1 1 false) 1 limit.toNat = cnt (val 1 1 false) 1 1 := by
      obtain ⟨d, hd⟩ : ∃ d, limit.toNat = 1 + d := ⟨limit.toNat - 1, by omega⟩
      rw [hd]
      refine cnt_none (by omega) (by omega) _ d (fun y y1 _ hr => ?_)
      have := hr.2 1 (by omega) (by omega)
      simp [val, Int.emod_one] at this
    rw [hc, cnt_first, tally_first]
    rfl

/-- closestAbove, round by round. -/
theorem runsA_all {num den limit : Int} (h0 : 0 ≤ num) (h1 : num < den) (h2 : den ≤ limit) : ∀ k : Nat, (∀ j, j < k → ((sb0 num den).it j).down.rl ≠ 0) →
    IA num den ((sb0 num den).it k) ∧ (∀ t ∈ runsA num den k, RunOk (Rec (val num den true) 0) (val num den true) t) ∧
    tally (runsA num den k) = (cnt (val num den true) 0 ((sb0 num den).it k).hd.toNat : Int)
  | 0, _ => by
    refine ⟨?_, ?_, ?_⟩
    · intro y y1 y2
      have : y < 1 := y2
      omega
    · intro t ht
      obtain rfl : t = (1, 1, 1) := by simpa [runsA] using ht
      exact runOk_one (rec_one _ _)
    · show tally [(1, 1, 1)] = (cnt (val num den true) 0 1 : Int)
      rw [cnt_first, tally_first]
      rfl
  | k + 1, h => by
    obtain ⟨g2, g3, g4⟩ := runsA_all h0 h1 h2 k (fun j hj => h j (by omega))
    have hf := (fine_it h0 h1 k (fun j hj => h j (by omega))).ok
    have hdn := hf.down
    have hr := h k (by omega)
    have e : ((sb0 num den).it (k + 1)) = ((sb0 num den).it k).next := rfl
    rw [runsA_succ, e]
    generalize (sb0 num den).it k = s at *
    have hia : IA num den s.down := g2
    have rh1 := hdn.rh1
    have rl0 := hdn.rl0
    have hd1 := hdn.hd1
    have ld1 := hdn.ld1
    have q0 : 0 ≤ (s.down.rh - 1) / s.down.rl := Int.ediv_nonneg (by omega) (by omega)
    have hq : (s.down.rh - 1) / s.down.rl * s.down.rl < s.down.rh := by
      have := Int.ediv_mul_le (s.down.rh - 1) hr
      omega
    have hst := fun j j0 j1 => stepA hdn (by omega) hia hq j j0 j1
    have e2 : s.next.hd = s.hd + (s.down.rh - 1) / s.down.rl * s.down.ld := rfl
    have e3 : s.down.hd = s.hd := rfl
    rw [e3] at hst hd1
    rw [Sb.runA_grid]
    refine ⟨?_, mem_snoc g3 (runOk_grid (c := -s.down.rl) ld1 (fun j j0 j1 => (hst j j0 j1).1) (fun j j0 j1 => (hst j j0 j1).2.2)), ?_⟩
    · obtain ⟨Q, hQ⟩ := Int.eq_ofNat_of_zero_le q0
      have := IA.upper hdn (by omega) hia Q (by rw [← hQ]; exact hq)
      rw [← hQ] at this
      exact this
    · rw [tally_grid ld1 q0, g4, e2]
      obtain ⟨Q, hQ⟩ := Int.eq_ofNat_of_zero_le q0
      rw [hQ] at hst ⊢
      rw [cnt_grid (by omega) (by omega) s.hd s.down.ld (by omega) ld1 Q (fun j j0 j1 => ⟨(hst j j0 j1).1, (hst j j0 j1).2.1⟩)]
      omega

theorem listA_lists {num den limit : Int} {k : Nat} (h0 : 0 ≤ num) (h1 : num < den) (h2 : den ≤ limit) (h : Stops num den k) : Lists num den limit true 0 (listA num den limit k) := by
  obtain ⟨g2, g3, g4⟩ := runsA_all h0 h1 h2 k h.1
  have hfn := fine_it h0 h1 k h.1
  have hf := hfn.ok
  have ht := hfn.top
  have hz := h.2
  refine ⟨(listA_good h0 h1 h2 h).1, ?_, ?_⟩
  all_goals
    unfold listA
    generalize (sb0 num den).it k = s at *
    have hdn := hf.down
    have hia : IA num den s.down := g2
    have rh1 := hdn.rh1
    have ld1 := hdn.ld1
    have hd1 := hf.hd1
    have q0 : 0 ≤ (limit - s.hd) / s.down.ld := Int.ediv_nonneg (by omega) (by omega)
    have hq : ((limit - s.hd) / s.down.ld + 1) * s.down.rl < s.down.rh := by rw [hz, Int.mul_zero]; omega
    have hst := fun j j0 j1 => stepA hdn (by omega) hia hq j j0 j1
    have e3 : s.down.hd = s.hd := rfl
    rw [e3] at hst
    have er : s.endA limit = (s.hd + s.down.ld, s.down.ld, s.hd + (limit - s.hd) / s.down.ld * s.down.ld) := rfl
    rw [er]
  · exact mem_snoc g3 (runOk_grid (c := -s.down.rl) ld1 (fun j j0 j1 => (hst j j0 (by omega)).1) (fun j j0 j1 => (hst j j0 (by omega)).2.2))
  · rw [tally_grid ld1 q0, g4]
    have hm := Int.ediv_mul_le (limit - s.hd) (show s.down.ld ≠ 0 by omega)
    have hm2 := Int.lt_ediv_add_one_mul_self (limit - s.hd) (show 0 < s.down.ld by omega)
    obtain ⟨Q, hQ⟩ := Int.eq_ofNat_of_zero_le q0
    rw [hQ] at hst hm hm2 ⊢
    have n0 : 0 ≤ (Q : Int) * s.down.ld := Int.mul_nonneg (by omega) (by omega)
    have hc : cnt (val num den true) 0 limit.toNat = cnt (val num den true) 0 (s.hd + (Q : Int) * s.down.ld).toNat := by
      obtain ⟨d, hd⟩ : ∃ d, limit.toNat = (s.hd + (Q : Int) * s.down.ld).toNat + d := ⟨limit.toNat - (s.hd + (Q : Int) * s.down.ld).toNat, by omega⟩
      rw [hd]
      exact cnt_none (by omega) (by omega) _ d (fun y y1 y2 => (hst Q (by omega) (by omega)).2.1 y (by omega) (by omega))
    rw [hc, cnt_grid (by omega) (by omega) s.hd s.down.ld (by omega) ld1 Q (fun j j0 j1 => ⟨(hst j j0 (by omega)).1, (hst j j0 (by omega)).2.1⟩)]
    omega

/-- The count stays within the points' range. -/
theorem Good.tally_le {limit : Int} {ts : List (Int × Int × Int)} (h : Good limit ts) (hl : 0 ≤ limit) : ∀ k : Nat, k ≤ ts.length → 0 ≤ tally (ts.take k) ∧ tally (ts.take k) ≤ lastPt (ts.take k) ∧ lastPt (ts.take k) ≤ limit
  | 0, _ => by simp [tally, lastPt]; exact hl
  | k + 1, hk => by
    obtain ⟨i0, i1, i2⟩ := h.tally_le hl k (by omega)
    have hg := h k (by omega)
    rw [List.take_succ_eq_append_getElem (by omega), lastPt_snoc, tally_snoc]
    rcases hg with hg | ⟨g1, g2, g3, g4, g5⟩
    · rw [if_neg (by omega), if_neg (by omega)]
      exact ⟨i0, i1, i2⟩
    · rw [if_pos g1, if_pos g1]
      have d0 := Int.ediv_nonneg (show 0 ≤ ts[k].2.2 - ts[k].1 by omega) (show 0 ≤ ts[k].2.1 by omega)
      have d1 := Int.ediv_le_self ts[k].2.1 (show 0 ≤ ts[k].2.2 - ts[k].1 by omega)
      omega

end Go.Proofs.Qxb6619080a
