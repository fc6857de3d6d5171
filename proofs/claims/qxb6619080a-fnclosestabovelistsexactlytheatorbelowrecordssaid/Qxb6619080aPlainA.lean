/-
  Plain mathematics, more: what closestAbove writes down; what the laws ask of a list of runs. No Go in sight.
-/
import Derived.Test.Qxb6619080aPlain
namespace Go.Proofs.Qxb6619080a

/-- What closestAbove writes down in a round that goes on. -/
def Sb.runA (s : Sb) : Int × Int × Int := (s.hd + s.down.ld, s.down.ld, s.next.hd)
def runsA (num den : Int) (k : Nat) : List (Int × Int × Int) := (1, 1, 1) :: (List.range k).map fun j => ((sb0 num den).it j).runA
/-- And in the round that returns. -/
def Sb.endA (s : Sb) (limit : Int) : Int × Int × Int := (s.hd + s.down.ld, s.down.ld, s.hd + (limit - s.hd) / s.down.ld * s.down.ld)
def listA (num den limit : Int) (k : Nat) : List (Int × Int × Int) := runsA num den k ++ [((sb0 num den).it k).endA limit]

theorem runsA_length (num den : Int) (k : Nat) : (runsA num den k).length = k + 1 := by simp [runsA]
theorem listA_length (num den limit : Int) (k : Nat) : (listA num den limit k).length = k + 2 := by simp [listA, runsA_length]
theorem runsA_succ (num den : Int) (k : Nat) : runsA num den (k + 1) = runsA num den k ++ [((sb0 num den).it k).runA] := by
  simp [runsA, List.range_succ]

/-- What zzPoints and zzCheckRuns ask of one run, the last point before it being prev. -/
def GoodAt (limit prev : Int) (t : Int × Int × Int) : Prop :=
  t.2.2 < t.1 ∨ (t.1 ≤ t.2.2 ∧ 1 ≤ t.2.1 ∧ prev < t.1 ∧ t.2.2 ≤ limit ∧ (t.2.2 - t.1) % t.2.1 = 0)
def Good (limit : Int) (ts : List (Int × Int × Int)) : Prop := ∀ (i : Nat) (h : i < ts.length), GoodAt limit (lastPt (ts.take i)) ts[i]

theorem Good.snoc {limit : Int} {ts : List (Int × Int × Int)} {t : Int × Int × Int} (h : Good limit ts) (ht : GoodAt limit (lastPt ts) t) : Good limit (ts ++ [t]) := by
  intro i hi
  by_cases hl : i < ts.length
  · rw [List.getElem_append_left hl, List.take_append_of_le_length (by omega)]
    exact h i hl
  · have e : i = ts.length := by simp at hi; omega
    subst e
    simp only [List.take_left', List.getElem_concat_length]
    exact ht

theorem Good.last_nn {limit : Int} {ts : List (Int × Int × Int)} (h : Good limit ts) : ∀ k : Nat, k ≤ ts.length → 0 ≤ lastPt (ts.take k)
  | 0, _ => by simp [lastPt]
  | k + 1, hk => by
    have ih := h.last_nn k (by omega)
    have hg := h k (by omega)
    rw [List.take_succ_eq_append_getElem (by omega), lastPt_snoc]
    rcases hg with hg | ⟨g1, g2, g3, g4, g5⟩
    · rw [if_neg (by omega)]
      exact ih
    · rw [if_pos g1]
      omega

/-- x is a point of the run t. -/
def OnRun (t : Int × Int × Int) (x : Int) : Prop := ∃ j : Int, 0 ≤ j ∧ t.1 ≤ t.2.2 ∧ j ≤ (t.2.2 - t.1) / t.2.1 ∧ x = t.1 + j * t.2.1
def On (ts : List (Int × Int × Int)) (x : Int) : Prop := ∃ t ∈ ts, OnRun t x

theorem On_snoc (ts : List (Int × Int × Int)) (t : Int × Int × Int) (x : Int) : On (ts ++ [t]) x ↔ On ts x ∨ OnRun t x := by
  constructor
  · rintro ⟨u, hu, hx⟩
    rcases List.mem_append.1 hu with h | h
    · exact .inl ⟨u, h, hx⟩
    · obtain rfl := List.mem_singleton.1 h
      exact .inr hx
  · rintro (⟨u, hu, hx⟩ | hx)
    · exact ⟨u, List.mem_append.2 (.inl hu), hx⟩
    · exact ⟨t, List.mem_append.2 (.inr (List.mem_singleton.2 rfl)), hx⟩

/-- A run a + d, a + 2d, .., a + q d. -/
theorem grid_mod {d q : Int} : (q * d - d) % d = 0 := by
  have e : q * d - d = d * (q - 1) := by rw [Int.mul_sub, Int.mul_one, Int.mul_comm]
  rw [e, Int.mul_emod_right]

theorem grid_div {d q : Int} (hd : 1 ≤ d) : (q * d - d) / d = q - 1 := by
  have e : q * d - d = (q - 1) * d := by rw [Int.sub_mul, Int.one_mul]
  rw [e, Int.mul_ediv_cancel _ (by omega)]

theorem goodAt_grid {limit prev a d q : Int} (hd : 1 ≤ d) (hp : prev ≤ a) (hl : a + q * d ≤ limit) : GoodAt limit prev (a + d, d, a + q * d) := by
  by_cases h : a + q * d < a + d
  · exact .inl h
  · refine .inr ⟨by simp only; omega, hd, by simp only; omega, hl, ?_⟩
    simp only
    rw [show a + q * d - (a + d) = q * d - d by omega]
    exact grid_mod

theorem onRun_grid {a d q x : Int} (hd : 1 ≤ d) : OnRun (a + d, d, a + q * d) x ↔ ∃ j : Int, 1 ≤ j ∧ j ≤ q ∧ x = a + j * d := by
  have e : (a + q * d - (a + d)) / d = q - 1 := by
    rw [show a + q * d - (a + d) = q * d - d by omega]
    exact grid_div hd
  constructor
  · rintro ⟨j, h0, h1, h2, h3⟩
    simp only [e] at h1 h2 h3
    exact ⟨j + 1, by omega, by omega, by rw [Int.add_mul, Int.one_mul]; omega⟩
  · rintro ⟨j, h0, h1, rfl⟩
    refine ⟨j - 1, by omega, ?_, ?_, ?_⟩
    · simp only
      have := Int.mul_le_mul_of_nonneg_right (show 1 ≤ q by omega) (show 0 ≤ d by omega)
      omega
    · simp only [e]
      omega
    · simp only [Int.sub_mul]
      omega

theorem lastPt_grid {ts : List (Int × Int × Int)} {a d q : Int} (hd : 1 ≤ d) (hq : 0 ≤ q) (hl : lastPt ts = a) : lastPt (ts ++ [(a + d, d, a + q * d)]) = a + q * d := by
  rw [lastPt_snoc]
  by_cases h : 1 ≤ q
  · have := Int.mul_le_mul_of_nonneg_right h (show 0 ≤ d by omega)
    rw [if_pos (by simp only; omega)]
  · have e : q = 0 := by omega
    subst e
    rw [if_neg (by simp only; omega), hl]
    omega

/-- The facts on closestAbove's runs. -/
theorem Sb.runA_grid (s : Sb) : s.runA = (s.hd + s.down.ld, s.down.ld, s.hd + (s.down.rh - 1) / s.down.rl * s.down.ld) := rfl

theorem runsA_good {num den limit : Int} (h0 : 0 ≤ num) (h1 : num < den) (h2 : den ≤ limit) : ∀ k : Nat, (∀ j, j < k → ((sb0 num den).it j).down.rl ≠ 0) →
    Good limit (runsA num den k) ∧ lastPt (runsA num den k) = ((sb0 num den).it k).hd
  | 0, _ => by
    refine ⟨?_, rfl⟩
    intro i hi
    have e : i = 0 := by simp [runsA] at hi; omega
    subst e
    exact .inr ⟨Int.le_refl _, Int.le_refl _, by show (0 : Int) < 1; decide, by show (1 : Int) ≤ limit; omega, rfl⟩
  | k + 1, h => by
    obtain ⟨ih1, ih2⟩ := runsA_good h0 h1 h2 k (fun j hj => h j (by omega))
    have hf := fine_it h0 h1 k (fun j hj => h j (by omega))
    have hr := h k (by omega)
    have hn := hf.next hr
    have hd := hf.ok.down
    have e : ((sb0 num den).it (k + 1)) = ((sb0 num den).it k).next := rfl
    rw [runsA_succ, e]
    generalize (sb0 num den).it k = s at *
    have q0 : 0 ≤ (s.down.rh - 1) / s.down.rl := Int.ediv_nonneg (by have := hd.rh1; omega) hd.rl0
    have ht := hn.top
    have e2 : s.next.hd = s.hd + (s.down.rh - 1) / s.down.rl * s.down.ld := rfl
    rw [Sb.runA_grid]
    constructor
    · refine ih1.snoc (goodAt_grid hd.ld1 (by omega) (by omega))
    · rw [lastPt_grid hd.ld1 q0 ih2, e2]

theorem listA_good {num den limit : Int} {k : Nat} (h0 : 0 ≤ num) (h1 : num < den) (h2 : den ≤ limit) (h : Stops num den k) :
    Good limit (listA num den limit k) ∧ lastPt (listA num den limit k) = ((sb0 num den).it k).hd + (limit - ((sb0 num den).it k).hd) / ((sb0 num den).it k).down.ld * ((sb0 num den).it k).down.ld := by
  obtain ⟨ih1, ih2⟩ := runsA_good h0 h1 h2 k h.1
  have hf := fine_it h0 h1 k h.1
  have hd := hf.ok.down
  unfold listA
  generalize (sb0 num den).it k = s at *
  have ht := hf.top
  have q0 : 0 ≤ (limit - s.hd) / s.down.ld := Int.ediv_nonneg (by omega) (by have := hd.ld1; omega)
  have hm := Int.ediv_mul_le (limit - s.hd) (show s.down.ld ≠ 0 by have := hd.ld1; omega)
  constructor
  · exact ih1.snoc (goodAt_grid hd.ld1 (by omega) (by omega))
  · exact lastPt_grid hd.ld1 q0 ih2

theorem emod_of {x d r k : Int} (h : x = r + d * k) (h0 : 0 ≤ r) (h1 : r < d) : x % d = r := by
  rw [h, Int.add_mul_emod_self_left, Int.emod_eq_of_lt h0 h1]

theorem Sb.Ok.low_val {num den : Int} {s : Sb} (h : s.Ok num den) : s.ld * num % den = s.rl := by
  have e := h.e1
  exact emod_of (k := s.ln) (by rw [Int.mul_comm den]; omega) h.rl0 h.rl_lt

theorem Sb.Ok.high_val {num den : Int} {s : Sb} (h : s.Ok num den) : s.hd * num % den = den - s.rh := by
  have e := h.e2
  have r1 := h.rh1
  have r2 := h.rh_le
  exact emod_of (k := s.hn - 1) (by rw [Int.mul_sub, Int.mul_one, Int.mul_comm den]; omega) (by omega) (by omega)

/-- Two numbers from 1 to den at the same residue are one. -/
theorem same_res {num den x y : Int} (hg : Int.gcd num den = 1) (h : x * num % den = y * num % den) (hx : 1 ≤ x) (hx' : x ≤ den) (hy : 1 ≤ y) (hy' : y ≤ den) : x = y := by
  have h1 : den ∣ (x - y) * num := by
    rw [Int.sub_mul]
    exact Int.dvd_of_emod_eq_zero (Int.emod_eq_emod_iff_emod_sub_eq_zero.1 h)
  have hg' : Int.gcd den num = 1 := by rw [Int.gcd_comm]; exact hg
  have h2 : den ∣ x - y := by
    rw [Int.mul_comm] at h1
    have h3 := Int.dvd_coe_gcd (Int.dvd_refl den) h1
    rw [Int.gcd_mul_right_right_of_gcd_eq_one hg'] at h3
    exact Int.dvd_trans h3 (Int.gcd_dvd_right _ _)
  obtain ⟨c, hc⟩ := h2
  rcases Int.lt_trichotomy c 0 with h3 | h3 | h3
  · have := Int.mul_le_mul_of_nonneg_left (show c ≤ -1 by omega) (show 0 ≤ den by omega)
    omega
  · subst h3
    omega
  · have := Int.mul_le_mul_of_nonneg_left (show 1 ≤ c by omega) (show 0 ≤ den by omega)
    omega

/-- The x0 of the law: the upper end's denominator in the last round. -/
theorem Stops.x0 {num den : Int} {k : Nat} (h0 : 0 ≤ num) (h1 : num < den) (hg : Int.gcd num den = 1) (h : Stops num den k) (x : Int) (hx : 1 ≤ x) (hx' : x ≤ den) :
    x * num % den = den - 1 ↔ x = ((sb0 num den).it k).hd := by
  have hf := fine_it h0 h1 k h.1
  have hv := hf.ok.high_val
  rw [(h.last h0 h1 hg).1] at hv
  constructor
  · intro e
    exact same_res hg (e.trans hv.symm) hx hx' hf.ok.hd1 hf.top
  · intro e
    rw [e, hv]

/-- A larger limit lists no other point up to the smaller one. -/
theorem listA_cut {num den limit limit2 : Int} {k : Nat} (h0 : 0 ≤ num) (h1 : num < den) (h3 : limit ≤ limit2) (h : Stops num den k) (x : Int) (hx : x ≤ limit) :
    On (listA num den limit k) x ↔ On (listA num den limit2 k) x := by
  have hf := fine_it h0 h1 k h.1
  have hd := hf.ok.down.ld1
  unfold listA
  rw [On_snoc, On_snoc]
  generalize (sb0 num den).it k = s at *
  refine or_congr_right ?_
  unfold Sb.endA
  rw [onRun_grid hd, onRun_grid hd]
  constructor
  · rintro ⟨j, j1, j2, j3⟩
    refine ⟨j, j1, ?_, j3⟩
    rw [Int.le_ediv_iff_mul_le (by omega)] at j2 ⊢
    omega
  · rintro ⟨j, j1, j2, j3⟩
    refine ⟨j, j1, ?_, j3⟩
    rw [Int.le_ediv_iff_mul_le (by omega)]
    omega

end Go.Proofs.Qxb6619080a
