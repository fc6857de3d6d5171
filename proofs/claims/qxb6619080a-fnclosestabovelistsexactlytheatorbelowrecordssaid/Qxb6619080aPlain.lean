/-
  Plain mathematics of the Stern-Brocot search that closestAbove and closestBelow make. No Go in sight.
-/
namespace Go.Proofs.Qxb6619080a

/-- The state of the search: the two ends lo = ln/ld and hi = hn/hd, and the two remainders. -/
structure Sb where
  ln : Int
  ld : Int
  hn : Int
  hd : Int
  rl : Int
  rh : Int

def Sb.lower (s : Sb) (q : Int) : Sb := ⟨s.ln + q * s.hn, s.ld + q * s.hd, s.hn, s.hd, s.rl - q * s.rh, s.rh⟩
def Sb.upper (s : Sb) (q : Int) : Sb := ⟨s.ln, s.ld, s.hn + q * s.ln, s.hd + q * s.ld, s.rl, s.rh - q * s.rl⟩
/-- The lower end moved as far as it goes. -/
def Sb.down (s : Sb) : Sb := s.lower (s.rl / s.rh)
/-- One round of the loop that does not return. -/
def Sb.next (s : Sb) : Sb := s.down.upper ((s.down.rh - 1) / s.down.rl)
def Sb.it : Nat → Sb → Sb
  | 0, s => s
  | k + 1, s => (Sb.it k s).next
def sb0 (num den : Int) : Sb := ⟨0, 1, 1, 1, num, den - num⟩

structure Sb.Ok (num den : Int) (s : Sb) : Prop where
  ln0 : 0 ≤ s.ln
  ld1 : 1 ≤ s.ld
  hn1 : 1 ≤ s.hn
  hd1 : 1 ≤ s.hd
  rl0 : 0 ≤ s.rl
  rh1 : 1 ≤ s.rh
  e1 : s.ld * num - s.ln * den = s.rl
  e2 : s.hn * den - s.hd * num = s.rh
  e3 : s.hn * s.ld - s.ln * s.hd = 1
  d1 : s.ld * s.rh + s.hd * s.rl = den
  d2 : s.ln * s.rh + s.hn * s.rl = num

theorem sb0_ok {num den : Int} (h0 : 0 ≤ num) (h1 : num < den) : (sb0 num den).Ok num den := by
  constructor <;> simp [sb0] <;> omega

theorem mul_nn {a b : Int} (ha : 0 ≤ a) (hb : 0 ≤ b) : 0 ≤ a * b := Int.mul_nonneg ha hb

/-- a ≤ a * b where 0 ≤ a, 1 ≤ b -/
theorem le_mul_one {a b : Int} (ha : 0 ≤ a) (hb : 1 ≤ b) : a ≤ a * b := by
  have h := Int.mul_le_mul_of_nonneg_left hb ha
  rwa [Int.mul_one] at h

theorem Sb.Ok.lower {num den : Int} {s : Sb} (h : s.Ok num den) {q : Int} (hq : 0 ≤ q) (hr : q * s.rh ≤ s.rl) : (s.lower q).Ok num den := by
  obtain ⟨ln0, ld1, hn1, hd1, rl0, rh1, e1, e2, e3, d1, d2⟩ := h
  obtain ⟨ln, ld, hn, hd, rl, rh⟩ := s
  simp only at ln0 ld1 hn1 hd1 rl0 rh1 e1 e2 e3 d1 d2 hr
  have a1 := mul_nn hq (show 0 ≤ hn by omega)
  have a2 := mul_nn hq (show 0 ≤ hd by omega)
  have b1 : q * rh = q * (hn * den) - q * (hd * num) := by rw [← Int.mul_sub, e2]
  constructor <;> simp only [Sb.lower]
  · omega
  · omega
  · omega
  · omega
  · omega
  · omega
  · simp only [Int.add_mul, Int.mul_assoc]
    omega
  · exact e2
  · have c : hn * (q * hd) = q * hn * hd := by rw [Int.mul_left_comm, Int.mul_assoc]
    simp only [Int.add_mul, Int.mul_add]
    omega
  · have c : hd * (q * rh) = q * hd * rh := by rw [Int.mul_left_comm, Int.mul_assoc]
    simp only [Int.add_mul, Int.mul_sub]
    omega
  · have c : hn * (q * rh) = q * hn * rh := by rw [Int.mul_left_comm, Int.mul_assoc]
    simp only [Int.add_mul, Int.mul_sub]
    omega

theorem Sb.Ok.upper {num den : Int} {s : Sb} (h : s.Ok num den) {q : Int} (hq : 0 ≤ q) (hr : q * s.rl < s.rh) : (s.upper q).Ok num den := by
  obtain ⟨ln0, ld1, hn1, hd1, rl0, rh1, e1, e2, e3, d1, d2⟩ := h
  obtain ⟨ln, ld, hn, hd, rl, rh⟩ := s
  simp only at ln0 ld1 hn1 hd1 rl0 rh1 e1 e2 e3 d1 d2 hr
  have a1 := mul_nn hq ln0
  have a2 := mul_nn hq (show 0 ≤ ld by omega)
  have b1 : q * rl = q * (ld * num) - q * (ln * den) := by rw [← Int.mul_sub, e1]
  constructor <;> simp only [Sb.upper]
  · omega
  · omega
  · omega
  · omega
  · omega
  · omega
  · exact e1
  · simp only [Int.add_mul, Int.mul_assoc]
    omega
  · have c : ln * (q * ld) = q * ln * ld := by rw [Int.mul_left_comm, Int.mul_assoc]
    simp only [Int.add_mul, Int.mul_add]
    omega
  · have c : ld * (q * rl) = q * ld * rl := by rw [Int.mul_left_comm, Int.mul_assoc]
    simp only [Int.add_mul, Int.mul_sub]
    omega
  · have c : ln * (q * rl) = q * ln * rl := by rw [Int.mul_left_comm, Int.mul_assoc]
    simp only [Int.add_mul, Int.mul_sub]
    omega

theorem Sb.Ok.down {num den : Int} {s : Sb} (h : s.Ok num den) : s.down.Ok num den :=
  h.lower (Int.ediv_nonneg h.rl0 (by have := h.rh1; omega)) (Int.ediv_mul_le _ (by have := h.rh1; omega))

theorem Sb.down_rl (s : Sb) : s.down.rl = s.rl % s.rh := by
  show s.rl - s.rl / s.rh * s.rh = _
  rw [Int.emod_def, Int.mul_comm]

theorem Sb.Ok.next {num den : Int} {s : Sb} (h : s.Ok num den) (hr : s.down.rl ≠ 0) : s.next.Ok num den := by
  have hd := h.down
  have r0 := hd.rl0
  have r1 := hd.rh1
  refine hd.upper (Int.ediv_nonneg (by omega) (by omega)) ?_
  have := Int.ediv_mul_le (s.down.rh - 1) hr
  omega

/-- What holds at the head of round k. -/
structure Sb.Fine (num den : Int) (k : Nat) (s : Sb) : Prop where
  ok : s.Ok num den
  grow : ((2 ^ k : Nat) : Int) ≤ s.hd
  big : s.hd ≤ s.ld ∨ s.rh ≤ s.rl
  top : s.hd ≤ den

theorem fine0 {num den : Int} (h0 : 0 ≤ num) (h1 : num < den) : (sb0 num den).Fine num den 0 :=
  ⟨sb0_ok h0 h1, by simp [sb0], .inl (Int.le_refl _), by simp [sb0]; omega⟩

theorem Sb.Ok.hd_le {num den : Int} {s : Sb} (h : s.Ok num den) (hr : 1 ≤ s.rl) : s.ld + s.hd ≤ den := by
  have h1 := le_mul_one (show 0 ≤ s.ld by have := h.ld1; omega) h.rh1
  have h2 := le_mul_one (show 0 ≤ s.hd by have := h.hd1; omega) hr
  have := h.d1
  omega

theorem Sb.Ok.ld_le {num den : Int} {s : Sb} (h : s.Ok num den) : s.ld ≤ den := by
  have h1 := le_mul_one (show 0 ≤ s.ld by have := h.ld1; omega) h.rh1
  have h2 := mul_nn (show 0 ≤ s.hd by have := h.hd1; omega) h.rl0
  have := h.d1
  omega

theorem Sb.Ok.ln_le {num den : Int} {s : Sb} (h : s.Ok num den) : s.ln ≤ num := by
  have h1 := le_mul_one h.ln0 h.rh1
  have h2 := mul_nn (show 0 ≤ s.hn by have := h.hn1; omega) h.rl0
  have := h.d2
  omega

theorem Sb.Ok.hn_le {num den : Int} {s : Sb} (h : s.Ok num den) (hr : 1 ≤ s.rl) : s.hn ≤ num := by
  have h1 := mul_nn h.ln0 (show 0 ≤ s.rh by have := h.rh1; omega)
  have h2 := le_mul_one (show 0 ≤ s.hn by have := h.hn1; omega) hr
  have := h.d2
  omega

theorem Sb.Ok.rl_lt {num den : Int} {s : Sb} (h : s.Ok num den) : s.rl < den := by
  have h1 := le_mul_one (show 0 ≤ s.rh by have := h.rh1; omega) h.ld1
  have h2 := le_mul_one h.rl0 h.hd1
  have := h.d1
  have := h.rh1
  rw [Int.mul_comm s.ld, Int.mul_comm s.hd] at *
  omega

theorem Sb.Ok.rh_le {num den : Int} {s : Sb} (h : s.Ok num den) : s.rh ≤ den := by
  have h1 := le_mul_one (show 0 ≤ s.rh by have := h.rh1; omega) h.ld1
  have h2 := mul_nn (show 0 ≤ s.hd by have := h.hd1; omega) h.rl0
  have := h.d1
  rw [Int.mul_comm s.ld] at this
  omega

theorem Sb.Fine.next {num den : Int} {k : Nat} {s : Sb} (h : s.Fine num den k) (hr : s.down.rl ≠ 0) : s.next.Fine num den (k + 1) := by
  have hk := h.ok.next hr
  have hd := h.ok.down
  have rl0 : 1 ≤ s.down.rl := by have := hd.rl0; omega
  have hlt : s.down.rl < s.rh := by rw [Sb.down_rl]; exact Int.emod_lt_of_pos _ (by have := h.ok.rh1; omega)
  have hrh : s.down.rh = s.rh := rfl
  have q1 : 1 ≤ (s.down.rh - 1) / s.down.rl := by
    rw [Int.le_ediv_iff_mul_le (by omega)]
    omega
  have hnr : s.next.rl = s.down.rl := rfl
  have hnh : s.next.rh = s.down.rh - (s.down.rh - 1) / s.down.rl * s.down.rl := rfl
  have hnd : s.next.hd = s.hd + (s.down.rh - 1) / s.down.rl * s.down.ld := rfl
  have hdl : s.down.ld = s.ld + s.rl / s.rh * s.hd := rfl
  have hl : s.hd ≤ s.down.ld := by
    have hd1 := h.ok.hd1
    have ld1 := h.ok.ld1
    rcases h.big with hb | hb
    · have := mul_nn (Int.ediv_nonneg h.ok.rl0 (by have := h.ok.rh1; omega) : 0 ≤ s.rl / s.rh) (show 0 ≤ s.hd by omega)
      omega
    · have h1 : 1 ≤ s.rl / s.rh := by
        rw [Int.le_ediv_iff_mul_le (by have := h.ok.rh1; omega)]
        omega
      have := le_mul_one (show 0 ≤ s.hd by omega) h1
      rw [Int.mul_comm] at this
      omega
  refine ⟨hk, ?_, .inr ?_, ?_⟩
  · have := le_mul_one (show 0 ≤ s.down.ld by have := hd.ld1; omega) q1
    rw [Int.mul_comm] at this
    have hg := h.grow
    rw [Nat.pow_succ]
    omega
  · rw [hnr, hnh]
    have := Int.lt_ediv_add_one_mul_self (s.down.rh - 1) (show 0 < s.down.rl by omega)
    rw [Int.add_mul] at this
    omega
  · have := hk.hd_le (by omega)
    have := hk.ld1
    omega

theorem Sb.Fine.small {num den : Int} {k : Nat} {s : Sb} (h : s.Fine num den k) (hb : den ≤ 9223372036854775807) : k ≤ 62 := by
  by_cases hk : k ≤ 62
  · exact hk
  · have h1 : 2 ^ 63 ≤ 2 ^ k := Nat.pow_le_pow_right (by decide) (by omega)
    have h2 : (2 : Nat) ^ 63 = 9223372036854775808 := by decide
    have := h.grow
    have := h.top
    rw [h2] at h1
    omega

/-- Round k is the last one: the lower end has come to num/den there, and not before. -/
def Stops (num den : Int) (k : Nat) : Prop :=
  (∀ j, j < k → ((sb0 num den).it j).down.rl ≠ 0) ∧ ((sb0 num den).it k).down.rl = 0

theorem Stops.unique {num den : Int} {k l : Nat} (h : Stops num den k) (h' : Stops num den l) : k = l := by
  rcases Nat.lt_trichotomy k l with c | c | c
  · exact absurd h.2 (h'.1 k c)
  · exact c
  · exact absurd h'.2 (h.1 l c)

theorem fine_it {num den : Int} (h0 : 0 ≤ num) (h1 : num < den) : ∀ k : Nat, (∀ j, j < k → ((sb0 num den).it j).down.rl ≠ 0) → ((sb0 num den).it k).Fine num den k
  | 0, _ => fine0 h0 h1
  | k + 1, h => (fine_it h0 h1 k (fun j hj => h j (by omega))).next (h k (by omega))

/-- From round 1 on the lower remainder is not 0 at a round's head. -/
theorem rl_pos {num den : Int} (h0 : 1 ≤ num) (h1 : num < den) (k : Nat) (h : ∀ j, j < k → ((sb0 num den).it j).down.rl ≠ 0) : 1 ≤ ((sb0 num den).it k).rl := by
  cases k with
  | zero => exact h0
  | succ k =>
    have hf := (fine_it (by omega) h1 k (fun j hj => h j (by omega))).ok.down.rl0
    have hn := h k (by omega)
    show 1 ≤ ((sb0 num den).it k).down.rl
    omega


/-- What the walk of a round wants: its first half. -/
theorem Sb.Ok.half {num den ln ld hn hd rl rh : Int} (h : Sb.Ok num den ⟨ln, ld, hn, hd, rl, rh⟩) {q : Int} (hq : rl / rh = q) :
    0 ≤ q ∧ 0 ≤ q * hd ∧ ld + q * hd ≤ den ∧ 0 ≤ q * hn ∧ ln + q * hn ≤ num ∧ 0 ≤ q * rh ∧ q * rh ≤ rl ∧ rl - q * rh < rh := by
  subst hq
  have q0 : 0 ≤ rl / rh := Int.ediv_nonneg h.rl0 (by have := h.rh1; simp only at this; omega)
  have r1 := h.rh1
  have r2 := h.hd1
  have r3 := h.hn1
  simp only at r1 r2 r3
  refine ⟨q0, mul_nn q0 (by omega), h.down.ld_le, mul_nn q0 (by omega), h.down.ln_le, mul_nn q0 (by omega), Int.ediv_mul_le _ (by omega), ?_⟩
  have := Int.lt_ediv_add_one_mul_self rl (show 0 < rh by omega)
  rw [Int.add_mul] at this
  omega

/-- Its second half. -/
theorem Sb.Ok.half2 {num den ln ld hn hd rl rh : Int} (h : Sb.Ok num den ⟨ln, ld, hn, hd, rl, rh⟩) (hlt : rl < rh) (hr : 1 ≤ rl) {q : Int} (hq : (rh - 1) / rl = q) :
    1 ≤ q ∧ 0 ≤ q * ld ∧ hd + q * ld ≤ den ∧ 0 ≤ q * ln ∧ hn + q * ln ≤ num ∧ rl ≤ q * rl ∧ q * rl < rh := by
  subst hq
  have q1 : 1 ≤ (rh - 1) / rl := by
    rw [Int.le_ediv_iff_mul_le (by omega)]
    omega
  have r1 := h.ld1
  have r2 := h.ln0
  simp only at r1 r2
  have hm := Int.ediv_mul_le (rh - 1) (show rl ≠ 0 by omega)
  have hu := h.upper (q := (rh - 1) / rl) (by omega) (by simp only; omega)
  have h1 := hu.hd_le (by simpa [Sb.upper] using hr)
  have h2 := hu.hn_le (by simpa [Sb.upper] using hr)
  simp only [Sb.upper] at h1 h2
  refine ⟨q1, mul_nn (by omega) (by omega), by omega, mul_nn (by omega) (by omega), h2, ?_, by omega⟩
  have := le_mul_one (show 0 ≤ rl by omega) q1
  rwa [Int.mul_comm] at this

/-- What closestBelow writes down in a round. -/
def Sb.runB (s : Sb) : Int × Int × Int := (s.ld + s.hd, s.hd, s.ld + s.rl / s.rh * s.hd)
def runsB (num den : Int) (k : Nat) : List (Int × Int × Int) := (1, 1, 1) :: (List.range k).map fun j => ((sb0 num den).it j).runB

theorem runsB_length (num den : Int) (k : Nat) : (runsB num den k).length = k + 1 := by simp [runsB]
theorem runsB_succ (num den : Int) (k : Nat) : runsB num den (k + 1) = runsB num den k ++ [((sb0 num den).it k).runB] := by
  simp [runsB, List.range_succ]

def flat (ts : List (Int × Int × Int)) : List Int := ts.flatMap fun t => [t.1, t.2.1, t.2.2]

theorem flat_append (a b : List (Int × Int × Int)) : flat (a ++ b) = flat a ++ flat b := by simp [flat]
theorem flat_length (ts : List (Int × Int × Int)) : (flat ts).length = 3 * ts.length := by
  induction ts with
  | nil => rfl
  | cons t ts ih => simp only [flat, List.flatMap_cons, List.length_append, List.length_cons, List.length_nil] at *; omega

theorem flat_get : ∀ (ts : List (Int × Int × Int)) (k : Nat) (h : k < ts.length), (flat ts)[k * 3]? = some ts[k].1 ∧ (flat ts)[k * 3 + 1]? = some ts[k].2.1 ∧ (flat ts)[k * 3 + 2]? = some ts[k].2.2
  | t :: ts, 0, _ => by simp [flat]
  | t :: ts, k + 1, h => by
    have ih := flat_get ts k (by simpa using h)
    have e : flat (t :: ts) = t.1 :: t.2.1 :: t.2.2 :: flat ts := by simp [flat]
    rw [e, show (k + 1) * 3 = k * 3 + 1 + 1 + 1 by omega]
    simpa using ih

theorem flat_take (ts : List (Int × Int × Int)) (k : Nat) (h : k < ts.length) : flat (ts.take (k + 1)) = flat (ts.take k) ++ [ts[k].1, ts[k].2.1, ts[k].2.2] := by
  rw [List.take_succ_eq_append_getElem h, flat_append]
  rfl

/-- In the last round the lower end comes to num/den itself. -/
theorem Stops.last {num den : Int} {k : Nat} (h0 : 0 ≤ num) (h1 : num < den) (hg : Int.gcd num den = 1) (h : Stops num den k) :
    ((sb0 num den).it k).rh = 1 ∧ ((sb0 num den).it k).down.ld = den := by
  have hok := (fine_it h0 h1 k h.1).ok
  have hd := hok.down
  have hr := h.2
  have d1 := hd.d1
  have d2 := hd.d2
  rw [hr, Int.mul_zero, Int.add_zero] at d1 d2
  have e : ((sb0 num den).it k).down.rh = ((sb0 num den).it k).rh := rfl
  rw [e] at d1 d2
  have hd1 : ((sb0 num den).it k).rh ∣ den := ⟨_, by rw [Int.mul_comm]; exact d1.symm⟩
  have hd2 : ((sb0 num den).it k).rh ∣ num := ⟨_, by rw [Int.mul_comm]; exact d2.symm⟩
  have hd3 := Int.dvd_coe_gcd hd2 hd1
  rw [hg] at hd3
  have h1 : ((sb0 num den).it k).rh = 1 := Int.eq_one_of_dvd_one (by have := hok.rh1; omega) hd3
  rw [h1, Int.mul_one] at d1
  exact ⟨h1, d1⟩

/-- The last point of the runs: as the law looks for it. -/
def lastPt (ts : List (Int × Int × Int)) : Int := ts.foldl (fun acc t => if t.1 ≤ t.2.2 then t.2.2 else acc) 0
theorem lastPt_snoc (ts : List (Int × Int × Int)) (t : Int × Int × Int) : lastPt (ts ++ [t]) = if t.1 ≤ t.2.2 then t.2.2 else lastPt ts := by
  simp [lastPt]

theorem lastPt_runsB {num den : Int} {k : Nat} (h0 : 1 ≤ num) (h1 : num < den) (hg : Int.gcd num den = 1) (h : Stops num den k) : lastPt (runsB num den (k + 1)) = den := by
  have hl := h.last (by omega) h1 hg
  have hp := rl_pos h0 h1 k h.1
  have hok := (fine_it (by omega) h1 k h.1).ok
  rw [runsB_succ, lastPt_snoc]
  generalize (sb0 num den).it k = s at *
  have e2 : s.runB.2.2 = den := hl.2
  have q1 : 1 ≤ s.rl / s.rh := by
    rw [hl.1, Int.ediv_one]
    exact hp
  have e1 : s.runB.1 ≤ s.runB.2.2 := by
    have := le_mul_one (show 0 ≤ s.hd by have := hok.hd1; omega) q1
    rw [Int.mul_comm] at this
    show s.ld + s.hd ≤ s.ld + s.rl / s.rh * s.hd
    omega
  rw [if_pos e1, e2]

end Go.Proofs.Qxb6619080a
