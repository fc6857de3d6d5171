/-
  zzValue and zzCheckRuns by their contracts.
-/
import Derived.Test.Qxb6619080aPts
import Derived.Test.Qxb6619080aPlainS
namespace Go.Proofs.Qxb6619080a
open Go.RowKit

set_option maxHeartbeats 400000 in
theorem zzValue_any (x num den : Int) (above : Bool) (w : World) (hx : 0 ≤ x) (hx' : x ≤ 65536) (h0 : 0 ≤ num) (h0' : num ≤ 65536) (h1 : 1 ≤ den) (h1' : den ≤ 65536) :
    Calls Try.prog 12 #[.int .i64 x, .int .i64 num, .int .i64 den, .bool above] w fun e w' => e = .returned (.int .i64 (val num den above x)) ∧ w = w' := by
  have m1 : 0 ≤ x * num := mul_nn hx h0
  have m2 : x * num ≤ 65536 * 65536 := Int.mul_le_mul hx' h0' h0 (by omega)
  have m3 := Int.emod_nonneg (x * num) (show den ≠ 0 by omega)
  have m4 := Int.emod_lt_of_pos (x * num) (show 0 < den by omega)
  cases above
  · go_enter Try.func12, Try.ntmps12
    go_wp2
    go_ret
    exact ⟨rfl, rfl⟩
  · go_enter Try.func12, Try.ntmps12
    go_wp2
    go_ret
    exact ⟨rfl, rfl⟩

theorem tally_take (ts : List (Int × Int × Int)) (k : Nat) (h : k < ts.length) : tally (ts.take (k + 1)) = if ts[k].1 ≤ ts[k].2.2 then tally (ts.take k) + ((ts[k].2.2 - ts[k].1) / ts[k].2.1 + 1) else tally (ts.take k) := by
  rw [List.take_succ_eq_append_getElem h, tally_snoc]

set_option maxHeartbeats 1600000 in
set_option maxRecDepth 100000 in
theorem zzCheckRuns_any (g cap gr L : Nat) (num den : Int) (above : Bool) (R : Int → Prop) (ts : List (Int × Int × Int)) (w : World)
    (hruns : ∀ (k : Nat) (hk : k < ts.length), w.cell? ⟨g, 3 * k, none⟩ = some (.int .i64 ts[k].1) ∧ w.cell? ⟨g, 3 * k + 1, none⟩ = some (.int .i64 ts[k].2.1) ∧ w.cell? ⟨g, 3 * k + 2, none⟩ = some (.int .i64 ts[k].2.2))
    (hrec : ∀ x : Nat, x ≤ L → ∃ b, w.cell? ⟨gr, x, none⟩ = some (.bool b) ∧ (b = true ↔ R x))
    (hn : ts.length ≤ 100) (hL : L ≤ 65536) (h0 : 0 ≤ num) (h0' : num ≤ 65536) (h1 : 1 ≤ den) (h1' : den ≤ 65536) (hgood : Good L ts) (hok : ∀ t ∈ ts, RunOk R (val num den above) t) :
    Calls Try.prog 8 #[.slice (some ⟨g, 0, none⟩) (3 * ts.length) cap, .int .i64 num, .int .i64 den, .int .i64 L, .bool above, .slice (some ⟨gr, 0, none⟩) (L + 1) (L + 1)] w fun e w' =>
      e = .returned (.tuple #[.int .i64 (tally ts), .bool true]) ∧ w = w' := by
  have HR : Hid (∀ (k : Nat) (hk : k < ts.length), w.cell? ⟨g, 3 * k, none⟩ = some (.int .i64 ts[k].1) ∧ w.cell? ⟨g, 3 * k + 1, none⟩ = some (.int .i64 ts[k].2.1) ∧ w.cell? ⟨g, 3 * k + 2, none⟩ = some (.int .i64 ts[k].2.2)) := hruns
  have HC : Hid (∀ x : Nat, x ≤ L → ∃ b, w.cell? ⟨gr, x, none⟩ = some (.bool b) ∧ (b = true ↔ R x)) := hrec
  have HG : Hid (Good L ts) := hgood
  have HK : Hid (∀ t ∈ ts, RunOk R (val num den above) t) := hok
  clear hruns hrec hgood hok
  go_enter Try.func8, Try.ntmps8
  go_wp2
  go_loop [14, 15, 16] (fun c x i => ∃ k : Nat, k ≤ ts.length ∧ i = .int .i64 (3 * (k : Int)) ∧ x = .int .i64 (lastPt (ts.take k)) ∧ c = .int .i64 (tally (ts.take k))) (fun _ _ i => 3 * ts.length - (intOf i).toNat)
  case atStart => exact ⟨0, Nat.zero_le _, rfl, rfl, rfl⟩
  case round =>
    obtain ⟨k, hk, rfl, rfl, rfl⟩ := hrel
    by_cases hlt : k < ts.length
    · obtain ⟨f, s, l, ht⟩ : ∃ f s l, ts[k] = (f, s, l) := ⟨_, _, _, rfl⟩
      obtain ⟨c0, c1, c2⟩ := HR.out k hlt
      have hg := HG.out k hlt
      have p0 := HG.out.last_nn k hk
      obtain ⟨q0, q1, q2⟩ := HG.out.tally_le (by omega) k hk
      have hrk := HK.out _ (List.getElem_mem hlt)
      have HLP : Hid (lastPt (ts.take (k + 1)) = if f ≤ l then l else lastPt (ts.take k)) := by
        have := lastPt_take ts k hlt
        rw [ht] at this
        exact this
      have HTL : Hid (tally (ts.take (k + 1)) = if f ≤ l then tally (ts.take k) + ((l - f) / s + 1) else tally (ts.take k)) := by
        have := tally_take ts k hlt
        rw [ht] at this
        exact this
      rw [ht] at c0 c1 c2 hg hrk
      simp only at c0 c1 c2
      clear ht
      obtain ⟨p, hp⟩ : ∃ p, lastPt (ts.take k) = p := ⟨_, rfl⟩
      obtain ⟨z, hz⟩ : ∃ z, tally (ts.take k) = z := ⟨_, rfl⟩
      rw [hp] at hg p0 q1 q2
      rw [hz] at q0 q1
      have HP : Hid (lastPt (ts.take k) = p) := hp
      have HZ : Hid (tally (ts.take k) = z) := hz
      rw [hp, hz]
      clear hp hz
      by_cases hfl : l < f
      · clear hrk
        go_wp2
        go_round
        case rel => exact ⟨k + 1, by omega, by go_num, by rw [HLP.out, if_neg (by omega), HP.out], by rw [HTL.out, if_neg (by omega), HZ.out]⟩
        case measure => simp [intOf]; omega
      · obtain ⟨g1, g2, g3, g4, g5⟩ : f ≤ l ∧ 1 ≤ s ∧ p < f ∧ l ≤ L ∧ (l - f) % s = 0 := by
          rcases hg with h | h
          · exact absurd h hfl
          · exact h
        obtain ⟨hpt, c, hlin⟩ := hrk g1
        have HPT : Hid (∀ x, OnRun (f, s, l) x → R x) := hpt
        have e1 : decide (s < 1) = false := by rw [decide_eq_false_iff_not]; omega
        have e2 : decide (f ≤ p) = false := by rw [decide_eq_false_iff_not]; omega
        have e3 : decide ((L : Int) < l) = false := by rw [decide_eq_false_iff_not]; omega
        have e4 : decide (l < f) = false := by rw [decide_eq_false_iff_not]; omega
        obtain ⟨N, hN⟩ : ∃ N : Nat, (l - f) / s = (N : Int) := by
          have := Int.ediv_nonneg (show 0 ≤ l - f by omega) (show 0 ≤ s by omega)
          exact ⟨((l - f) / s).toNat, by omega⟩
        have hNs : (N : Int) * s ≤ l - f := by rw [← hN]; exact Int.ediv_mul_le _ (by omega)
        have hNL : N ≤ L := by
          have := le_mul_one (show 0 ≤ (N : Int) by omega) g2
          omega
        have HLIN : Hid (∀ j : Int, 0 ≤ j → j + 1 ≤ (N : Int) → val num den above (f + (j + 1) * s) - val num den above (f + j * s) = c) := by
          intro j j0 j1
          exact hlin j j0 (by simp only; omega)
        clear hg hfl hrk hpt hlin
        go_wp2
        clear c0 c1 c2
        go_loop [14, 21, 22, 23] (fun c' d y i => ∃ (j : Nat) (D P : Int), j ≤ N + 1 ∧ i = .int .i64 j ∧ c' = .int .i64 (z + j) ∧ d = .int .i64 D ∧ y = .int .i64 P ∧ Hid (1 ≤ j → P = val num den above (f + ((j : Int) - 1) * s)) ∧ Hid (2 ≤ j → D = c) ∧ 0 ≤ P ∧ P ≤ 65536 ∧ -65536 ≤ D ∧ D ≤ 65536) (fun _ _ _ i => N + 1 - (intOf i).toNat)
        case atStart => exact ⟨0, 0, 0, by omega, rfl, by simp, rfl, rfl, fun h => by omega, fun h => by omega, by omega, by omega, by omega, by omega⟩
        case round =>
          obtain ⟨j, D, P, hj, rfl, rfl, rfl, rfl, hP, hD, b1, b2, b3, b4⟩ := hrel
          by_cases hjN : j ≤ N
          · have m1 : (0 : Int) ≤ (j : Int) * s := mul_nn (by omega) (by omega)
            have m2 : (j : Int) * s ≤ l - f := Int.le_trans (Int.mul_le_mul_of_nonneg_right (by omega) (by omega)) hNs
            obtain ⟨X, hX⟩ : ∃ X : Nat, f + (j : Int) * s = (X : Int) := ⟨(f + (j : Int) * s).toNat, by omega⟩
            have hXL : X ≤ L := by omega
            obtain ⟨b, cb, hb⟩ := HC.out X hXL
            have hbt : b = true := hb.2 (HPT.out X ⟨j, by omega, g1, by simp only; omega, hX.symm⟩)
            subst hbt
            clear hb
            have jN : (j : Int) ≤ (l - f) / s := by omega
            have x1 : (0 : Int) ≤ (X : Int) := by omega
            have x2 : (X : Int) < (L : Int) + 1 := by omega
            obtain ⟨v, hv⟩ : ∃ v, val num den above X = v := ⟨_, rfl⟩
            obtain ⟨v0, v1⟩ := val_bounds (num := num) h1 above X
            rw [hv] at v0 v1
            have HV : Hid (v = val num den above (f + (((j + 1 : Nat) : Int) - 1) * s)) := by
              show v = _
              rw [show ((j + 1 : Nat) : Int) - 1 = j by omega, hX, hv]
            have hvp : Hid (1 ≤ j → v - P = c) := by
              intro h
              have a1 := HLIN.out ((j : Int) - 1) (by omega) (by omega)
              rw [show (j : Int) - 1 + 1 = j by omega, hX, hv] at a1
              rw [hP.out h]
              exact a1
            have HVV : Hid (val num den above X = v) := hv
            clear hv
            go_wp2_with fail
            refine (zzValue_any X num den above _ x1 (by omega) h0 h0' h1 h1').mono ?_
            rintro e w' ⟨rfl, rfl⟩
            rw [HVV.out]
            have jj : ((j : Int) + 1).toNat = j + 1 := by omega
            clear jj
            by_cases j0 : j = 0
            · have t1 : decide ((2 : Int) ≤ (j : Int)) = false := by rw [decide_eq_false_iff_not]; omega
              have t2 : decide ((1 : Int) ≤ (j : Int)) = false := by rw [decide_eq_false_iff_not]; omega
              have J0 : Hid (j = 0) := j0
              have j0' : (j : Int) < 1 := by omega
              clear j0
              go_wp2
              go_round
              case rel => exact ⟨j + 1, D, v, by omega, by go_num, by go_num, rfl, rfl, fun _ => HV.out, fun h => by have := J0.out; omega, by omega, by omega, b3, b4⟩
              case measure => simp [intOf]; omega
            · have j1' : (1 : Int) ≤ (j : Int) := by omega
              have t2 : decide ((1 : Int) ≤ (j : Int)) = true := by rw [decide_eq_true_iff]; omega
              have HVP := hvp.out (by omega)
              have b5 : -65536 ≤ c := by omega
              have b6 : c ≤ 65536 := by omega
              by_cases j1 : j = 1
              · have t1 : decide ((2 : Int) ≤ (j : Int)) = false := by rw [decide_eq_false_iff_not]; omega
                have J1 : Hid (j = 1) := j1
                have j2' : (j : Int) < 2 := by omega
                clear j1
                go_wp2
                go_round
                case rel => exact ⟨j + 1, c, v, by omega, by go_num, by go_num, by go_num, rfl, fun _ => HV.out, fun _ => rfl, by omega, by omega, b5, b6⟩
                case measure => simp [intOf]; omega
              · have t1 : decide ((2 : Int) ≤ (j : Int)) = true := by rw [decide_eq_true_iff]; omega
                have j2' : (2 : Int) ≤ (j : Int) := by omega
                have hDc := hD.out (by omega)
                subst hDc
                go_wp2
                go_round
                case rel => exact ⟨j + 1, D, v, by omega, by go_num, by go_num, by go_num, rfl, fun _ => HV.out, fun _ => rfl, by omega, by omega, b5, b6⟩
                case measure => simp [intOf]; omega
          · have jN : (l - f) / s < (j : Int) := by omega
            have ej : j = N + 1 := by omega
            go_wp2
            go_round
            case rel => exact ⟨k + 1, by omega, by go_num, by rw [HLP.out, if_pos g1], by rw [HTL.out, if_pos g1, HZ.out]; go_num⟩
            case measure => simp [intOf]; omega
    · have e : ts.take k = ts := List.take_of_length_le (by omega)
      have e5 : decide (3 * (k : Int) + 2 < 3 * (ts.length : Int)) = false := by rw [decide_eq_false_iff_not]; omega
      rw [e]
      go_wp2
      go_ret2
      exact ⟨rfl, rfl⟩
end Go.Proofs.Qxb6619080a
