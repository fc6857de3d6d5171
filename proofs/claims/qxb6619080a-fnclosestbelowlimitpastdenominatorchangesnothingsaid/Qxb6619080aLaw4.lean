/-
  FnClosestBelowLimitPastDenominatorChangesNothing: the walk.
-/
import Derived.Test.Qxb6619080aZzB
import Derived.BigQuiet
import Derived.Deep.QuietTactic
import Derived.OpenShut
namespace Go.Proofs.Qxb6619080a
open Go.RowKit

set_option maxHeartbeats 400000 in
theorem law4_short (num den limit limit2 : Int) (w : World) (h : num < 1 ∨ den < num ∨ limit < den ∨ limit2 < limit) :
    Calls Try.prog 4 #[.int .i64 num, .int .i64 den, .int .i64 limit, .int .i64 limit2] w fun e w' => e = .returned (.bool true) ∧ Below w.heap.size w w' := by
  by_cases h1 : num < 1
  · go_enter Try.func4, Try.ntmps4
    go_wp2
    go_ret
    exact ⟨rfl, Below.refl _ _⟩
  by_cases h2 : den < num
  · go_enter Try.func4, Try.ntmps4
    go_wp2
    go_ret
    exact ⟨rfl, Below.refl _ _⟩
  by_cases h3 : limit < den
  · go_enter Try.func4, Try.ntmps4
    go_wp2
    go_ret
    exact ⟨rfl, Below.refl _ _⟩
  have h4 : limit2 < limit := by omega
  go_enter Try.func4, Try.ntmps4
  go_wp2
  go_ret
  exact ⟨rfl, Below.refl _ _⟩

set_option maxHeartbeats 400000 in
theorem law4_gcd (num den limit limit2 : Int) (w : World) (h0 : 1 ≤ num) (h1 : num ≤ den) (h2 : den ≤ limit) (h3 : limit ≤ limit2) (h4 : limit2 ≤ 9223372036854775807) (hg : ¬ Int.gcd num den = 1) :
    Calls Try.prog 4 #[.int .i64 num, .int .i64 den, .int .i64 limit, .int .i64 limit2] w fun e w' => e = .returned (.bool true) ∧ Below w.heap.size w w' := by
  have hb : (((Int.gcd num den : Nat) : Int) != 1) = true := by rw [bne_iff_ne]; omega
  go_enter Try.func4, Try.ntmps4
  go_wp2_with fail
  refine (zzGcd_any num den _ (by omega) (by omega) (by omega) (by omega)).mono ?_
  rintro e w1 ⟨rfl, n, rfl⟩
  go_wp2
  go_ret
  exact ⟨rfl, below_drewN (Below.refl _ _) _⟩

set_option maxHeartbeats 800000 in
set_option maxRecDepth 100000 in
theorem law4_main (num den limit limit2 : Int) (w : World) (h0 : 1 ≤ num) (h1 : num ≤ den) (h2 : den ≤ limit) (h3 : limit ≤ limit2) (h4 : limit2 ≤ 9223372036854775807) (hg : Int.gcd num den = 1) :
    Calls Try.prog 4 #[.int .i64 num, .int .i64 den, .int .i64 limit, .int .i64 limit2] w fun e w' => e = .returned (.bool true) ∧ Below w.heap.size w w' := by
  have hb : (((Int.gcd num den : Nat) : Int) != 1) = false := by rw [bne_eq_false_iff_eq]; omega
  have HG : Hid (Int.gcd num den = 1) := hg
  have d1 : decide (num < 1) = false := by rw [decide_eq_false_iff_not]; omega
  have d2 : decide (den < num) = false := by rw [decide_eq_false_iff_not]; omega
  have d3 : decide (limit < den) = false := by rw [decide_eq_false_iff_not]; omega
  have d4 : decide (limit2 < limit) = false := by rw [decide_eq_false_iff_not]; omega
  clear hg
  go_enter Try.func4, Try.ntmps4
  go_wp2_with fail
  refine (zzGcd_any num den _ (by omega) (by omega) (by omega) (by omega)).mono ?_
  rintro e w1 ⟨rfl, n, rfl⟩
  go_wp2_with fail
  refine (zzClosestBelow_any num den limit _ h0 h1 h2 (by omega)).mono ?_
  rintro e wa ⟨ts, ga, ca, rfl, hla, hoa, hba⟩
  go_wp2_with fail
  refine (zzClosestBelow_any num den limit2 _ h0 h1 (by omega) (by omega)).mono ?_
  rintro e wb ⟨us, gb, cb, rfl, hlb, hob, hbb⟩
  have heq := hlb.unique hla
  subst heq
  have hsh := hla.short h0 (by omega)
  have d5 : decide ((3 : Int) * (us.length : Int) < 3) = false := by rw [decide_eq_false_iff_not]; omega
  have hlp : Hid (lastPt us = den) := hla.lastPt h0 HG.out
  obtain ⟨rs, hrs⟩ : ∃ rs, us = (1, 1, 1) :: rs := hla.head
  have HL : Hid (∀ j, j < 3 * us.length → wb.cell? ⟨ga, j, none⟩ = some (.int .i64 ((flat us).getD j 0))) := fun j hj =>
    (hbb.cell (p := ⟨ga, j, none⟩) (hoa.lt ga rfl).2).trans (own_cell hoa j hj)
  have HM : Hid (∀ j, j < 3 * us.length → wb.cell? ⟨gb, j, none⟩ = some (.int .i64 ((flat us).getD j 0))) := fun j hj => own_cell hob j hj
  have hB : Hid (Below w.heap.size w wb) := ((below_drewN (Below.refl _ _) _).trans hba).trans (hbb.mono hba.size)
  have HR : Hid (us = (1, 1, 1) :: rs) := hrs
  clear hrs hla hlb hoa hob hba hbb
  go_wp2_with fail
  go_loopw [11] (fun i wr => ∃ k : Nat, k ≤ 3 * us.length ∧ i = .int .i64 k ∧ ∃ n, wr = wb.drewN n) (fun i _ => 3 * us.length - (intOf i).toNat)
  case atStart => exact ⟨0, Nat.zero_le _, rfl, 0, rfl⟩
  case round =>
    obtain ⟨k, hk, rfl, m, rfl⟩ := hrel
    by_cases hlt : k < 3 * us.length
    · have c1 := HL.out k hlt
      have c2 := HM.out k hlt
      have i1 : (0 : Int) ≤ (k : Int) := by omega
      have i2 : (k : Int) < 3 * (us.length : Int) := by omega
      go_wp2
      go_quiet (fail)
      go_wp2
      go_roundw
      case rel => exact ⟨k + 1, by omega, by go_num, _, rfl⟩
      case measure => simp [intOf]; omega
    · have c0 := HL.out 0 (by omega)
      have c1 := HL.out 1 (by omega)
      have c2 := HL.out 2 (by omega)
      rw [show (flat us).getD 0 0 = 1 by rw [HR.out]; rfl] at c0
      rw [show (flat us).getD 1 0 = 1 by rw [HR.out]; rfl] at c1
      rw [show (flat us).getD 2 0 = 1 by rw [HR.out]; rfl] at c2
      have dk : decide ((k : Int) < 3 * (us.length : Int)) = false := by rw [decide_eq_false_iff_not]; omega
      go_wp2
      clear c0 c1 c2
      go_loopw [12, 13] (fun x i wr => ∃ l : Nat, l ≤ us.length ∧ i = .int .i64 (3 * (l : Int)) ∧ x = .int .i64 (lastPt (us.take l)) ∧ ∃ n, wr = wb.drewN n) (fun _ i _ => 3 * us.length - (intOf i).toNat)
      case atStart => exact ⟨0, Nat.zero_le _, rfl, rfl, m, rfl⟩
      case round =>
        obtain ⟨l, hl, rfl, rfl, m', rfl⟩ := hrel
        by_cases hlt' : l < us.length
        · obtain ⟨a, b, c, ha⟩ : ∃ a b c, us[l] = (a, b, c) := ⟨_, _, _, rfl⟩
          have hf := flat_get us l hlt'
          rw [ha] at hf
          have c0 := HL.out (3 * l) (by omega)
          have c2 := HL.out (3 * l + 2) (by omega)
          rw [List.getD_eq_getElem?_getD, Nat.mul_comm 3 l, hf.1] at c0
          rw [List.getD_eq_getElem?_getD, Nat.mul_comm 3 l, hf.2.2] at c2
          rw [Nat.mul_comm l 3] at c0 c2
          simp only [Option.getD_some] at c0 c2
          have HX : Hid (lastPt (us.take (l + 1)) = if a ≤ c then c else lastPt (us.take l)) := by
            show _ = _
            rw [List.take_succ_eq_append_getElem hlt', lastPt_snoc, ha]
          have i1 : (0 : Int) ≤ 3 * (l : Int) := by omega
          have i2 : 3 * (l : Int) < 3 * (us.length : Int) := by omega
          have i3 : (0 : Int) ≤ 3 * (l : Int) + 2 := by omega
          have i4 : 3 * (l : Int) + 2 < 3 * (us.length : Int) := by omega
          clear hf ha
          by_cases hac : a ≤ c
          · go_wp2
            go_quiet (fail)
            go_wp2
            go_roundw
            case rel => exact ⟨l + 1, by omega, by go_num, by rw [HX.out, if_pos hac], _, rfl⟩
            case measure => simp [intOf]; omega
          · have hac' : c < a := by omega
            go_wp2
            go_quiet (fail)
            go_wp2
            go_roundw
            case rel => exact ⟨l + 1, by omega, by go_num, by rw [HX.out, if_neg (by omega)], _, rfl⟩
            case measure => simp [intOf]; omega
        · have hll : us.take l = us := List.take_of_length_le (by omega)
          have hz : lastPt us = den := hlp.out
          go_wp2
          go_ret
          exact ⟨by simp, below_drewN hB.out _⟩

theorem law4_any (num den limit limit2 : Int) (w : World) (h4 : limit2 ≤ 9223372036854775807) :
    Calls Try.prog 4 #[.int .i64 num, .int .i64 den, .int .i64 limit, .int .i64 limit2] w fun e w' => e = .returned (.bool true) ∧ Below w.heap.size w w' := by
  by_cases h : num < 1 ∨ den < num ∨ limit < den ∨ limit2 < limit
  · exact law4_short num den limit limit2 w h
  · by_cases hg : Int.gcd num den = 1
    · exact law4_main num den limit limit2 w (by omega) (by omega) (by omega) (by omega) h4 hg
    · exact law4_gcd num den limit limit2 w (by omega) (by omega) (by omega) (by omega) h4 hg
end Go.Proofs.Qxb6619080a
