/-
  FnClosestAboveLimitOnlyCuts: the walk.
-/
import Derived.Test.Qxb6619080aCAbove
import Derived.Test.Qxb6619080aPts
import Derived.BigQuiet
import Derived.Deep.QuietTactic
namespace Go.Proofs.Qxb6619080a
open Go.RowKit

set_option maxHeartbeats 400000 in
theorem law6_short (num den limit limit2 : Int) (w : World) (h : 65536 < limit2 ∨ num < 0 ∨ den ≤ num ∨ limit < den ∨ limit2 < limit) :
    Calls Try.prog 6 #[.int .i64 num, .int .i64 den, .int .i64 limit, .int .i64 limit2] w fun e w' => e = .returned (.bool true) ∧ Below w.heap.size w w' := by
  by_cases h0 : 65536 < limit2
  · go_enter Try.func6, Try.ntmps6
    go_wp2
    go_ret
    exact ⟨rfl, Below.refl _ _⟩
  by_cases h1 : num < 0
  · go_enter Try.func6, Try.ntmps6
    go_wp2
    go_ret
    exact ⟨rfl, Below.refl _ _⟩
  by_cases h2 : den ≤ num
  · go_enter Try.func6, Try.ntmps6
    go_wp2
    go_ret
    exact ⟨rfl, Below.refl _ _⟩
  by_cases h3 : limit < den
  · go_enter Try.func6, Try.ntmps6
    go_wp2
    go_ret
    exact ⟨rfl, Below.refl _ _⟩
  have h4 : limit2 < limit := by omega
  go_enter Try.func6, Try.ntmps6
  go_wp2
  go_ret
  exact ⟨rfl, Below.refl _ _⟩

set_option maxHeartbeats 400000 in
theorem law6_gcd (num den limit limit2 : Int) (w : World) (h0 : 0 ≤ num) (h1 : num < den) (h2 : den ≤ limit) (h3 : limit ≤ limit2) (h4 : limit2 ≤ 65536) (hg : ¬ Int.gcd num den = 1) :
    Calls Try.prog 6 #[.int .i64 num, .int .i64 den, .int .i64 limit, .int .i64 limit2] w fun e w' => e = .returned (.bool true) ∧ Below w.heap.size w w' := by
  have hb : (((Int.gcd num den : Nat) : Int) != 1) = true := by rw [bne_iff_ne]; omega
  go_enter Try.func6, Try.ntmps6
  go_wp2_with fail
  refine (zzGcd_any num den _ (by omega) (by omega) (by omega) (by omega)).mono ?_
  rintro e w1 ⟨rfl, n, rfl⟩
  go_wp2
  go_ret
  exact ⟨rfl, below_drewN (Below.refl _ _) _⟩

set_option maxHeartbeats 800000 in
set_option maxRecDepth 100000 in
theorem law6_main (num den : Int) (L M : Nat) (w : World) (h0 : 0 ≤ num) (h1 : num < den) (h2 : den ≤ L) (h3 : L ≤ M) (h4 : M ≤ 65536) (hg : Int.gcd num den = 1) :
    Calls Try.prog 6 #[.int .i64 num, .int .i64 den, .int .i64 L, .int .i64 M] w fun e w' => e = .returned (.bool true) ∧ Below w.heap.size w w' := by
  have hb : (((Int.gcd num den : Nat) : Int) != 1) = false := by rw [bne_eq_false_iff_eq]; omega
  have HG : Hid (Int.gcd num den = 1) := hg
  have d0 : decide ((65536 : Int) < (M : Int)) = false := by rw [decide_eq_false_iff_not]; omega
  have d1 : decide (num < 0) = false := by rw [decide_eq_false_iff_not]; omega
  have d2 : decide (den ≤ num) = false := by rw [decide_eq_false_iff_not]; omega
  have d3 : decide ((L : Int) < den) = false := by rw [decide_eq_false_iff_not]; omega
  have d4 : decide ((M : Int) < (L : Int)) = false := by rw [decide_eq_false_iff_not]; omega
  clear hg
  go_enter Try.func6, Try.ntmps6
  go_wp2_with fail
  refine (zzGcd_any num den _ (by omega) (by omega) (by omega) (by omega)).mono ?_
  rintro e w1 ⟨rfl, n, rfl⟩
  go_wp2_with fail
  refine (zzClosestAbove_any num den L _ h0 h1 h2 (by omega)).mono ?_
  rintro e wa ⟨k, ga, ca, rfl, hk, hoa, hba⟩
  have hlg := listA_good (limit := L) h0 h1 h2 hk
  obtain ⟨p, hp⟩ : ∃ p, lastPt (listA num den L k) = p := ⟨_, rfl⟩
  have HP : Hid (p = ((sb0 num den).it k).hd + (L - ((sb0 num den).it k).hd) / den * den) := by
    have := hlg.2
    rw [(hk.last h0 h1 HG.out).2, hp] at this
    exact this
  have HGD : Hid (Good L (listA num den L k)) := hlg.1
  clear hlg
  go_wp2_with fail
  refine (zzPoints_any _ ga ca L (listA num den L k) _ hoa (listA_short hk h0 h1 (by omega)) (by omega) HGD.out).mono ?_
  rintro e wb ⟨rfl, hta⟩
  rw [hp]
  clear hp
  have hta' : Hid (Tab wa wb L (On (listA num den L k))) := hta
  clear hta
  go_wp2_with fail
  refine (zzClosestAbove_any num den M _ h0 h1 (by omega) (by omega)).mono ?_
  rintro e wc ⟨k', gc, cc, rfl, hk', hoc, hbc⟩
  obtain rfl := hk.unique hk'
  have HGE : Hid (Good M (listA num den M k)) := (listA_good (limit := M) h0 h1 (by omega) hk).1
  obtain ⟨p2, hp2⟩ : ∃ p, lastPt (listA num den M k) = p := ⟨_, rfl⟩
  go_wp2_with fail
  refine (zzPoints_any _ gc cc M (listA num den M k) _ hoc (listA_short hk h0 h1 (by omega)) (by omega) HGE.out).mono ?_
  rintro e wd ⟨rfl, htd⟩
  rw [hp2]
  clear hp2
  have hB : Hid (Below w.heap.size w wd) := by
    have hba' : Below w.heap.size (w.drewN n) wa := hba
    have s1 : w.heap.size ≤ wa.heap.size := hba.size
    have s2 := hta'.out.below.size
    have s3 := hbc.size
    exact (((below_drewN (Below.refl _ _) _).trans hba').trans (hta'.out.below.mono s1)).trans ((hbc.mono (by omega)).trans (htd.below.mono (by omega)))
  have HC : Hid (∀ x : Nat, 1 ≤ x → x ≤ L → ∃ b, wd.cell? ⟨wa.heap.size, x, none⟩ = some (.bool b) ∧ wd.cell? ⟨wc.heap.size, x, none⟩ = some (.bool b)) := by
    intro x hx1 hx2
    obtain ⟨⟨b, cb, hb1⟩, _⟩ := hta'.out.cell hx2
    obtain ⟨⟨c, cc, hc1⟩, _⟩ := htd.cell (show x ≤ M by omega)
    have hbl := World.block_lt_of_cell? wb _ cb
    have e : b = c := by
      rw [Bool.eq_iff_iff, hb1, hc1]
      exact listA_cut h0 h1 (by omega) hk x (by omega)
    subst e
    refine ⟨b, ?_, cc⟩
    have s3 := hbc.size
    rw [htd.below.cell (p := ⟨wa.heap.size, x, none⟩) (by simp only at hbl ⊢; omega), hbc.cell (p := ⟨wa.heap.size, x, none⟩) hbl]
    exact cb
  obtain ⟨H, hH⟩ : ∃ H : Nat, ((sb0 num den).it k).hd = (H : Int) := by
    have := (fine_it h0 h1 k hk.1).ok.hd1
    exact ⟨((sb0 num den).it k).hd.toNat, by omega⟩
  have hH1 : 1 ≤ H := by have := (fine_it h0 h1 k hk.1).ok.hd1; omega
  have hH2 : (H : Int) ≤ den := by have := (fine_it h0 h1 k hk.1).top; omega
  have HX : Hid (∀ x : Int, 1 ≤ x → x ≤ den → (x * num % den = den - 1 ↔ x = (H : Int))) := by
    intro x hx hx'
    rw [← hH]
    exact hk.x0 h0 h1 HG.out x hx hx'
  have HP' : Hid (p = (H : Int) + (L - (H : Int)) / den * den) := by
    have := HP.out
    rw [hH] at this
    exact this
  clear HP hH hoc hbc htd hta' HGE HGD hoa hba hk hk'
  go_wp2_with fail
  go_loopw [15] (fun i wr => ∃ x : Nat, 1 ≤ x ∧ x ≤ L + 1 ∧ i = .int .i64 x ∧ ∃ n, wr = wd.drewN n) (fun i _ => L + 1 - (intOf i).toNat)
  case atStart => exact ⟨1, by omega, by omega, rfl, 0, rfl⟩
  case round =>
    obtain ⟨x, hx1, hx2, rfl, m, rfl⟩ := hrel
    by_cases hlt : x ≤ L
    · obtain ⟨b, c1, c2⟩ := HC.out x hx1 hlt
      have i1 : (0 : Int) ≤ (x : Int) := by omega
      have i2 : (x : Int) < (L : Int) + 1 := by omega
      have i3 : (x : Int) < (M : Int) + 1 := by omega
      have i4 : decide ((x : Int) ≤ (L : Int)) = true := by rw [decide_eq_true_iff]; omega
      have i5 : (b != b) = false := by cases b <;> rfl
      go_wp2
      go_quiet (fail)
      go_wp2
      go_roundw
      case rel => exact ⟨x + 1, by omega, by omega, by go_num, _, rfl⟩
      case measure => simp [intOf]; omega
    · have i4 : decide ((x : Int) ≤ (L : Int)) = false := by rw [decide_eq_false_iff_not]; omega
      go_wp2
      go_loopw [16, 17] (fun z i wr => ∃ j : Nat, 1 ≤ j ∧ j ≤ H ∧ i = .int .i64 j ∧ z = .int .i64 0 ∧ ∃ n, wr = wd.drewN n) (fun _ i _ => H - (intOf i).toNat)
      case atStart => exact ⟨1, by omega, by omega, rfl, rfl, m, rfl⟩
      case round =>
        obtain ⟨j, hj1, hj2, rfl, rfl, m', rfl⟩ := hrel
        have m1 : 0 ≤ (j : Int) * num := mul_nn (by omega) h0
        have m2 : (j : Int) * num ≤ 65536 * 65536 := Int.mul_le_mul (by omega) (by omega) h0 (by omega)
        have j1 : (j : Int) ≤ den := by omega
        have hx0 := HX.out j (by omega) (by omega)
        by_cases hjH : j = H
        · subst hjH
          have e1 : ((j : Int) * num % den == den - 1) = true := by rw [beq_iff_eq]; exact hx0.2 rfl
          clear hx0
          have f0 : 0 ≤ ((L : Int) - (j : Int)) / den := Int.ediv_nonneg (by omega) (by omega)
          have f1 : 0 ≤ ((L : Int) - (j : Int)) / den * den := mul_nn f0 (by omega)
          have f2 : ((L : Int) - (j : Int)) / den * den ≤ (L : Int) - (j : Int) := Int.ediv_mul_le _ (by omega)
          go_wp2
          go_ret
          refine ⟨?_, below_drewN hB.out _⟩
          have := HP'.out
          simp [this]
        · have e1 : ((j : Int) * num % den == den - 1) = false := by rw [beq_eq_false_iff_ne]; intro h; have := hx0.1 h; omega
          clear hx0
          go_wp2
          go_roundw
          case rel => exact ⟨j + 1, by omega, by omega, by go_num, rfl, _, rfl⟩
          case measure => simp [intOf]; omega

theorem law6_any (num den limit limit2 : Int) (w : World) :
    Calls Try.prog 6 #[.int .i64 num, .int .i64 den, .int .i64 limit, .int .i64 limit2] w fun e w' => e = .returned (.bool true) ∧ Below w.heap.size w w' := by
  by_cases h : 65536 < limit2 ∨ num < 0 ∨ den ≤ num ∨ limit < den ∨ limit2 < limit
  · exact law6_short num den limit limit2 w h
  · by_cases hg : Int.gcd num den = 1
    · obtain ⟨L, rfl⟩ := Int.eq_ofNat_of_zero_le (show 0 ≤ limit by omega)
      obtain ⟨M, rfl⟩ := Int.eq_ofNat_of_zero_le (show 0 ≤ limit2 by omega)
      exact law6_main num den L M w (by omega) (by omega) (by omega) (by omega) (by omega) hg
    · exact law6_gcd num den limit limit2 w (by omega) (by omega) (by omega) (by omega) (by omega) hg
end Go.Proofs.Qxb6619080a
