/-
  FnClosestAboveListsExactlyTheAtOrBelowRecords: the walk.
-/
import Derived.Test.Qxb6619080aCAbove
import Derived.Test.Qxb6619080aChk
import Derived.Test.Qxb6619080aRecTab
namespace Go.Proofs.Qxb6619080a
open Go.RowKit

set_option maxHeartbeats 400000 in
theorem law5_short (num den limit : Int) (w : World) (h : limit < 1 ∨ 65536 < limit ∨ num < 0 ∨ den ≤ num ∨ limit < den) :
    Calls Try.prog 5 #[.int .i64 num, .int .i64 den, .int .i64 limit] w fun e w' => e = .returned (.bool true) ∧ Below w.heap.size w w' := by
  by_cases h0 : limit < 1
  · go_enter Try.func5, Try.ntmps5
    go_wp2
    go_ret
    exact ⟨rfl, Below.refl _ _⟩
  by_cases h1 : 65536 < limit
  · go_enter Try.func5, Try.ntmps5
    go_wp2
    go_ret
    exact ⟨rfl, Below.refl _ _⟩
  by_cases h2 : num < 0
  · go_enter Try.func5, Try.ntmps5
    go_wp2
    go_ret
    exact ⟨rfl, Below.refl _ _⟩
  by_cases h3 : den ≤ num
  · go_enter Try.func5, Try.ntmps5
    go_wp2
    go_ret
    exact ⟨rfl, Below.refl _ _⟩
  have h4 : limit < den := by omega
  go_enter Try.func5, Try.ntmps5
  go_wp2
  go_ret
  exact ⟨rfl, Below.refl _ _⟩

set_option maxHeartbeats 400000 in
theorem law5_gcd (num den limit : Int) (w : World) (h0 : 0 ≤ num) (h1 : num < den) (h2 : den ≤ limit) (h3 : limit ≤ 65536) (hg : ¬ Int.gcd num den = 1) :
    Calls Try.prog 5 #[.int .i64 num, .int .i64 den, .int .i64 limit] w fun e w' => e = .returned (.bool true) ∧ Below w.heap.size w w' := by
  have hb : (((Int.gcd num den : Nat) : Int) != 1) = true := by rw [bne_iff_ne]; omega
  go_enter Try.func5, Try.ntmps5
  go_wp2_with fail
  refine (zzGcd_any num den _ (by omega) (by omega) (by omega) (by omega)).mono ?_
  rintro e w1 ⟨rfl, n, rfl⟩
  go_wp2
  go_ret
  exact ⟨rfl, below_drewN (Below.refl _ _) _⟩

set_option maxHeartbeats 800000 in
set_option maxRecDepth 100000 in
theorem law5_main (num den : Int) (L : Nat) (w : World) (h0 : 0 ≤ num) (h1 : num < den) (h2 : den ≤ L) (h3 : L ≤ 65536) (hg : Int.gcd num den = 1) :
    Calls Try.prog 5 #[.int .i64 num, .int .i64 den, .int .i64 L] w fun e w' => e = .returned (.bool true) ∧ Below w.heap.size w w' := by
  have hb : (((Int.gcd num den : Nat) : Int) != 1) = false := by rw [bne_eq_false_iff_eq]; omega
  have HG : Hid (Int.gcd num den = 1) := hg
  obtain ⟨i0, hi0, hz0, hz1, hz2⟩ := info_parts Try.info4
  have d0 : decide ((L : Int) < 1) = false := by rw [decide_eq_false_iff_not]; omega
  have d1 : decide ((65536 : Int) < (L : Int)) = false := by rw [decide_eq_false_iff_not]; omega
  have d2 : decide (num < 0) = false := by rw [decide_eq_false_iff_not]; omega
  have d3 : decide (den ≤ num) = false := by rw [decide_eq_false_iff_not]; omega
  have d4 : decide ((L : Int) < den) = false := by rw [decide_eq_false_iff_not]; omega
  clear hg
  go_enter Try.func5, Try.ntmps5
  go_wp2_with fail
  refine (zzGcd_any num den _ (by omega) (by omega) (by omega) (by omega)).mono ?_
  rintro e w1 ⟨rfl, n0, rfl⟩
  go_wp2_with (at_make; refine wpList_make_full _ rfl _ _ 23 rfl w.heap.size 4 i0 _ 1 Try.underlying23 hi0 hz0 hz1 _ _ _ _ (L + 1) rfl rfl (by omega) (by omega) ?b1 ?b2 ?b3 ?_)
  case b1 => rw [hz2]; omega
  case b2 => unfold maxLen; omega
  case b3 => simp
  intro w1 hown1 hgrow1
  have hT : Hid (Tab (w.drewN n0) w1 L (fun _ => False)) := Tab.made hown1 hgrow1
  clear hown1 hgrow1
  go_wp2_with fail
  go_loopw [8, 9, 10] (fun c m x wr => ∃ n : Nat, n ≤ L ∧ x = .int .i64 ((n : Int) + 1) ∧ c = .int .i64 (cnt (val num den true) 0 n) ∧ m = .int .i64 (least (val num den true) 0 n) ∧ Hid (Tab (w.drewN n0) wr L (fun x => x ≤ n ∧ Rec (val num den true) 0 x)))
    (fun _ _ x _ => L + 1 - (intOf x).toNat)
  case atStart => exact ⟨0, Nat.zero_le _, rfl, rfl, rfl, hT.out.same (fun x _ => ⟨fun h => h.elim, fun ⟨a, b⟩ => by have := b.1; omega⟩)⟩
  case round =>
    clear hT
    obtain ⟨n, hn, rfl, rfl, rfl, hT⟩ := hrel
    have hcl := cnt_le (val num den true) 0 n
    by_cases hlt : n + 1 ≤ L
    · have m1 : 0 ≤ ((n : Int) + 1) * num := mul_nn (by omega) (by omega)
      have m2 : ((n : Int) + 1) * num ≤ 65536 * 65536 := Int.mul_le_mul (by omega) (by omega) (by omega) (by omega)
      have m3 := Int.emod_nonneg (((n : Int) + 1) * num) (show den ≠ 0 by omega)
      have m4 := Int.emod_lt_of_pos (((n : Int) + 1) * num) (show 0 < den by omega)
      have t0 : decide ((n : Int) + 1 ≤ (L : Int)) = true := by rw [decide_eq_true_iff]; omega
      have hcs : Hid (cnt (val num den true) 0 (n + 1) = cnt (val num den true) 0 n + if isRec (val num den true) 0 (n + 1) = true then 1 else 0) := rfl
      have hls : Hid (least (val num den true) 0 (n + 1) = if isRec (val num den true) 0 (n + 1) = true then den - ((n : Int) + 1) * num % den else least (val num den true) 0 n) := least_succ n
      have hrs : isRec (val num den true) 0 (n + 1) = decide (n = 0 ∨ den - ((n : Int) + 1) * num % den + 0 ≤ least (val num den true) 0 n) := rfl
      obtain ⟨⟨b, cb, _⟩, cf⟩ := hT.out.cell hlt
      simp only [World.heap_drewN] at cb cf
      have x1 : (0 : Int) ≤ (n : Int) + 1 := by omega
      have x2 : (n : Int) + 1 < (L : Int) + 1 := by omega
      by_cases hr : isRec (val num den true) 0 (n + 1) = true
      · have HR : Hid (isRec (val num den true) 0 (n + 1) = true) := hr
        rw [hrs, decide_eq_true_iff] at hr
        clear hrs
        have HT : Hid (Tab (w.drewN n0) (wr.setCell ⟨w.heap.size, n + 1, none⟩ (.bool true)) L (fun x => x ≤ ((n + 1 : Nat) : Int) ∧ Rec (val num den true) 0 x)) := tab_hit (by omega) (by omega) hT.out hlt HR.out
        by_cases n0' : n = 0
        · have t1 : ((n : Int) + 1 == 1) = true := by rw [beq_iff_eq]; omega
          clear hr n0'
          go_wp2
          go_roundw
          case rel => exact ⟨n + 1, by omega, by go_num, by rw [hcs.out, if_pos HR.out]; go_num, by rw [hls.out, if_pos HR.out], HT.out⟩
          case measure => simp [intOf]; omega
        · have t1 : ((n : Int) + 1 == 1) = false := by rw [beq_eq_false_iff_ne]; omega
          have t2 : den - ((n : Int) + 1) * num % den ≤ least (val num den true) 0 n := by
            rcases hr with h | h
            · exact absurd h n0'
            · omega
          clear hr n0'
          go_wp2
          go_roundw
          case rel => exact ⟨n + 1, by omega, by go_num, by rw [hcs.out, if_pos HR.out]; go_num, by rw [hls.out, if_pos HR.out], HT.out⟩
          case measure => simp [intOf]; omega
      · have HR : Hid (¬ isRec (val num den true) 0 (n + 1) = true) := hr
        rw [hrs, decide_eq_true_iff] at hr
        clear hrs
        have HT : Hid (Tab (w.drewN n0) wr L (fun x => x ≤ ((n + 1 : Nat) : Int) ∧ Rec (val num den true) 0 x)) := tab_miss (by omega) (by omega) hT.out HR.out
        have t1 : ((n : Int) + 1 == 1) = false := by rw [beq_eq_false_iff_ne]; omega
        have t2 : least (val num den true) 0 n < den - ((n : Int) + 1) * num % den := by omega
        clear hr
        go_wp2
        go_roundw
        case rel => exact ⟨n + 1, by omega, by go_num, by rw [hcs.out, if_neg HR.out]; go_num, by rw [hls.out, if_neg HR.out], HT.out⟩
        case measure => simp [intOf]; omega
    · have e : n = L := by omega
      subst e
      have t0 : decide ((n : Int) + 1 ≤ (n : Int)) = false := by rw [decide_eq_false_iff_not]; omega
      clear hlt hn
      go_wp2_with fail
      refine (zzClosestAbove_any num den n _ h0 h1 h2 (by omega)).mono ?_
      rintro e wc ⟨k, g, cap, rfl, hk, hown, hbc⟩
      have hls := listA_lists (limit := n) h0 h1 h2 hk
      have hsh := listA_short (limit := n) hk h0 h1 (by omega)
      have hB : Hid (Below w.heap.size w wc) := ((below_drewN (Below.refl _ _) n0).trans hT.out.below).trans (hbc.mono (by have := hT.out.below.size; simpa using this))
      have HREC : Hid (∀ x : Nat, x ≤ n → ∃ b, wc.cell? ⟨w.heap.size, x, none⟩ = some (.bool b) ∧ (b = true ↔ Rec (val num den true) 0 x)) := by
        intro x hx
        obtain ⟨⟨b, cb, hb1⟩, _⟩ := hT.out.cell hx
        refine ⟨b, ?_, hb1.trans ⟨fun h => h.2, fun h => ⟨by omega, h⟩⟩⟩
        have hlt := World.block_lt_of_cell? wr _ cb
        exact (hbc.cell hlt).trans cb
      have HTL : Hid (tally (listA num den n k) = (cnt (val num den true) 0 n : Int)) := hls.tally
      go_wp2_with fail
      refine (zzCheckRuns_any g cap w.heap.size n num den true (Rec (val num den true) 0) (listA num den n k) wc (run_cells hown (Below.refl _ _)) HREC.out hsh h3 (by omega) (by omega) (by omega) (by omega) hls.good hls.runs).mono ?_
      rintro e w' ⟨rfl, rfl⟩
      rw [HTL.out]
      go_wp2
      go_ret
      exact ⟨by simp, hB.out⟩

theorem law5_any (num den limit : Int) (w : World) :
    Calls Try.prog 5 #[.int .i64 num, .int .i64 den, .int .i64 limit] w fun e w' => e = .returned (.bool true) ∧ Below w.heap.size w w' := by
  by_cases h : limit < 1 ∨ 65536 < limit ∨ num < 0 ∨ den ≤ num ∨ limit < den
  · exact law5_short num den limit w h
  · by_cases hg : Int.gcd num den = 1
    · obtain ⟨L, rfl⟩ := Int.eq_ofNat_of_zero_le (show 0 ≤ limit by omega)
      exact law5_main num den L w (by omega) (by omega) (by omega) (by omega) hg
    · exact law5_gcd num den limit w (by omega) (by omega) (by omega) (by omega) hg
end Go.Proofs.Qxb6619080a
