/-
  NewTag, Explicit, Class, Constructed, Number by their contracts, in plain arithmetic.
-/
import Derived.Test.Qxb6616380aRows
import Derived.WalkKit
import Derived.WalkSpells
import Derived.WalkLawsBesides
namespace Go.Proofs.Qxb6616380a
open Go.RowKit

theorem mask_nat (a : Nat) : a &&& 536870911 = a % 536870912 := Nat.and_two_pow_sub_one_eq_mod a 29
theorem flag_nat (a : Nat) : (a &&& 536870912 ≠ 0) ↔ a / 536870912 % 2 = 1 := by
  have e : (2 : Nat) ^ 29 = 536870912 := by decide
  have h : a.testBit 29 = decide (a / 536870912 % 2 = 1) := by rw [Nat.testBit_eq_decide_div_mod_eq, e]
  constructor
  · intro hne
    by_cases hc : a / 536870912 % 2 = 1
    · exact hc
    · exfalso
      apply hne
      apply Nat.eq_of_testBit_eq
      intro i
      rw [Nat.testBit_and, ← e, Nat.testBit_two_pow, Nat.zero_testBit]
      by_cases hi : 29 = i
      · subst hi
        rw [h, decide_eq_false hc]
        rfl
      · rw [decide_eq_false hi, Bool.and_false]
  · intro hc hz
    have h2 : (a &&& 536870912).testBit 29 = true := by
      rw [Nat.testBit_and, h, decide_eq_true hc, ← e, Nat.testBit_two_pow]
      rfl
    rw [hz, Nat.zero_testBit] at h2
    cases h2
theorem join_nat (a b : Nat) (h : b < 1073741824) : a * 1073741824 ||| b = a * 1073741824 + b := by
  have := Nat.two_pow_add_eq_or_of_lt (i := 30) (b := b) (by simpa using h) a
  rw [show (2 : Nat) ^ 30 = 1073741824 by decide, Nat.mul_comm] at this
  exact this.symm
theorem set_nat (b : Nat) (h : b < 536870912) : b ||| 536870912 = 536870912 + b := by
  have := Nat.two_pow_add_eq_or_of_lt (i := 29) (b := b) (by simpa using h) 1
  rw [show (2 : Nat) ^ 29 = 536870912 by decide, Nat.mul_one] at this
  rw [Nat.or_comm]
  exact this.symm

theorem and_mask {t : Int} (h0 : 0 ≤ t) (h1 : t ≤ 4294967295) : bits .and .u32 t 536870911 = t % 536870912 := by
  obtain ⟨n, rfl⟩ := Int.eq_ofNat_of_zero_le h0
  have := u32_and_nat n 536870911 (by omega) (by decide)
  rw [mask_nat] at this
  exact this

theorem and_flag {t : Int} (h0 : 0 ≤ t) (h1 : t ≤ 4294967295) : (bits .and .u32 t 536870912 != 0) = decide (t / 536870912 % 2 = 1) := by
  obtain ⟨n, rfl⟩ := Int.eq_ofNat_of_zero_le h0
  have h2 : bits .and .u32 (n : Int) 536870912 = ((n &&& 536870912 : Nat) : Int) := u32_and_nat n 536870912 (by omega) (by decide)
  rw [h2, Bool.eq_iff_iff, bne_iff_ne, decide_eq_true_iff]
  have := flag_nat n
  omega

theorem or_low {c n : Int} (h0 : 0 ≤ n) (h1 : n < 1073741824) : bits .or .u32 (c * 1073741824 % 4294967296) n = c % 4 * 1073741824 + n := by
  have e : c * 1073741824 % 4294967296 = c % 4 * 1073741824 := by omega
  rw [e]
  obtain ⟨a, ha⟩ := Int.eq_ofNat_of_zero_le (show 0 ≤ c % 4 by omega)
  obtain ⟨b, rfl⟩ := Int.eq_ofNat_of_zero_le h0
  have ha4 : a < 4 := by omega
  have h2 := u32_or_nat (a * 1073741824) b (by omega) (by omega)
  rw [join_nat a b (by omega)] at h2
  rw [ha]
  have e2 : ((a * 1073741824 : Nat) : Int) = (a : Int) * 1073741824 := by omega
  rw [e2] at h2
  rw [h2]
  clear e e2 h2 ha
  omega

theorem or_flag {c n : Int} (hc : 0 ≤ c) (hc4 : c < 4) (h0 : 0 ≤ n) (h1 : n < 536870912) : bits .or .u32 (c * 1073741824 + n) 536870912 = c * 1073741824 + 536870912 + n := by
  obtain ⟨a, rfl⟩ := Int.eq_ofNat_of_zero_le hc
  obtain ⟨b, rfl⟩ := Int.eq_ofNat_of_zero_le h0
  have h2 := u32_or_nat (a * 1073741824 + b) 536870912 (by omega) (by decide)
  rw [← join_nat a b (by omega), Nat.or_assoc, set_nat b (by omega), join_nat a (536870912 + b) (by omega), join_nat a b (by omega)] at h2
  have e2 : ((a * 1073741824 + b : Nat) : Int) = (a : Int) * 1073741824 + (b : Int) := by omega
  rw [e2] at h2
  have h3 : bits .or .u32 ((a : Int) * 1073741824 + (b : Int)) 536870912 = ((a * 1073741824 + (536870912 + b) : Nat) : Int) := h2
  rw [h3]
  omega

theorem ret_int {k : IntKind} {a b : Int} (h : a = b) : Ending.returned (.int k a) = .returned (.int k b) := by rw [h]
theorem ret_bool {a b : Bool} (h : a = b) : Ending.returned (.bool a) = .returned (.bool b) := by rw [h]

set_option maxHeartbeats 400000 in
theorem number_any (t : Int) (w : World) (h0 : 0 ≤ t) (h1 : t ≤ 4294967295) :
    Calls Try.prog 9 #[.int .u32 t] w fun e w' => e = .returned (.int .u32 (t % 536870912)) ∧ w = w' := by
  go_enter Try.func9, Try.ntmps9
  go_wp2
  go_ret
  exact ⟨ret_int (and_mask h0 h1), rfl⟩

set_option maxHeartbeats 400000 in
theorem cls_any (t : Int) (w : World) (h0 : 0 ≤ t) (h1 : t ≤ 4294967295) :
    Calls Try.prog 7 #[.int .u32 t] w fun e w' => e = .returned (.int .u8 (t / 1073741824)) ∧ w = w' := by
  go_enter Try.func7, Try.ntmps7
  go_wp2
  go_ret
  exact ⟨rfl, rfl⟩

set_option maxHeartbeats 400000 in
theorem constructed_any (t : Int) (w : World) (h0 : 0 ≤ t) (h1 : t ≤ 4294967295) :
    Calls Try.prog 8 #[.int .u32 t] w fun e w' => e = .returned (.bool (decide (t / 536870912 % 2 = 1))) ∧ w = w' := by
  go_enter Try.func8, Try.ntmps8
  go_wp2
  go_ret
  exact ⟨ret_bool (and_flag h0 h1), rfl⟩

/-- The tag that NewTag packs. -/
def packed (c : Int) (b : Bool) (n : Int) : Int := c % 4 * 1073741824 + (if b = true then 536870912 else 0) + n % 536870912

set_option maxHeartbeats 400000 in
theorem newTag_any (c n : Int) (b : Bool) (w : World) (hc0 : 0 ≤ c) (hc1 : c ≤ 255) (h0 : 0 ≤ n) (h1 : n ≤ 4294967295) :
    Calls Try.prog 10 #[.int .u8 c, .bool b, .int .u32 n] w fun e w' => e = .returned (.int .u32 (packed c b n)) ∧ w = w' := by
  have e1 := or_low (c := c) (n := n % 536870912) (by omega) (by omega)
  cases b
  · go_enter Try.func10, Try.ntmps10
    go_wp2
    go_ret
    refine ⟨ret_int ?_, rfl⟩
    rw [and_mask h0 h1, e1]
    simp [packed]
  · go_enter Try.func10, Try.ntmps10
    go_wp2
    go_ret
    refine ⟨ret_int ?_, rfl⟩
    rw [and_mask h0 h1, e1, or_flag (by omega) (by omega) (by omega) (by omega)]
    simp [packed]

set_option maxHeartbeats 400000 in
theorem explicit_any (n : Int) (w : World) (h0 : 0 ≤ n) (h1 : n ≤ 4294967295) :
    Calls Try.prog 6 #[.int .u32 n] w fun e w' => e = .returned (.int .u32 (packed 2 true n)) ∧ w = w' := by
  go_enter Try.func6, Try.ntmps6
  go_wp2_with fail
  refine (newTag_any 2 n true _ (by omega) (by omega) h0 h1).mono ?_
  rintro e w' ⟨rfl, rfl⟩
  go_wp2
  go_ret
  exact ⟨rfl, rfl⟩

theorem packed_bounds (c n : Int) (b : Bool) : 0 ≤ packed c b n ∧ packed c b n ≤ 4294967295 := by
  unfold packed
  cases b <;> simp <;> omega
theorem packed_number (c n : Int) (b : Bool) : packed c b n % 536870912 = n % 536870912 := by
  unfold packed
  cases b <;> simp <;> omega
theorem packed_cls (c n : Int) (b : Bool) : packed c b n / 1073741824 = c % 4 := by
  unfold packed
  cases b <;> simp <;> omega
theorem packed_flag (c n : Int) (b : Bool) : decide (packed c b n / 536870912 % 2 = 1) = b := by
  unfold packed
  cases b <;> simp <;> omega
theorem packed_back (t : Int) (h0 : 0 ≤ t) (h1 : t ≤ 4294967295) : packed (t / 1073741824) (decide (t / 536870912 % 2 = 1)) (t % 536870912) = t := by
  unfold packed
  by_cases h : t / 536870912 % 2 = 1 <;> simp [h] <;> omega
end Go.Proofs.Qxb6616380a
