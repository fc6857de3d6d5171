/-
  zzGcd by its contract.
-/
import Derived.Test.Qxb6619080aRows
import Derived.WalkKit
import Derived.WalkSpells
import Derived.WalkLawsBesides
import Derived.Deep.Draws
namespace Go.Proofs.Qxb6619080a
open Go.RowKit

theorem gcd_step {a b : Int} (ha : 0 ≤ a) (hb : 0 ≤ b) : Int.gcd b (a % b) = Int.gcd a b := by
  obtain ⟨m, rfl⟩ := Int.eq_ofNat_of_zero_le ha
  obtain ⟨n, rfl⟩ := Int.eq_ofNat_of_zero_le hb
  rw [← Int.natCast_emod, Int.gcd_natCast_natCast, Int.gcd_natCast_natCast, Nat.gcd_comm n, ← Nat.gcd_rec, Nat.gcd_comm]

theorem ret_int {k : IntKind} {a b : Int} (h : a = b) : Ending.returned (.int k a) = .returned (.int k b) := by rw [h]

set_option maxHeartbeats 400000 in
theorem zzGcd_any (a b : Int) (w : World) (ha0 : 0 ≤ a) (ha : a ≤ 9223372036854775807) (hb0 : 0 ≤ b) (hb : b ≤ 9223372036854775807) :
    Calls Try.prog 7 #[.int .i64 a, .int .i64 b] w fun e w' => e = .returned (.int .i64 (Int.gcd a b)) ∧ ∃ n, w' = w.drewN n := by
  go_enter Try.func7, Try.ntmps7
  go_wp2
  go_loopw [0, 1] (fun x y wr => ∃ u v : Int, 0 ≤ u ∧ u ≤ 9223372036854775807 ∧ 0 ≤ v ∧ v ≤ 9223372036854775807 ∧ x = .int .i64 u ∧ y = .int .i64 v ∧ Hid (Int.gcd u v = Int.gcd a b) ∧ Hid (∃ n, wr = w.drewN n)) (fun _ y _ => (intOf y).toNat)
  case atStart => exact ⟨a, b, ha0, ha, hb0, hb, rfl, rfl, rfl, 0, rfl⟩
  case round =>
    obtain ⟨u, v, hu0, hu, hv0, hv, rfl, rfl, hg, hw⟩ := hrel
    by_cases hz : v = 0
    · subst hz
      go_wp2
      go_ret
      refine ⟨ret_int ?_, hw.out⟩
      have h1 := hg.out
      rw [Int.gcd_zero_right] at h1
      omega
    · have hv1 : 1 ≤ v := by omega
      have m0 := Int.emod_nonneg u hz
      have m1 := Int.emod_lt_of_pos u (show 0 < v by omega)
      go_wp2
      go_region
      all_goals
        go_wp2
        go_roundw
        case rel => exact ⟨v, u % v, by omega, by omega, by omega, by omega, rfl, rfl, (gcd_step hu0 hv0).trans hg.out, by obtain ⟨n, rfl⟩ := hw.out; exact ⟨n + 1, rfl⟩⟩
        case measure => simp [intOf]; omega
end Go.Proofs.Qxb6619080a
