/-
  The three laws on tags: the walks.
-/
import Derived.Test.Qxb6616380aTags
namespace Go.Proofs.Qxb6616380a
open Go.RowKit

set_option maxHeartbeats 400000 in
theorem rebuilds_any (t : Int) (w : World) (h0 : 0 ≤ t) (h1 : t ≤ 4294967295) :
    Calls Try.prog 4 #[.int .u32 t] w fun e w' => e = .returned (.bool true) ∧ w = w' := by
  obtain ⟨m, hm⟩ : ∃ m, t % 536870912 = m := ⟨_, rfl⟩
  obtain ⟨c, hc⟩ : ∃ c, t / 1073741824 = c := ⟨_, rfl⟩
  obtain ⟨b, hb⟩ : ∃ b, decide (t / 536870912 % 2 = 1) = b := ⟨_, rfl⟩
  have m0 : 0 ≤ m := by omega
  have m1 : m < 536870912 := by omega
  have c0 : 0 ≤ c := by omega
  have c1 : c ≤ 3 := by omega
  have HB : Hid (packed c b m = t) := by
    have := packed_back t h0 h1
    rw [hc, hb, hm] at this
    exact this
  have HM : Hid (t % 536870912 = m) := hm
  have HC : Hid (t / 1073741824 = c) := hc
  have HF : Hid (decide (t / 536870912 % 2 = 1) = b) := hb
  have d1 : decide (m < 536870912) = true := by rw [decide_eq_true_iff]; exact m1
  clear hm hc hb
  go_enter Try.func4, Try.ntmps4
  go_wp2_with fail
  refine (number_any t _ h0 h1).mono ?_
  rintro e w' ⟨rfl, rfl⟩
  rw [HM.out]
  go_wp2_with fail
  refine (cls_any t _ h0 h1).mono ?_
  rintro e w' ⟨rfl, rfl⟩
  rw [HC.out]
  go_wp2_with fail
  refine (constructed_any t _ h0 h1).mono ?_
  rintro e w' ⟨rfl, rfl⟩
  rw [HF.out]
  go_wp2_with fail
  refine (newTag_any c m b _ c0 (by omega) m0 (by omega)).mono ?_
  rintro e w' ⟨rfl, rfl⟩
  rw [HB.out]
  go_wp2
  go_ret
  exact ⟨by simp, rfl⟩

set_option maxHeartbeats 400000 in
theorem readsBack_any (c n : Int) (b : Bool) (w : World) (hc0 : 0 ≤ c) (hc1 : c ≤ 255) (h0 : 0 ≤ n) (h1 : n ≤ 4294967295) :
    Calls Try.prog 5 #[.int .u8 c, .bool b, .int .u32 n] w fun e w' => e = .returned (.bool true) ∧ w = w' := by
  obtain ⟨p0, p1⟩ := packed_bounds c n b
  have HN : Hid (packed c b n % 536870912 = n % 536870912) := packed_number c n b
  have HC : Hid (packed c b n / 1073741824 = c % 4) := packed_cls c n b
  have HF : Hid (decide (packed c b n / 536870912 % 2 = 1) = b) := packed_flag c n b
  have e1 : (n % 536870912 == n % 536870912) = true := beq_self_eq_true _
  have e2 : (c % 4 == c % 4) = true := beq_self_eq_true _
  go_enter Try.func5, Try.ntmps5
  go_wp2_with fail
  refine (newTag_any c n b _ hc0 hc1 h0 h1).mono ?_
  rintro e w' ⟨rfl, rfl⟩
  obtain ⟨p, hp⟩ : ∃ p, packed c b n = p := ⟨_, rfl⟩
  rw [hp] at HN HC HF p0 p1
  rw [hp]
  clear hp
  go_wp2_with fail
  refine (number_any p _ p0 p1).mono ?_
  rintro e w' ⟨rfl, rfl⟩
  rw [HN.out]
  go_wp2_with fail
  refine (cls_any p _ p0 p1).mono ?_
  rintro e w' ⟨rfl, rfl⟩
  rw [HC.out]
  go_wp2_with fail
  refine (constructed_any p _ p0 p1).mono ?_
  rintro e w' ⟨rfl, rfl⟩
  rw [HF.out]
  go_wp2
  go_ret
  exact ⟨by simp, rfl⟩

set_option maxHeartbeats 400000 in
theorem explicitLaw_any (n : Int) (w : World) (h0 : 0 ≤ n) (h1 : n ≤ 4294967295) :
    Calls Try.prog 3 #[.int .u32 n] w fun e w' => e = .returned (.bool true) ∧ w = w' := by
  obtain ⟨p0, p1⟩ := packed_bounds 2 n true
  obtain ⟨m, hm⟩ : ∃ m, n % 536870912 = m := ⟨_, rfl⟩
  have m0 : 0 ≤ m := by omega
  have m1 : m < 536870912 := by omega
  obtain ⟨k, hk⟩ : ∃ k, (m + 1) % 536870912 = k := ⟨_, rfl⟩
  have k0 : 0 ≤ k := by omega
  have k1 : k < 536870912 := by omega
  have HN : Hid (packed 2 true n % 536870912 = m) := by show _ = _; rw [packed_number, hm]
  have HC : Hid (packed 2 true n / 1073741824 = 2) := packed_cls 2 n true
  have HF : Hid (decide (packed 2 true n / 536870912 % 2 = 1) = true) := packed_flag 2 n true
  have HE : Hid (packed 2 true m = packed 2 true n) := by
    show _ = _
    unfold packed
    rw [← hm]
    omega
  have HD : Hid (packed 2 true k ≠ packed 2 true n) := by
    intro h
    have h2 := packed_number 2 k true
    rw [h, packed_number, hm] at h2
    omega
  have HM : Hid (n % 536870912 = m) := hm
  have HK : Hid ((m + 1) % 536870912 = k) := hk
  clear hm hk
  go_enter Try.func3, Try.ntmps3
  go_wp2_with fail
  refine (explicit_any n _ h0 h1).mono ?_
  rintro e w' ⟨rfl, rfl⟩
  rw [HM.out]
  obtain ⟨p, hp⟩ : ∃ p, packed 2 true n = p := ⟨_, rfl⟩
  rw [hp] at HN HC HF HE HD p0 p1
  rw [hp]
  clear hp
  go_wp2_with fail
  rw [HK.out]
  refine (explicit_any k _ k0 (by omega)).mono ?_
  rintro e w' ⟨rfl, rfl⟩
  obtain ⟨x, hx⟩ : ∃ x, packed 2 true k = x := ⟨_, rfl⟩
  rw [hx] at HD
  rw [hx]
  have e3 : (x != p) = true := by rw [bne_iff_ne]; exact HD.out
  clear hx
  go_wp2_with fail
  refine (cls_any p _ p0 p1).mono ?_
  rintro e w' ⟨rfl, rfl⟩
  rw [HC.out]
  go_wp2_with fail
  refine (constructed_any p _ p0 p1).mono ?_
  rintro e w' ⟨rfl, rfl⟩
  rw [HF.out]
  go_wp2_with fail
  refine (number_any p _ p0 p1).mono ?_
  rintro e w' ⟨rfl, rfl⟩
  rw [HN.out]
  go_wp2_with fail
  refine (explicit_any m _ m0 (by omega)).mono ?_
  rintro e w' ⟨rfl, rfl⟩
  rw [HE.out]
  go_wp2
  go_ret
  exact ⟨by simp, rfl⟩
end Go.Proofs.Qxb6616380a
