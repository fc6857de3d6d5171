/-
  ZZClosestBelow by its contract.
-/
import Derived.Test.Qxb6619080aCBelow
import Derived.Test.Qxb6619080aFlat
namespace Go.Proofs.Qxb6619080a
open Go.RowKit

set_option maxHeartbeats 400000 in
theorem closestBelow_one (num limit : Int) (w : World) :
    Calls Try.prog 14 #[.agg #[.int .i64 num, .int .i64 num], .int .i64 limit] w fun e w' => ∃ (v : Value), e = .returned v ∧
      w'.ownsRow w.heap.size 39 3 v 1 ((flat [(1, 1, 1)]).map (Value.int .i64)) ∧ Below w.heap.size w w' := by
  go_enter Try.func14, Try.ntmps14
  go_wp2
  go_ret
  refine ⟨_, rfl, ?_, ((Below.refl _ _).alloc (Nat.le_refl _) _).alloc (by simp) _⟩
  have h := World.ownsRow_lit (base := w.heap.size) (e := 39) (size := 3) (w.alloc (.cells #[.int .i64 num, .int .i64 num] 37)) #[.int .i64 1, .int .i64 1, .int .i64 1] 1 (by simp) (by decide) rfl
  simp only [World.size_alloc] at h
  exact h

/-- What ZZClosestBelow lists. -/
def ListB (num den : Int) (ts : List (Int × Int × Int)) : Prop := (num = den ∧ ts = [(1, 1, 1)]) ∨ (num < den ∧ ∃ k, Stops num den k ∧ ts = runsB num den (k + 1))

theorem ListB.unique {num den : Int} {ts us : List (Int × Int × Int)} (h : ListB num den ts) (h' : ListB num den us) : ts = us := by
  rcases h with ⟨h1, rfl⟩ | ⟨h1, k, hk, rfl⟩ <;> rcases h' with ⟨h2, rfl⟩ | ⟨h2, l, hl, rfl⟩
  · rfl
  · omega
  · omega
  · rw [hk.unique hl]

theorem ListB.short {num den : Int} {ts : List (Int × Int × Int)} (h : ListB num den ts) (h0 : 1 ≤ num) (hd : den ≤ 9223372036854775807) : 1 ≤ ts.length ∧ ts.length ≤ 100 := by
  rcases h with ⟨h1, rfl⟩ | ⟨h1, k, hk, rfl⟩
  · simp
  · rw [runsB_length]
    have := (fine_it (by omega) h1 k hk.1).small hd
    omega

theorem ListB.head {num den : Int} {ts : List (Int × Int × Int)} (h : ListB num den ts) : ∃ rs, ts = (1, 1, 1) :: rs := by
  rcases h with ⟨_, rfl⟩ | ⟨_, k, _, rfl⟩
  · exact ⟨_, rfl⟩
  · exact ⟨_, rfl⟩

theorem ListB.lastPt {num den : Int} {ts : List (Int × Int × Int)} (h : ListB num den ts) (h0 : 1 ≤ num) (hg : Int.gcd num den = 1) : lastPt ts = den := by
  rcases h with ⟨rfl, rfl⟩ | ⟨h1, k, hk, rfl⟩
  · rw [Int.gcd_self] at hg
    show (1 : Int) = num
    omega
  · exact lastPt_runsB h0 h1 hg hk

theorem own_cell {wr : World} {base g cap n : Nat} {zs : List Int} (h : wr.ownsRow base 2 1 (.slice (some ⟨g, 0, none⟩) n cap) n (zs.map (Value.int .i64))) (j : Nat) (hj : j < n) : wr.cell? ⟨g, j, none⟩ = some (.int .i64 (zs.getD j 0)) := by
  have hl := h.1
  rw [List.length_map, Nat.mul_one] at hl
  rw [h.cellAt j (by omega), List.getElem?_map, List.getD_eq_getElem?_getD, List.getElem?_eq_getElem (by omega)]
  rfl

theorem ListB_any (num den limit : Int) (w : World) (h0 : 1 ≤ num) (h1 : num ≤ den) (h2 : den ≤ limit) (h3 : limit ≤ 9223372036854775807) :
    Calls Try.prog 14 #[.agg #[.int .i64 num, .int .i64 den], .int .i64 limit] w fun e w' => ∃ (ts : List (Int × Int × Int)) (g cap : Nat), e = .returned (.slice (some ⟨g, 0, none⟩) ts.length cap) ∧ ListB num den ts ∧
      w'.ownsRow w.heap.size 39 3 (.slice (some ⟨g, 0, none⟩) ts.length cap) ts.length ((flat ts).map (Value.int .i64)) ∧ Below w.heap.size w w' := by
  rcases Int.lt_or_eq_of_le h1 with h | h
  · refine (closestBelow_any num den limit w h0 h h2 h3).mono fun e w' ⟨k, v, he, hs, ho, hb⟩ => ?_
    obtain ⟨g, cap, hv⟩ : ∃ g cap, v = .slice (some ⟨g, 0, none⟩) (k + 2) cap := by
      rcases ho.2 with ⟨_, h⟩ | ⟨g, cap, _, rfl, _⟩
      · omega
      · exact ⟨g, cap, rfl⟩
    subst hv
    have hl : (runsB num den (k + 1)).length = k + 2 := runsB_length _ _ _
    refine ⟨runsB num den (k + 1), g, cap, ?_, .inr ⟨h, k, hs, rfl⟩, ?_, hb⟩
    · rw [hl]; exact he
    · rw [hl]; exact ho
  · subst h
    refine (closestBelow_one num limit w).mono fun e w' ⟨v, he, ho, hb⟩ => ?_
    obtain ⟨g, cap, hv⟩ : ∃ g cap, v = .slice (some ⟨g, 0, none⟩) 1 cap := by
      rcases ho.2 with ⟨_, h⟩ | ⟨g, cap, _, rfl, _⟩
      · omega
      · exact ⟨g, cap, rfl⟩
    subst hv
    exact ⟨[(1, 1, 1)], g, cap, he, .inl ⟨rfl, rfl⟩, ho, hb⟩

set_option maxHeartbeats 400000 in
theorem zzClosestBelow_any (num den limit : Int) (w : World) (h0 : 1 ≤ num) (h1 : num ≤ den) (h2 : den ≤ limit) (h3 : limit ≤ 9223372036854775807) :
    Calls Try.prog 9 #[.int .i64 num, .int .i64 den, .int .i64 limit] w fun e w' => ∃ (ts : List (Int × Int × Int)) (g cap : Nat), e = .returned (.slice (some ⟨g, 0, none⟩) (3 * ts.length) cap) ∧ ListB num den ts ∧
      w'.ownsRow w.heap.size 2 1 (.slice (some ⟨g, 0, none⟩) (3 * ts.length) cap) (3 * ts.length) ((flat ts).map (Value.int .i64)) ∧ Below w.heap.size w w' := by
  go_enter Try.func9, Try.ntmps9
  go_wp2_with fail
  refine (ListB_any num den limit _ h0 h1 h2 h3).mono ?_
  rintro e w1 ⟨ts, g, cap, rfl, hl, ho, hb⟩
  have hsh := hl.short h0 (by omega)
  go_wp2_with fail
  refine (zzFlatRuns_any _ g ts.length cap ts _ ho hsh.2 rfl).mono ?_
  rintro e w2 ⟨v, rfl, ho2, hb2⟩
  go_wp2
  go_ret
  obtain ⟨g', cap', hv⟩ : ∃ g cap, v = .slice (some ⟨g, 0, none⟩) (3 * ts.length) cap := by
    rcases ho2.2 with ⟨_, h⟩ | ⟨g, cap, _, rfl, _⟩
    · omega
    · exact ⟨g, cap, rfl⟩
  subst hv
  have hs := hb.size
  refine ⟨ts, g', cap', rfl, hl, ?_, hb.trans (hb2.mono hs)⟩
  exact own_base ho2 hs
end Go.Proofs.Qxb6619080a
