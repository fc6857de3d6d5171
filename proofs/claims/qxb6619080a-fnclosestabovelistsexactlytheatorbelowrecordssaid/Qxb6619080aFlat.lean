/-
  zzFlatRuns by its contract.
-/
import Derived.Test.Qxb6619080aMem
import Derived.Deep.RegionHeld3
import Derived.Deep.AppendLies
namespace Go.Proofs.Qxb6619080a
open Go.RowKit

set_option maxHeartbeats 800000 in
set_option maxRecDepth 100000 in
theorem zzFlatRuns_any (base g n cap : Nat) (ts : List (Int × Int × Int)) (w : World) (hown : w.ownsRow base 39 3 (.slice (some ⟨g, 0, none⟩) n cap) n ((flat ts).map (Value.int .i64))) (hn : n ≤ 100) (hts : ts.length = n) :
    Calls Try.prog 13 #[.slice (some ⟨g, 0, none⟩) n cap] w fun e w' => ∃ v, e = .returned v ∧ w'.ownsRow w.heap.size 2 1 v (3 * n) ((flat ts).map (Value.int .i64)) ∧ Below w.heap.size w w' := by
  obtain ⟨i0, hi0, hz0, hz1, hz2⟩ := info_parts Try.info2
  have hgl : g < w.heap.size := (hown.lt g rfl).2
  have hcell : ∀ j, j < n * 3 → w.cell? ⟨g, j, none⟩ = ((flat ts).map (Value.int .i64))[j]? := fun j hj => hown.cellAt j hj
  have HT : Hid (ts.length = n) := hts
  clear hts hown
  go_enter Try.func13, Try.ntmps13
  go_wp2_with (at_make; refine wpList_make_own _ rfl _ _ 26 rfl w.heap.size 2 i0 _ 1 Try.underlying26 hi0 hz0 hz1 _ _ _ (3 * n) rfl rfl (by omega) ?b1 ?b2 ?b3 ?_)
  case b1 => rw [hz2]; omega
  case b2 => unfold maxLen; omega
  case b3 => omega
  intro w1 hown1 hgrow1
  have hb1 : Below w.heap.size w w1 := (Below.refl _ _).grown hgrow1 (Nat.le_refl _) (fun _ h => by cases h)
  have HC : Hid (∀ j, j < n * 3 → w.cell? ⟨g, j, none⟩ = ((flat ts).map (Value.int .i64))[j]?) := hcell
  clear hcell hgrow1
  go_wp2
  go_loopw [3, 4] (fun v i wr => ∃ k : Nat, k ≤ n ∧ i = .int .i64 k ∧ wr.ownsRow w.heap.size 2 1 v (3 * k) ((flat (ts.take k)).map (Value.int .i64)) ∧ Below w.heap.size w wr) (fun _ i _ => n - (intOf i).toNat)
  case atStart => exact ⟨0, Nat.zero_le _, rfl, by simpa [flat] using hown1, hb1⟩
  case round =>
    clear hown1 hb1 w1
    obtain ⟨k, hk, rfl, hown, hb⟩ := hrel
    by_cases hlt : k < n
    · have hkl : k < ts.length := by rw [HT.out]; exact hlt
      obtain ⟨a, b, c, ha⟩ : ∃ a b c, ts[k] = (a, b, c) := ⟨_, _, _, rfl⟩
      have HX : Hid (flat (ts.take (k + 1)) = flat (ts.take k) ++ [a, b, c]) := by
        have := flat_take ts k hkl
        rw [ha] at this
        exact this
      have hg := flat_get ts k hkl
      rw [ha] at hg
      have c0 : wr.cell? ⟨g, k * 3, none⟩ = some (.int .i64 a) := by rw [hb.cell hgl, HC.out _ (by omega), List.getElem?_map, hg.1]; rfl
      have c1 : wr.cell? ⟨g, k * 3 + 1, none⟩ = some (.int .i64 b) := by rw [hb.cell hgl, HC.out _ (by omega), List.getElem?_map, hg.2.1]; rfl
      have c2 : wr.cell? ⟨g, k * 3 + 2, none⟩ = some (.int .i64 c) := by rw [hb.cell hgl, HC.out _ (by omega), List.getElem?_map, hg.2.2]; rfl
      have hki : (0 : Int) ≤ (k : Int) := by omega
      have hki' : (k : Int) < (n : Int) := by omega
      have hsz := hb.size
      have ag : u3.ownBlock ≠ some g := fun h => by have := (hown.lt g h).1; omega
      have o3 : 3 * k + 3 ≤ maxLen := by unfold maxLen; omega
      have o4 : (3 * k + 3) * 8 ≤ 140737488355328 := by omega
      clear hg ha
      go_wp2_with fail
      go_region_held3 (fun w' => w'.cell? ⟨g, k * 3, none⟩ = some (.int .i64 a) ∧ w'.cell? ⟨g, k * 3 + 1, none⟩ = some (.int .i64 b) ∧ w'.cell? ⟨g, k * 3 + 2, none⟩ = some (.int .i64 c))
        (first
          | go_keep
          | (go_split_ands
             refine ⟨?_, ?_, ?_⟩
             · (rw [hgrow.cell_far _ (by simp; omega) (Ne.symm ag)]; assumption)
             · (rw [hgrow.cell_far _ (by simp; omega) (Ne.symm ag)]; assumption)
             · (rw [hgrow.cell_far _ (by simp; omega) (Ne.symm ag)]; assumption)))
        ((refine step_append_lies _ (by rfl) _ _ _ (by rfl) w.heap.size 2 i0 _ 1 8 Try.underlying26 hi0 hz0 hz1 hz2 rfl (by omega) u3 (3 * k) _ (by rfl) ((hown.alloc _).drew)
            ⟨wr.heap.size, 0, none⟩ 3 3 [.int .i64 a, .int .i64 b, .int .i64 c] (by rfl) (by rfl) (World.news_of_block (cs := #[.int .i64 a, .int .i64 b, .int .i64 c]) (t := 2) (fr := (0, 0)) (heap_alloc_new wr _)) (by simp [Value.oneCell'])
            (by omega) o3 o4 (by simp; omega) (wr.heap.size + 1) (by simp) ?_; intro gg cap' w1 hown1 hgrow hat hlt))
      go_wp2
      go_roundw
      case rel =>
        refine ⟨k + 1, by omega, by go_num, ?_, ?_⟩
        · rw [HX.out, List.map_append]
          exact hown1
        · exact ((hb.alloc (by omega) _).drew).grown hgrow (by simp; omega) (fun j hj => (hown.lt j hj).1)
      case measure => simp [intOf]; omega
    · go_wp2
      go_ret
      have e : k = n := by omega
      subst e
      refine ⟨_, rfl, ?_, hb⟩
      rw [List.take_of_length_le (by rw [HT.out]; omega)] at hown
      exact hown
end Go.Proofs.Qxb6619080a
