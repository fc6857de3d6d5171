/-
  zzPoints by its contract.
-/
import Derived.Test.Qxb6619080aMem
import Derived.Test.Qxb6619080aPlainA
namespace Go.Proofs.Qxb6619080a
open Go.RowKit

/-- A table of bools that the call has made: cell x says whether P x. -/
structure Tab (w wr : World) (L : Nat) (P : Int → Prop) : Prop where
  tab : ∃ bs : List Bool, wr.ownsRow w.heap.size 4 1 (.slice (some ⟨w.heap.size, 0, none⟩) (L + 1) (L + 1)) (L + 1) (bs.map Value.bool) ∧ bs.length = L + 1 ∧ ∀ x : Nat, x ≤ L → (bs.getD x false = true ↔ P x)
  below : Below w.heap.size w wr

theorem Tab.same {w wr : World} {L : Nat} {P P' : Int → Prop} (h : Tab w wr L P) (hp : ∀ x : Nat, x ≤ L → (P x ↔ P' x)) : Tab w wr L P' := by
  obtain ⟨⟨bs, h1, h2, h3⟩, hb⟩ := h
  exact ⟨⟨bs, h1, h2, fun x hx => (h3 x hx).trans (hp x hx)⟩, hb⟩

theorem Tab.drewN {w wr : World} {L : Nat} {P : Int → Prop} (h : Tab w wr L P) (n : Nat) : Tab w (wr.drewN n) L P := by
  obtain ⟨⟨bs, h1, h2, h3⟩, hb⟩ := h
  exact ⟨⟨bs, h1, h2, h3⟩, below_drewN hb n⟩

theorem Tab.set {w wr : World} {L : Nat} {P : Int → Prop} (h : Tab w wr L P) {X : Nat} (hX : X ≤ L) : Tab w (wr.setCell ⟨w.heap.size, X, none⟩ (.bool true)) L (fun x => P x ∨ x = X) := by
  obtain ⟨⟨bs, h1, h2, h3⟩, hb⟩ := h
  refine ⟨⟨bs.set X true, ?_, by simpa using h2, ?_⟩, hb.setCell (Nat.le_refl _) _⟩
  · rw [List.map_set]
    exact (h1.stored X (.bool true)).1
  · intro x hx
    have := h3 x hx
    rw [List.getD_eq_getElem?_getD] at this ⊢
    rw [List.getElem?_set]
    by_cases e : X = x
    · subst e
      rw [if_pos rfl, if_pos (by omega)]
      simp
    · rw [if_neg e, this]
      constructor
      · exact .inl
      · rintro (h | h)
        · exact h
        · omega

theorem Tab.cell {w wr : World} {L : Nat} {P : Int → Prop} (h : Tab w wr L P) {X : Nat} (hX : X ≤ L) : (∃ b, wr.cell? ⟨w.heap.size, X, none⟩ = some (.bool b) ∧ (b = true ↔ P X)) ∧ wr.frozen? ⟨w.heap.size, X, none⟩ = false := by
  obtain ⟨⟨bs, h1, h2, h3⟩, hb⟩ := h
  refine ⟨⟨bs.getD X false, ?_, h3 X hX⟩, h1.frozenAt X⟩
  rw [h1.cellAt X (by omega), List.getElem?_map, List.getD_eq_getElem?_getD, List.getElem?_eq_getElem (by omega)]
  rfl

theorem Tab.made {w w1 : World} {L : Nat} (h : w1.ownsRow w.heap.size 4 1 (.slice (some ⟨w.heap.size, 0, none⟩) (L + 1) (L + 1)) (L + 1) (madeCells #[Value.bool false] (L + 1)).toList) (hg : w.grownBy w1 none) :
    Tab w w1 L (fun _ => False) := by
  refine ⟨⟨List.replicate (L + 1) false, ?_, by simp, ?_⟩, (Below.refl _ _).grown hg (Nat.le_refl _) (fun _ h => by cases h)⟩
  · rw [List.map_replicate]
    rw [toList_madeCells_one] at h
    exact h
  · intro x hx
    rw [List.getD_eq_getElem?_getD, List.getElem?_replicate]
    simp [Nat.lt_succ_of_le hx]

theorem own_cell2 {wr : World} {base g cap n : Nat} {zs : List Int} (h : wr.ownsRow base 2 1 (.slice (some ⟨g, 0, none⟩) n cap) n (zs.map (Value.int .i64))) (j : Nat) (hj : j < n) : wr.cell? ⟨g, j, none⟩ = some (.int .i64 (zs.getD j 0)) := by
  have hl := h.1
  rw [List.length_map, Nat.mul_one] at hl
  rw [h.cellAt j (by omega), List.getElem?_map, List.getD_eq_getElem?_getD, List.getElem?_eq_getElem (by omega)]
  rfl

/-- The three numbers of run k, in the world as it stands. -/
theorem run_cells {w wr : World} {base g cap : Nat} {ts : List (Int × Int × Int)} (hown : w.ownsRow base 2 1 (.slice (some ⟨g, 0, none⟩) (3 * ts.length) cap) (3 * ts.length) ((flat ts).map (Value.int .i64)))
    (hb : Below w.heap.size w wr) (k : Nat) (hk : k < ts.length) :
    wr.cell? ⟨g, 3 * k, none⟩ = some (.int .i64 ts[k].1) ∧ wr.cell? ⟨g, 3 * k + 1, none⟩ = some (.int .i64 ts[k].2.1) ∧ wr.cell? ⟨g, 3 * k + 2, none⟩ = some (.int .i64 ts[k].2.2) := by
  have hgl := (hown.lt g rfl).2
  obtain ⟨h0, h1, h2⟩ := flat_get ts k hk
  rw [Nat.mul_comm k 3] at h0 h1 h2
  refine ⟨?_, ?_, ?_⟩
  · rw [hb.cell hgl, own_cell2 hown _ (by omega), List.getD_eq_getElem?_getD, h0]; rfl
  · rw [hb.cell hgl, own_cell2 hown _ (by omega), List.getD_eq_getElem?_getD, h1]; rfl
  · rw [hb.cell hgl, own_cell2 hown _ (by omega), List.getD_eq_getElem?_getD, h2]; rfl

theorem lastPt_take (ts : List (Int × Int × Int)) (k : Nat) (h : k < ts.length) : lastPt (ts.take (k + 1)) = if ts[k].1 ≤ ts[k].2.2 then ts[k].2.2 else lastPt (ts.take k) := by
  rw [List.take_succ_eq_append_getElem h, lastPt_snoc]

theorem On_take (ts : List (Int × Int × Int)) (k : Nat) (h : k < ts.length) (x : Int) : On (ts.take (k + 1)) x ↔ On (ts.take k) x ∨ OnRun ts[k] x := by
  rw [List.take_succ_eq_append_getElem h, On_snoc]

set_option maxHeartbeats 800000 in
set_option maxRecDepth 100000 in
theorem zzPoints_any (base g cap L : Nat) (ts : List (Int × Int × Int)) (w : World) (hown : w.ownsRow base 2 1 (.slice (some ⟨g, 0, none⟩) (3 * ts.length) cap) (3 * ts.length) ((flat ts).map (Value.int .i64)))
    (hn : ts.length ≤ 100) (hL : L ≤ 65536) (hgood : Good L ts) :
    Calls Try.prog 11 #[.slice (some ⟨g, 0, none⟩) (3 * ts.length) cap, .int .i64 L] w fun e w' =>
      e = .returned (.tuple #[.slice (some ⟨w.heap.size, 0, none⟩) (L + 1) (L + 1), .int .i64 (lastPt ts), .bool true]) ∧ Tab w w' L (On ts) := by
  obtain ⟨i0, hi0, hz0, hz1, hz2⟩ := info_parts Try.info4
  have HO : Hid (w.ownsRow base 2 1 (.slice (some ⟨g, 0, none⟩) (3 * ts.length) cap) (3 * ts.length) ((flat ts).map (Value.int .i64))) := hown
  have HG : Hid (Good L ts) := hgood
  clear hown hgood
  go_enter Try.func11, Try.ntmps11
  go_wp2_with (at_make; refine wpList_make_full _ rfl _ _ 23 rfl w.heap.size 4 i0 _ 1 Try.underlying23 hi0 hz0 hz1 _ _ _ _ (L + 1) rfl rfl (by omega) (by omega) ?b1 ?b2 ?b3 ?_)
  case b1 => rw [hz2]; omega
  case b2 => unfold maxLen; omega
  case b3 => omega
  intro w1 hown1 hgrow1
  have hT : Hid (Tab w w1 L (fun _ => False)) := Tab.made hown1 hgrow1
  clear hown1 hgrow1
  go_wp2
  go_loopw [8, 9] (fun x i wr => ∃ k : Nat, k ≤ ts.length ∧ i = .int .i64 (3 * (k : Int)) ∧ x = .int .i64 (lastPt (ts.take k)) ∧ Hid (Tab w wr L (On (ts.take k)))) (fun _ i _ => 3 * ts.length - (intOf i).toNat)
  case atStart => exact ⟨0, Nat.zero_le _, rfl, rfl, hT.out.same (fun x _ => by simp [On])⟩
  case round =>
    clear hT
    obtain ⟨k, hk, rfl, rfl, hT⟩ := hrel
    by_cases hlt : k < ts.length
    · obtain ⟨f, s, l, ht⟩ : ∃ f s l, ts[k] = (f, s, l) := ⟨_, _, _, rfl⟩
      obtain ⟨c0, c1, c2⟩ := run_cells HO.out hT.out.below k hlt
      have hg := HG.out k hlt
      have p0 := HG.out.last_nn k hk
      have HLP : Hid (lastPt (ts.take (k + 1)) = if f ≤ l then l else lastPt (ts.take k)) := by
        have := lastPt_take ts k hlt
        rw [ht] at this
        exact this
      have HON : Hid (∀ x, On (ts.take (k + 1)) x ↔ On (ts.take k) x ∨ OnRun (f, s, l) x) := by
        have := On_take ts k hlt
        rw [ht] at this
        exact this
      rw [ht] at c0 c1 c2 hg
      simp only at c0 c1 c2
      clear ht
      obtain ⟨p, hp⟩ : ∃ p, lastPt (ts.take k) = p := ⟨_, rfl⟩
      rw [hp] at hg p0
      have HP : Hid (lastPt (ts.take k) = p) := hp
      rw [hp]
      clear hp
      by_cases hfl : l < f
      · go_wp2
        go_roundw
        case rel => exact ⟨k + 1, by omega, by go_num, by rw [HLP.out, if_neg (by omega), HP.out], hT.out.same (fun x _ => by rw [HON.out]; constructor; exact .inl; rintro (h | ⟨_, _, h, _⟩); exact h; simp only at h; omega)⟩
        case measure => simp [intOf]; omega
      · obtain ⟨g1, g2, g3, g4, g5⟩ : f ≤ l ∧ 1 ≤ s ∧ p < f ∧ l ≤ L ∧ (l - f) % s = 0 := by
          rcases hg with h | h
          · exact absurd h hfl
          · exact h
        have e1 : decide (s < 1) = false := by rw [decide_eq_false_iff_not]; omega
        have e2 : decide (f ≤ p) = false := by rw [decide_eq_false_iff_not]; omega
        have e3 : decide ((L : Int) < l) = false := by rw [decide_eq_false_iff_not]; omega
        obtain ⟨N, hN⟩ : ∃ N : Nat, (l - f) / s = (N : Int) := by
          have := Int.ediv_nonneg (show 0 ≤ l - f by omega) (show 0 ≤ s by omega)
          exact ⟨((l - f) / s).toNat, by omega⟩
        have hNs : (N : Int) * s ≤ l - f := by rw [← hN]; exact Int.ediv_mul_le _ (by omega)
        have hNL : N ≤ L := by
          have := le_mul_one (show 0 ≤ (N : Int) by omega) g2
          omega
        have e4 : decide (l < f) = false := by rw [decide_eq_false_iff_not]; omega
        clear hg hfl
        go_wp2
        clear c0 c1 c2
        go_loopw [14] (fun y wr' => ∃ j : Nat, j ≤ N + 1 ∧ y = .int .i64 j ∧ Hid (Tab w wr' L (fun x => On (ts.take k) x ∨ ∃ i : Int, 0 ≤ i ∧ i < j ∧ x = f + i * s))) (fun y _ => N + 1 - (intOf y).toNat)
        case atStart => exact ⟨0, Nat.zero_le _, rfl, hT.out.same (fun x _ => by constructor; exact .inl; rintro (h | ⟨i, _, _, _⟩); exact h; omega)⟩
        case round =>
          clear hT
          obtain ⟨j, hj, rfl, hT⟩ := hrel
          by_cases hjN : j ≤ N
          · have m1 : (0 : Int) ≤ (j : Int) * s := mul_nn (by omega) (by omega)
            have m2 : (j : Int) * s ≤ l - f := Int.le_trans (Int.mul_le_mul_of_nonneg_right (by omega) (by omega)) hNs
            obtain ⟨X, hX⟩ : ∃ X : Nat, f + (j : Int) * s = (X : Int) := ⟨(f + (j : Int) * s).toNat, by omega⟩
            have hXL : X ≤ L := by omega
            obtain ⟨⟨b, cb, _⟩, cf⟩ := hT.out.cell hXL
            have jN : (j : Int) ≤ (l - f) / s := by omega
            have x1 : (0 : Int) ≤ (X : Int) := by omega
            have x2 : (X : Int) < (L : Int) + 1 := by omega
            go_wp2
            go_roundw
            case rel =>
              refine ⟨j + 1, by omega, by go_num, (hT.out.set hXL).same (fun x _ => ?_)⟩
              constructor
              · rintro ((h | ⟨i, i0, i1, i2⟩) | h)
                · exact .inl h
                · exact .inr ⟨i, i0, by omega, i2⟩
                · exact .inr ⟨j, by omega, by omega, by omega⟩
              · rintro (h | ⟨i, i0, i1, i2⟩)
                · exact .inl (.inl h)
                · by_cases e : i = j
                  · subst e; exact .inr (by omega)
                  · exact .inl (.inr ⟨i, i0, by omega, i2⟩)
            case measure => simp [intOf]; omega
          · have jN : (l - f) / s < (j : Int) := by omega
            go_wp2
            go_roundw
            case rel =>
              refine ⟨k + 1, by omega, by go_num, by rw [HLP.out, if_pos g1], hT.out.same (fun x _ => ?_)⟩
              rw [HON.out]
              constructor
              · rintro (h | ⟨i, i0, i1, i2⟩)
                · exact .inl h
                · exact .inr ⟨i, i0, g1, by simp only; omega, i2⟩
              · rintro (h | ⟨i, i0, _, i1, i2⟩)
                · exact .inl h
                · simp only at i1 i2
                  exact .inr ⟨i, i0, by omega, i2⟩
            case measure => simp [intOf]; omega
    · have e : ts.take k = ts := List.take_of_length_le (by omega)
      have e5 : decide (3 * (k : Int) + 2 < 3 * (ts.length : Int)) = false := by rw [decide_eq_false_iff_not]; omega
      rw [e] at hT ⊢
      go_wp2
      go_ret3
      exact ⟨rfl, hT.out⟩
end Go.Proofs.Qxb6619080a
