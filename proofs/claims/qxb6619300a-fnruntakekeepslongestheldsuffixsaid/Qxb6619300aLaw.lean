/-
  FnRunTakeKeepsLongestHeldSuffix: the walk.
-/
import Derived.Test.Qxb6619300aZz
import Derived.Deep.CutBlock
namespace Go.Proofs.Qxb6619300a
open Go.RowKit

set_option maxHeartbeats 400000 in
set_option maxRecDepth 100000 in
theorem law_short (size held purged d window : Int) (ao : Option Addr) (n cap : Nat) (w : World) (hm : n ≤ maxLen) (h : 65536 < n ∨ size < 1) :
    Calls Try.prog 3 #[.int .i64 size, .slice ao n cap, .int .i64 held, .int .i64 purged, .int .i64 d, .int .i64 window] w fun e w' => e = .returned (.bool true) ∧ Below w.heap.size w w' := by
  by_cases h1 : n ≤ 1048576
  · by_cases h2 : 65536 < n
    · go_enter Try.func3, Try.ntmps3
      go_wp2_with fail
      refine (zzBytes_yes _ _ _ _ _ _ _ _ _ h1).mono ?_
      rintro e w' ⟨rfl, rfl⟩
      go_wp2
      go_ret
      exact ⟨rfl, Below.refl _ _⟩
    · have h3 : size < 1 := by omega
      go_enter Try.func3, Try.ntmps3
      go_wp2_with fail
      refine (zzBytes_yes _ _ _ _ _ _ _ _ _ h1).mono ?_
      rintro e w' ⟨rfl, rfl⟩
      go_wp2
      go_ret
      exact ⟨rfl, Below.refl _ _⟩
  · go_enter Try.func3, Try.ntmps3
    go_wp2_with fail
    refine (zzBytes_no _ _ _ _ _ _ _ _ _ h1 hm).mono ?_
    rintro e w' ⟨rfl, rfl⟩
    go_wp2
    go_ret
    exact ⟨rfl, Below.refl _ _⟩

/-- The table 'after', in memory: the row that the call made at wa. -/
structure AR (wa wr : World) (n : Nat) (ls : List Bool) : Prop where
  own : wr.ownsRow wa.heap.size 4 1 (.slice (some ⟨wa.heap.size, 0, none⟩) (n + 1) (n + 1)) (n + 1) (ls.map Value.bool)
  len : ls.length = n + 1
  below : Below wa.heap.size wa wr

theorem AR.set {wa wr : World} {n : Nat} {ls : List Bool} (h : AR wa wr n ls) (k : Nat) (b : Bool) : AR wa (wr.setCell ⟨wa.heap.size, k, none⟩ (.bool b)) n (ls.set k b) := by
  refine ⟨?_, by simpa using h.len, h.below.setCell (Nat.le_refl _) _⟩
  rw [List.map_set]
  exact (h.own.stored k _).1

theorem AR.cell {wa wr : World} {n : Nat} {ls : List Bool} (h : AR wa wr n ls) (k : Nat) (hk : k < n + 1) : wr.cell? ⟨wa.heap.size, k, none⟩ = some (.bool (ls.getD k false)) ∧ wr.frozen? ⟨wa.heap.size, k, none⟩ = false := by
  refine ⟨?_, h.own.frozenAt k⟩
  rw [h.own.cellAt k (by omega), List.getElem?_map, List.getD_eq_getElem?_getD, List.getElem?_eq_getElem (by rw [h.len]; exact hk)]
  rfl

theorem AR.made {wa w1 : World} {n : Nat} (h : w1.ownsRow wa.heap.size 4 1 (.slice (some ⟨wa.heap.size, 0, none⟩) (n + 1) (n + 1)) (n + 1) (madeCells #[Value.bool false] (n + 1)).toList) (hg : wa.grownBy w1 none) : AR wa w1 n (List.replicate (n + 1) false) := by
  refine ⟨?_, by simp, (Below.refl _ _).grown hg (Nat.le_refl _) (fun _ h => by cases h)⟩
  rw [List.map_replicate]
  rw [toList_madeCells_one] at h
  exact h

theorem own_below {wa wr : World} {B base e size : Nat} {v : Value} {n : Nat} {xs : List Value} (h : wa.ownsRow base e size v n xs) (hb : Below B wa wr) (hB : ∀ k, v.ownBlock = some k → k < B) : wr.ownsRow base e size v n xs := by
  refine ⟨h.1, ?_⟩
  rcases h.2 with h' | ⟨g, cap, cur, hv, hg, hh, r⟩
  · exact .inl h'
  · refine .inr ⟨g, cap, cur, hv, hg, ?_, r⟩
    rw [hb.block g (hB g (by rw [hv]; rfl))]
    exact hh

theorem part_step (bs : List Bool) (k : Nat) (h : k < bs.length) : (partCopy (bs ++ [false]) k).set k (bs.getD k false) = partCopy (bs ++ [false]) (k + 1) := by
  have e : bs.getD k false = (bs ++ [false]).getD k false := by
    rw [List.getD_eq_getElem?_getD, List.getD_eq_getElem?_getD, List.getElem?_append_left h]
  rw [e]
  exact partCopy_set _ k (by simp; omega)

theorem part_all (bs : List Bool) : partCopy (bs ++ [false]) bs.length = bs ++ [false] := by
  simp [partCopy]

set_option maxHeartbeats 1600000 in
set_option maxRecDepth 100000 in
theorem law_main (size held purged d window : Int) (ao : Option Addr) (cap : Nat) (bs : List Bool) (w : World) (hnil : ao = none → bs.length = 0 ∧ cap = 0) (hr : Reads w ao bs) (hn : bs.length ≤ 65536)
    (hs1 : 1 ≤ size) (hs2 : size ≤ 9223372036854775807) :
    Calls Try.prog 3 #[.int .i64 size, .slice ao bs.length cap, .int .i64 held, .int .i64 purged, .int .i64 d, .int .i64 window] w fun e w' => e = .returned (.bool true) ∧ Below w.heap.size w w' := by
  obtain ⟨i0, hi0, hz0, hz1, hz2⟩ := info_parts Try.info4
  have HNIL : Hid (ao = none → bs.length = 0 ∧ cap = 0) := hnil
  have HR : Hid (Reads w ao bs) := hr
  have e0 : decide ((65536 : Int) < (bs.length : Int)) = false := by rw [decide_eq_false_iff_not]; omega
  have e1 : decide (size < 1) = false := by rw [decide_eq_false_iff_not]; omega
  have htl := trues_le bs
  clear hnil hr
  go_enter Try.func3, Try.ntmps3
  go_wp2_with fail
  refine (zzBytes_yes _ _ _ _ _ _ _ _ _ (by omega)).mono ?_
  rintro e w' ⟨rfl, rfl⟩
  go_upto_block 0 with fail
  go_cut [13] (fun t wc => t = .int .i64 (trues bs) ∧ w = wc)
  case first =>
    go_wp2_with fail
    go_loop [13, 14] (fun c i => ∃ k C : Nat, k ≤ bs.length ∧ i = .int .i64 k ∧ c = .int .i64 C ∧ Hid (C + trues (bs.drop k) = trues bs)) (fun _ i => bs.length - (intOf i).toNat)
    case atStart => exact ⟨0, 0, by omega, rfl, rfl, by show 0 + trues (bs.drop 0) = trues bs; simp⟩
    case round =>
      obtain ⟨k, C, hk, rfl, rfl, hC⟩ := hrel
      have hCl : C ≤ trues bs := by have := hC.out; omega
      by_cases hlt : k < bs.length
      · obtain ⟨b, off, rfl, hbl, hc⟩ := HR.out k hlt
        have htd := trues_drop bs k hlt
        obtain ⟨x, hx⟩ : ∃ x, bs.getD k false = x := ⟨_, rfl⟩
        rw [hx] at hc htd
        have HTD : Hid (trues (bs.drop k) = (if x = true then 1 else 0) + trues (bs.drop (k + 1))) := htd
        clear hx htd
        have i1 : (0 : Int) ≤ (k : Int) := by omega
        have i2 : (k : Int) < (bs.length : Int) := by omega
        cases x with
        | true =>
          go_wp2
          go_round
          case rel => exact ⟨k + 1, C + 1, by omega, by go_num, by go_num, by have h1 := HTD.out; have h2 := hC.out; simp at h1; show C + 1 + trues (bs.drop (k + 1)) = trues bs; omega⟩
          case measure => simp [intOf]; omega
        | false =>
          go_wp2
          go_round
          case rel => exact ⟨k + 1, C, by omega, by go_num, rfl, by have h1 := HTD.out; have h2 := hC.out; simp at h1; show C + trues (bs.drop (k + 1)) = trues bs; omega⟩
          case measure => simp [intOf]; omega
      · have hCe : C = trues bs := by have := hC.out; rw [trues_past bs k (by omega)] at this; omega
        go_wp2_with fail
        go_meet
        exact ⟨rfl, rfl⟩
  case rest =>
      obtain ⟨rfl, rfl⟩ := hcut
      by_cases hh : held = (trues bs : Int)
      · subst hh
        have eh : (((trues bs : Nat) : Int) != ((trues bs : Nat) : Int)) = false := by rw [bne_eq_false_iff_eq]
        go_upto_region 15 with fail
        go_cut [15] (fun t wc => t = .bool (namedB d window bs.length) ∧ w = wc)
        case first =>
          by_cases h1 : 1 ≤ d
          · by_cases h2 : d ≤ window
            · by_cases h3 : d ≤ (bs.length : Int)
              · go_wp2_with fail
                go_meet
                exact ⟨by rw [namedB_yes ⟨h1, h2, h3⟩], rfl⟩
              · go_wp2_with fail
                go_meet
                exact ⟨by rw [namedB_no (by omega)], rfl⟩
            · go_wp2_with fail
              go_meet
              exact ⟨by rw [namedB_no (by omega)], rfl⟩
          · go_wp2_with fail
            go_meet
            exact ⟨by rw [namedB_no (by omega)], rfl⟩
        case rest =>
          obtain ⟨rfl, rfl⟩ := hcut
          obtain ⟨nm, hnm⟩ : ∃ b, namedB d window bs.length = b := ⟨_, rfl⟩
          have HN : Hid (namedB d window bs.length = nm) := hnm
          rw [hnm]
          clear hnm
          go_upto_region 16 with fail
          go_cut [79] (fun t wc => t = .bool (nm && !(bs.getD ((bs.length : Int) - d).toNat false)) ∧ w = wc)
          case first =>
            cases nm with
            | false =>
              go_wp2_with fail
              go_meet
              exact ⟨rfl, rfl⟩
            | true =>
              obtain ⟨h1, h2, h3⟩ : 1 ≤ d ∧ d ≤ window ∧ d ≤ (bs.length : Int) := of_decide_eq_true HN.out
              obtain ⟨X, hX⟩ : ∃ X : Nat, (bs.length : Int) - d = (X : Int) := ⟨((bs.length : Int) - d).toNat, by omega⟩
              have hX' : X < bs.length := by omega
              obtain ⟨b, off, rfl, hbl, hc⟩ := HR.out X hX'
              have i1 : (0 : Int) ≤ (X : Int) := by omega
              have i2 : (X : Int) < (bs.length : Int) := by omega
              have HX : Hid (((bs.length : Int) - d).toNat = X) := by show _ = _; omega
              obtain ⟨x, hx⟩ : ∃ x, bs.getD X false = x := ⟨_, rfl⟩
              have HX2 : Hid (bs.getD X false = x) := hx
              rw [hx] at hc
              clear hx
              go_wp2_with fail
              go_meet
              exact ⟨by rw [HX.out, HX2.out]; rfl, rfl⟩
          case rest =>
            obtain ⟨rfl, rfl⟩ := hcut
            obtain ⟨rt, hrt⟩ : ∃ b, (nm && !(bs.getD ((bs.length : Int) - d).toNat false)) = b := ⟨_, rfl⟩
            have HRT : Hid ((nm && !(bs.getD ((bs.length : Int) - d).toNat false)) = rt) := hrt
            rw [hrt]
            clear hrt
            cases rt with
            | true =>
              go_wp2
              go_ret
              exact ⟨rfl, Below.refl _ _⟩
            | false => as_aux_lemma =>
              have H4 : Hid (namedB d window bs.length = true → bs.getD ((bs.length : Int) - d).toNat false = true) := by
                intro h
                have h1 := HRT.out
                rw [← HN.out, h] at h1
                simpa using h1
              go_wp2_with fail
              refine (clone_any ao cap bs w HNIL.out HR.out hn).mono ?_
              rintro e wa ⟨ac, cc, rfl, hoc, hbc⟩
              have HOC : Hid (wa.ownsRow w.heap.size 4 1 (.slice ac bs.length cc) bs.length (bs.map Value.bool)) := hoc
              have HBC : Hid (Below w.heap.size w wa) := hbc
              clear hoc hbc HRT HR HNIL
              go_wp2_with (at_make; refine wpList_make_full _ rfl _ _ 22 rfl wa.heap.size 4 i0 _ 1 Try.underlying22 hi0 hz0 hz1 _ _ _ _ (bs.length + 1) rfl rfl (by omega) (by omega) ?b1 ?b2 ?b3 ?_)
              case b1 => rw [hz2]; omega
              case b2 => unfold maxLen; omega
              case b3 => omega
              intro w1 hown1 hgrow1
              have hA0 : Hid (AR wa w1 bs.length (partCopy (bs ++ [false]) 0)) := by
                have := AR.made hown1 hgrow1
                rw [partCopy_zero, List.length_append, List.length_singleton]
                exact this
              clear hown1 hgrow1
              go_upto_block 2 with fail
              go_cut [] (fun wc => Hid (AR wa wc bs.length (bs ++ [false])))
              case first =>
                go_wp2_with fail
                go_loopw [17] (fun i wr => ∃ j : Nat, j ≤ bs.length ∧ i = .int .i64 j ∧ Hid (AR wa wr bs.length (partCopy (bs ++ [false]) j))) (fun i _ => bs.length - (intOf i).toNat)
                case atStart => exact ⟨0, by omega, rfl, hA0⟩
                case round =>
                  clear hA0
                  obtain ⟨j, hj, rfl, hAR⟩ := hrel
                  by_cases hjl : j < bs.length
                  · obtain ⟨gc, cc', hv, hg1, hg2⟩ := HOC.out.form (by omega)
                    obtain ⟨rfl, _, rfl⟩ : ac = some ⟨gc, 0, none⟩ ∧ bs.length = bs.length ∧ cc = cc' := by simpa using hv
                    clear hv
                    have c1 : wr.cell? ⟨gc, j, none⟩ = some (.bool (bs.getD j false)) := (hAR.out.below.cell (p := ⟨gc, j, none⟩) hg2).trans (own_bool HOC.out j hjl)
                    obtain ⟨c2, c3⟩ := hAR.out.cell j (by omega)
                    obtain ⟨x, hx⟩ : ∃ x, bs.getD j false = x := ⟨_, rfl⟩
                    have HX : Hid (bs.getD j false = x) := hx
                    rw [hx] at c1
                    obtain ⟨y, hy⟩ : ∃ y, (partCopy (bs ++ [false]) j).getD j false = y := ⟨_, rfl⟩
                    rw [hy] at c2
                    clear hx hy
                    have i1 : (0 : Int) ≤ (j : Int) := by omega
                    have i2 : (j : Int) < (bs.length : Int) := by omega
                    go_wp2
                    go_roundw
                    case rel => exact ⟨j + 1, by omega, by go_num, by show AR _ _ _ _; rw [← part_step bs j hjl, HX.out]; exact hAR.out.set j x⟩
                    case measure => simp [intOf]; omega
                  · have hA1 : Hid (AR wa wr bs.length (bs ++ [false])) := by
                      have e : j = bs.length := by omega
                      have := hAR.out
                      rw [e, part_all] at this
                      exact this
                    clear hAR
                    go_wp2_with fail
                    go_meet
                    exact hA1
              case rest => as_aux_lemma =>
                  have hA1 := hcut
                  clear hcut hA0
                  go_upto_if 99 with fail
                  go_cut [] (fun wc => Hid (AR wa wc bs.length (struck bs nm ((bs.length : Int) - d).toNat ++ [false])))
                  case first =>
                    cases nm with
                    | false =>
                      go_wp2_with fail
                      go_meet
                      exact hA1.out
                    | true =>
                      obtain ⟨h1, h2, h3⟩ : 1 ≤ d ∧ d ≤ window ∧ d ≤ (bs.length : Int) := of_decide_eq_true HN.out
                      obtain ⟨X, hX⟩ : ∃ X : Nat, (bs.length : Int) - d = (X : Int) := ⟨((bs.length : Int) - d).toNat, by omega⟩
                      have hX' : X < bs.length := by omega
                      obtain ⟨c2, c3⟩ := hA1.out.cell X (by omega)
                      obtain ⟨y, hy⟩ : ∃ y, (bs ++ [false]).getD X false = y := ⟨_, rfl⟩
                      rw [hy] at c2
                      clear hy
                      have i1 : (0 : Int) ≤ (X : Int) := by omega
                      have i2 : (X : Int) < (bs.length : Int) + 1 := by omega
                      have HX : Hid (((bs.length : Int) - d).toNat = X) := by show _ = _; omega
                      go_wp2_with fail
                      go_meet
                      show AR _ _ _ _
                      rw [HX.out]
                      have := hA1.out.set X false
                      rw [List.set_append_left _ _ hX'] at this
                      exact this
                  case rest =>
                    have hA2 := hcut
                    clear hcut hA1
                    obtain ⟨c2, c3⟩ := hA2.out.cell bs.length (by omega)
                    obtain ⟨y, hy⟩ : ∃ y, (struck bs nm ((bs.length : Int) - d).toNat ++ [false]).getD bs.length false = y := ⟨_, rfl⟩
                    rw [hy] at c2
                    clear hy
                    obtain ⟨A, hA⟩ : ∃ A, after bs nm ((bs.length : Int) - d).toNat = A := ⟨_, rfl⟩
                    have HA : Hid (after bs nm ((bs.length : Int) - d).toNat = A) := hA
                    have HAL : Hid (A.length = bs.length + 1) := by show _ = _; rw [← hA, after_length]
                    have hA3 : Hid (AR wa (wc.setCell ⟨wa.heap.size, bs.length, none⟩ (.bool true)) bs.length A) := by
                      have := hA2.out.set bs.length true
                      rw [List.set_append_right _ _ (by rw [struck_length]; exact Nat.le_refl _), struck_length, Nat.sub_self] at this
                      rw [← hA]
                      exact this
                    clear hA hA2
                    go_upto_block 4 with fail
                    generalize wc.setCell ⟨wa.heap.size, bs.length, none⟩ (.bool true) = w3 at hA3 ⊢
                    have hAc : Hid (∀ i, i < bs.length + 1 → w3.cell? ⟨wa.heap.size, i, none⟩ = some (.bool (A.getD i false))) := fun i hi => (hA3.out.cell i hi).1
                    clear c2 c3
                    go_cut [18] (fun t wc' => ∃ st : Nat, t = .int .i64 st ∧ Hid (IsT A (size - 1) st) ∧ w3 = wc')
                    case first =>
                      go_wp2_with fail
                      go_loop [18, 19, 20] (fun st sn x => ∃ (i tr : Nat), i ≤ bs.length + 1 ∧ x = .int .i64 ((i : Int) - 1) ∧ sn = .int .i64 tr ∧ st = .int .i64 0 ∧ Hid (trues (A.drop i) = tr) ∧ (tr : Int) ≤ size - 1 ∧ tr ≤ bs.length + 1) (fun _ _ x => (intOf x + 1).toNat)
                      case atStart => exact ⟨bs.length + 1, 0, by omega, by go_num, rfl, rfl, trues_past A _ (by rw [HAL.out]; omega), by omega, by omega⟩
                      case round =>
                        obtain ⟨i, tr, hi, rfl, rfl, rfl, hTr, hts, htb⟩ := hrel
                        by_cases hi0 : i = 0
                        · subst hi0
                          have ei : decide ((0 : Int) ≤ ((0 : Nat) : Int) - 1) = false := by decide
                          go_wp2_with fail
                          go_meet
                          exact ⟨0, rfl, ⟨by omega, by rw [hTr.out]; exact hts, fun j hj => absurd hj (by omega)⟩, rfl⟩
                        · obtain ⟨m, rfl⟩ : ∃ m, i = m + 1 := ⟨i - 1, by omega⟩
                          have em : ((m + 1 : Nat) : Int) - 1 = (m : Int) := by omega
                          rw [em]
                          have c1 := hAc.out m (by omega)
                          have htd := trues_drop A m (by rw [HAL.out]; omega)
                          rw [hTr.out] at htd
                          obtain ⟨x, hx⟩ : ∃ x, A.getD m false = x := ⟨_, rfl⟩
                          rw [hx] at c1 htd
                          have HTD : Hid (trues (A.drop m) = (if x = true then 1 else 0) + tr) := htd
                          clear hx htd em hi0
                          have i1 : (0 : Int) ≤ (m : Int) := by omega
                          have i2 : (m : Int) < (bs.length : Int) + 1 := by omega
                          cases x with
                          | false =>
                            go_wp2
                            go_round
                            case rel => exact ⟨m, tr, by omega, rfl, rfl, rfl, by have := HTD.out; simp at this; exact this, hts, htb⟩
                            case measure => simp [intOf]
                          | true =>
                            have HT1 : Hid (trues (A.drop m) = tr + 1) := by have := HTD.out; simp at this; show _ = _; omega
                            have htb2 : tr + 1 ≤ bs.length + 1 := by
                              have := trues_le (A.drop m)
                              rw [HT1.out, List.length_drop, HAL.out] at this
                              omega
                            by_cases hsz : (tr : Int) + 1 = size
                            · have es : ((tr : Int) + 1 == size) = true := by rw [beq_iff_eq]; exact hsz
                              have HSZ : Hid ((tr : Int) + 1 = size) := hsz
                              clear hsz
                              go_wp2_with fail
                              go_meet
                              refine ⟨m + 1, by go_num, ⟨by rw [HAL.out]; omega, by rw [hTr.out]; exact hts, fun j hj => ?_⟩, rfl⟩
                              have h1 := trues_mono A j (m - j)
                              rw [show j + (m - j) = m by omega, HT1.out] at h1
                              have := HSZ.out
                              omega
                            · have es : ((tr : Int) + 1 == size) = false := by rw [beq_eq_false_iff_ne]; exact hsz
                              have hts2 : (tr : Int) + 1 ≤ size - 1 := by omega
                              clear hsz
                              go_wp2
                              go_round
                              case rel => exact ⟨m, tr + 1, by omega, rfl, by go_num, rfl, HT1.out, by omega, htb2⟩
                              case measure => simp [intOf]
                    case rest => as_aux_lemma =>
                      obtain ⟨st, rfl, hT, rfl⟩ := hcut
                      have hstl : st ≤ bs.length + 1 := by have := hT.out.1; rw [HAL.out] at this; exact this
                      go_upto_block 6 with fail
                      go_cut [21] (fun t wc' => t = .int .i64 (trues (A.drop st)) ∧ w3 = wc')
                      case first =>
                        go_wp2_with fail
                        go_loop [21, 22] (fun c i => ∃ k C : Nat, st ≤ k ∧ k ≤ bs.length + 1 ∧ i = .int .i64 k ∧ c = .int .i64 C ∧ Hid (C + trues (A.drop k) = trues (A.drop st)) ∧ C ≤ k) (fun _ i => bs.length + 1 - (intOf i).toNat)
                        case atStart => exact ⟨st, 0, by omega, hstl, rfl, rfl, by show 0 + _ = _; omega, by omega⟩
                        case round =>
                          obtain ⟨k, C, hk0, hk, rfl, rfl, hC, hCk⟩ := hrel
                          by_cases hlt4 : k < bs.length + 1
                          · have c1 := hAc.out k hlt4
                            have htd := trues_drop A k (by rw [HAL.out]; omega)
                            obtain ⟨x, hx⟩ : ∃ x, A.getD k false = x := ⟨_, rfl⟩
                            rw [hx] at c1 htd
                            have HTD : Hid (trues (A.drop k) = (if x = true then 1 else 0) + trues (A.drop (k + 1))) := htd
                            clear hx htd
                            have i1 : (0 : Int) ≤ (k : Int) := by omega
                            have i2 : (k : Int) < (bs.length : Int) + 1 := by omega
                            cases x with
                            | true =>
                              go_wp2
                              go_round
                              case rel => exact ⟨k + 1, C + 1, by omega, by omega, by go_num, by go_num, by have h1 := HTD.out; have h2 := hC.out; simp at h1; show C + 1 + trues (A.drop (k + 1)) = _; omega, by omega⟩
                              case measure => simp [intOf]; omega
                            | false =>
                              go_wp2
                              go_round
                              case rel => exact ⟨k + 1, C, by omega, by omega, by go_num, rfl, by have h1 := HTD.out; have h2 := hC.out; simp at h1; show C + trues (A.drop (k + 1)) = _; omega, by omega⟩
                              case measure => simp [intOf]; omega
                          · go_wp2_with fail
                            go_meet
                            refine ⟨?_, rfl⟩
                            have h2 := hC.out
                            rw [trues_past A k (by rw [HAL.out]; omega)] at h2
                            rw [← h2, Nat.add_zero]
                      case rest =>
                        obtain ⟨rfl, rfl⟩ := hcut
                        obtain ⟨tw, htw⟩ : ∃ x, trues (A.drop st) = x := ⟨_, rfl⟩
                        have HTW : Hid (trues (A.drop st) = tw) := htw
                        rw [htw]
                        clear htw
                        go_upto_if 142 with fail
                        go_cut [23] (fun t wc' => t = .int .i64 (purgedAfter nm purged) ∧ w3 = wc')
                        case first =>
                          cases nm with
                          | false =>
                            go_wp2_with fail
                            go_meet
                            exact ⟨rfl, rfl⟩
                          | true =>
                            go_wp2_with fail
                            go_meet
                            exact ⟨rfl, rfl⟩
                        case rest => as_aux_lemma =>
                          obtain ⟨rfl, rfl⟩ := hcut
                          obtain ⟨pw, hpw⟩ : ∃ x, purgedAfter nm purged = x := ⟨_, rfl⟩
                          have HPW : Hid (purgedAfter nm purged = pw) := hpw
                          rw [hpw]
                          clear hpw
                          have hOC3 : Hid (w3.ownsRow w.heap.size 4 1 (.slice ac bs.length cc) bs.length (bs.map Value.bool)) := own_below HOC.out hA3.out.below (fun k hk => (HOC.out.lt k hk).2)
                          have hws : w.heap.size ≤ w3.heap.size := Nat.le_trans HBC.out.size hA3.out.below.size
                          go_wp2_with fail
                          refine (zzRunTake_any w.heap.size cc ac bs size purged d window w3 hOC3.out hws hn H4.out hs1 hs2).mono ?_
                          rintro e w4 ⟨t, g, o, c, rfl, hT2, hgc, hk4⟩
                          rw [HN.out, HA.out] at hT2 hgc
                          rw [HN.out, HA.out]
                          obtain rfl := hT2.unique hT.out
                          rw [HTW.out, HPW.out]
                          have HGC : Hid (∀ i, i < bs.length + 1 - t → w4.cell? ⟨g, o + i, none⟩ = some (.bool (A.getD (t + i) false))) := hgc
                          have HB4 : Hid (Below w.heap.size w w4) := by
                            have h1 : Below w.heap.size w w3 := HBC.out.trans (hA3.out.below.mono HBC.out.size)
                            exact h1.trans (hk4.below (fun k hk => (hOC3.out.lt k hk.symm).1) hws)
                          have HA4 : Hid (∀ i, i < bs.length + 1 → w4.cell? ⟨wa.heap.size, i, none⟩ = some (.bool (A.getD i false))) := by
                            intro i hi
                            have h1 := hAc.out i hi
                            have hbl := World.block_lt_of_cell? w3 _ h1
                            rw [World.cell?_of_block (w := w3) (hk4.block wa.heap.size hbl (fun hc => by have := (HOC.out.lt _ hc.symm).2; omega))]
                            exact h1
                          clear hT2 hgc hk4 hOC3
                          obtain ⟨L, hL⟩ : ∃ L, bs.length + 1 - t = L := ⟨_, rfl⟩
                          have hLt : t + L = bs.length + 1 := by omega
                          rw [hL]
                          rw [hL] at HGC
                          clear hL
                          go_wp2_with fail
                          go_loopw [27] (fun x wr => ∃ i : Nat, i ≤ L ∧ x = .int .i64 i ∧ ∃ m, wr = w4.drewN m) (fun x _ => L - (intOf x).toNat)
                          case atStart => exact ⟨0, by omega, rfl, 0, rfl⟩
                          case round =>
                            obtain ⟨i, hi, rfl, m, rfl⟩ := hrel
                            by_cases hlt5 : i < L
                            · have c1 := HGC.out i hlt5
                              have c2 := HA4.out (t + i) (by omega)
                              obtain ⟨x, hx⟩ : ∃ x, A.getD (t + i) false = x := ⟨_, rfl⟩
                              rw [hx] at c1 c2
                              clear hx
                              have i1 : (0 : Int) ≤ (i : Int) := by omega
                              have i2 : (i : Int) < (L : Int) := by omega
                              have i3 : (0 : Int) ≤ (t : Int) + (i : Int) := by omega
                              have i4 : (t : Int) + (i : Int) < (bs.length : Int) + 1 := by omega
                              have i5 : (x != x) = false := by cases x <;> rfl
                              go_wp2
                              go_quiet (fail)
                              go_wp2
                              go_roundw
                              case rel => exact ⟨i + 1, by omega, by go_num, _, rfl⟩
                              case measure => simp [intOf]; omega
                            · go_wp2
                              go_ret
                              exact ⟨rfl, below_drewN HB4.out _⟩
      · have eh : (held != ((trues bs : Nat) : Int)) = true := by rw [bne_iff_ne]; exact hh
        go_wp2
        go_ret
        exact ⟨rfl, Below.refl _ _⟩

theorem law_any (size held purged d window : Int) (ao : Option Addr) (cap : Nat) (bs : List Bool) (w : World) (hm : bs.length ≤ maxLen) (hnil : ao = none → bs.length = 0 ∧ cap = 0) (hr : Reads w ao bs)
    (hs2 : size ≤ 9223372036854775807) :
    Calls Try.prog 3 #[.int .i64 size, .slice ao bs.length cap, .int .i64 held, .int .i64 purged, .int .i64 d, .int .i64 window] w fun e w' => e = .returned (.bool true) ∧ Below w.heap.size w w' := by
  by_cases h : 65536 < bs.length ∨ size < 1
  · exact law_short size held purged d window ao bs.length cap w hm h
  · exact law_main size held purged d window ao cap bs w hnil hr (by omega) (by omega) hs2
end Go.Proofs.Qxb6619300a
