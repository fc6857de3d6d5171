/-
  closestAbove and ZZClosestAbove by their contracts.
-/
import Derived.Test.Qxb6619080aMem
import Derived.Test.Qxb6619080aPlainA
import Derived.Test.Qxb6619080aFlat
import Derived.BigQuiet
import Derived.Deep.QuietTactic
import Derived.Deep.AppendLies
namespace Go.Proofs.Qxb6619080a
open Go.RowKit

theorem new_at {W : World} {n : Nat} (h : W.heap.size = n) (o : Obj) : (W.alloc o).heap[n]? = some o := by
  subst h
  exact heap_alloc_new W o

theorem flatA_snoc (num den : Int) (k : Nat) {s : Sb} (hs : s = (sb0 num den).it k) :
    (flat (runsA num den (k + 1))).map (Value.int .i64) = (flat (runsA num den k)).map (Value.int .i64) ++ [.int .i64 (s.hd + s.down.ld), .int .i64 s.down.ld, .int .i64 s.next.hd] := by
  subst hs
  rw [runsA_succ, flat_append, List.map_append]
  rfl

theorem flatA_end (num den limit : Int) (k : Nat) {s : Sb} (hs : s = (sb0 num den).it k) :
    (flat (listA num den limit k)).map (Value.int .i64) = (flat (runsA num den k)).map (Value.int .i64) ++ [.int .i64 (s.hd + s.down.ld), .int .i64 s.down.ld, .int .i64 (s.hd + (limit - s.hd) / s.down.ld * s.down.ld)] := by
  subst hs
  rw [listA, flat_append, List.map_append]
  rfl

set_option maxHeartbeats 800000 in
set_option maxRecDepth 100000 in
theorem closestAbove_any (num den limit : Int) (w : World) (h0 : 0 ≤ num) (h1 : num < den) (h2 : den ≤ limit) (h3 : limit ≤ 65536) :
    Calls Try.prog 15 #[.agg #[.int .i64 num, .int .i64 den], .int .i64 limit] w fun e w' => ∃ (k : Nat) (v : Value), e = .returned v ∧ Stops num den k ∧
      w'.ownsRow w.heap.size 39 3 v (k + 2) ((flat (listA num den limit k)).map (Value.int .i64)) ∧ Below w.heap.size w w' := by
  obtain ⟨i0, hi0, hz0, hz1, hz2⟩ := info_parts Try.info39
  go_enter Try.func15, Try.ntmps15
  go_wp2
  go_quiet (fail)
  go_wp2
  go_loopw [5, 8, 9] (fun v x y wr => ∃ (k : Nat) (s : Sb), Hid (s = (sb0 num den).it k) ∧ Hid (∀ j, j < k → ((sb0 num den).it j).down.rl ≠ 0) ∧ x = .int .i64 s.rl ∧ y = .int .i64 s.rh ∧
      Mem w wr s.ln s.ld s.hn s.hd v (k + 1) ((flat (runsA num den k)).map (Value.int .i64))) (fun _ x y _ => (intOf x + intOf y).toNat)
  case atStart => exact ⟨0, sb0 num den, rfl, fun j hj => absurd hj (by omega), rfl, rfl, Mem.start w _ nq⟩
  case round =>
    obtain ⟨k, ⟨ln, ld, hn, hd, rl, rh⟩, hs, hj, rfl, rfl, hm⟩ := hrel
    simp only at hm
    obtain ⟨c1, c2, c3, c4, c5, c6, c7, c8, c9⟩ := hm.los
    have hF : Hid (Sb.Fine num den k ⟨ln, ld, hn, hd, rl, rh⟩) := by rw [hs.out]; exact fine_it (by omega) h1 k hj.out
    have a1 : 0 ≤ rl := hF.out.ok.rl0
    have a2 : 1 ≤ rh := hF.out.ok.rh1
    have a3 : 1 ≤ ld := hF.out.ok.ld1
    have a4 : 1 ≤ hd := hF.out.ok.hd1
    have a5 : 0 ≤ ln := hF.out.ok.ln0
    have a6 : 1 ≤ hn := hF.out.ok.hn1
    have a7 : hd ≤ den := hF.out.top
    have a8 : k ≤ 62 := hF.out.small (by omega)
    have b1 : rl < den := hF.out.ok.rl_lt
    have b2 : rh ≤ den := hF.out.ok.rh_le
    obtain ⟨q, hq⟩ : ∃ q, rl / rh = q := ⟨_, rfl⟩
    obtain ⟨q0, q1, q2, q3, q4, q5, q6, q7⟩ := hF.out.ok.half hq
    obtain ⟨f, hf⟩ : ∃ f, (limit - hd) / (ld + q * hd) = f := ⟨_, rfl⟩
    have f0 : 0 ≤ f := by rw [← hf]; exact Int.ediv_nonneg (by omega) (by omega)
    have f1 : 0 ≤ f * (ld + q * hd) := mul_nn f0 (by omega)
    have f2 : f * (ld + q * hd) ≤ limit - hd := by rw [← hf]; exact Int.ediv_mul_le _ (by omega)
    have o3 : k + 1 + 1 ≤ maxLen := by unfold maxLen; omega
    have o4 : (k + 1 + 1) * 24 ≤ 140737488355328 := by omega
    have o5 : ∀ o : Obj, w.heap.size ≤ (wr.alloc o).heap.size := fun o => by simp; omega
    have hdl : Hid ((Sb.mk ln ld hn hd rl rh).down = ⟨ln + q * hn, ld + q * hd, hn, hd, rl - q * rh, rh⟩) := by
      show Sb.down _ = _
      simp only [Sb.down, Sb.lower, hq]
    by_cases hz : rl ≤ q * rh
    · have HX : Hid ((flat (listA num den limit k)).map (Value.int .i64) = (flat (runsA num den k)).map (Value.int .i64) ++ [.int .i64 (hd + (ld + q * hd)), .int .i64 (ld + q * hd), .int .i64 (hd + f * (ld + q * hd))]) := by
        have := flatA_end num den limit k hs.out
        simp only [hdl.out, hf] at this
        exact this
      have o2 : ∀ u ∈ [Value.int .i64 (hd + (ld + q * hd)), .int .i64 (ld + q * hd), .int .i64 (hd + f * (ld + q * hd))], u.oneCell' = true := by simp [Value.oneCell']
      go_wp2_with (at_builtin; refine wpList_append_own _ rfl _ _ 34 rfl w.heap.size 39 i0 _ 3 24 Try.underlying34 hi0 hz0 hz1 hz2 rfl (by decide) _ _ _ rfl ((hm.setlo (ln + q * hn) (ld + q * hd)).own.alloc _) ⟨wr.heap.size, 0, none⟩ 1 1 [.int .i64 (hd + (ld + q * hd)), .int .i64 (ld + q * hd), .int .i64 (hd + f * (ld + q * hd))] rfl rfl (World.news_of_block (cs := #[.int .i64 (hd + (ld + q * hd)), .int .i64 (ld + q * hd), .int .i64 (hd + f * (ld + q * hd))]) (t := 39) (fr := (0, 0)) (new_at (by simp) _)) o2 o3 o4 (by simp; omega) ?_)
      intro v' w1 hown' hgrow _
      have hm1 := (hm.setlo (ln + q * hn) (ld + q * hd)).append hown' hgrow
      clear hown' hgrow hm c1 c2 c3 c4 c5 c6 c7 c8 c9
      go_wp2
      go_ret
      refine ⟨k, v', rfl, ⟨hj.out, ?_⟩, ?_, hm1.below⟩
      · rw [← hs.out, hdl.out]
        show rl - q * rh = 0
        omega
      · rw [HX.out]
        exact hm1.own
    · obtain ⟨r, hr⟩ : ∃ r, rl - q * rh = r := ⟨_, rfl⟩
      have r1 : 1 ≤ r := by omega
      have r2 : r < rh := by omega
      have r3 : r ≤ rl := by omega
      obtain ⟨t, ht⟩ : ∃ t, (rh - 1) / r = t := ⟨_, rfl⟩
      have hdl' : Hid ((Sb.mk ln ld hn hd rl rh).down = ⟨ln + q * hn, ld + q * hd, hn, hd, r, rh⟩) := by
        have := hdl.out
        rw [hr] at this
        exact this
      have hD : Hid (Sb.Ok num den ⟨ln + q * hn, ld + q * hd, hn, hd, r, rh⟩) := by
        have := hF.out.ok.down
        rw [hdl'.out] at this
        exact this
      have hN : Hid ((Sb.mk ln ld hn hd rl rh).next = ⟨ln + q * hn, ld + q * hd, hn + t * (ln + q * hn), hd + t * (ld + q * hd), r, rh - t * r⟩) := by
        show Sb.next _ = _
        simp only [Sb.next, hdl'.out, Sb.upper, ht]
      obtain ⟨t0, t1, t2, t3, t4, t5, t6⟩ := hD.out.half2 r2 r1 ht
      have htf : t ≤ f := by
        rw [← hf, Int.le_ediv_iff_mul_le (by omega)]
        omega
      have HX : Hid ((flat (runsA num den (k + 1))).map (Value.int .i64) = (flat (runsA num den k)).map (Value.int .i64) ++ [.int .i64 (hd + (ld + q * hd)), .int .i64 (ld + q * hd), .int .i64 (hd + t * (ld + q * hd))]) := by
        have := flatA_snoc num den k hs.out
        simp only [hdl'.out, hN.out] at this
        exact this
      have o2 : ∀ u ∈ [Value.int .i64 (hd + (ld + q * hd)), .int .i64 (ld + q * hd), .int .i64 (hd + t * (ld + q * hd))], u.oneCell' = true := by simp [Value.oneCell']
      go_wp2_with (at_builtin; refine wpList_append_own _ rfl _ _ 34 rfl w.heap.size 39 i0 _ 3 24 Try.underlying34 hi0 hz0 hz1 hz2 rfl (by decide) _ _ _ rfl ((hm.setlo (ln + q * hn) (ld + q * hd)).own.alloc _) ⟨wr.heap.size, 0, none⟩ 1 1 [.int .i64 (hd + (ld + q * hd)), .int .i64 (ld + q * hd), .int .i64 (hd + t * (ld + q * hd))] rfl rfl (World.news_of_block (cs := #[.int .i64 (hd + (ld + q * hd)), .int .i64 (ld + q * hd), .int .i64 (hd + t * (ld + q * hd))]) (t := 39) (fr := (0, 0)) (new_at (by simp) _)) o2 o3 o4 (by simp; omega) ?_)
      intro v' w1 hown' hgrow _
      have hm1 := (hm.setlo (ln + q * hn) (ld + q * hd)).append hown' hgrow
      obtain ⟨d1, d2, d3, d4, d5, d6, d7, d8, d9⟩ := hm1.los
      clear hown' hgrow hm c1 c2 c3 c4 c5 c6 c7 c8 c9
      go_wp2
      go_roundw
      case rel =>
        refine ⟨k + 1, ⟨ln + q * hn, ld + q * hd, hn + t * (ln + q * hn), hd + t * (ld + q * hd), r, rh - t * r⟩, ?_, ?_, rfl, rfl, ?_⟩
        · show _ = ((sb0 num den).it k).next
          rw [← hs.out, hN.out]
        · intro j hjk
          by_cases hjk' : j < k
          · exact hj.out j hjk'
          · have e : j = k := by omega
            subst e
            rw [← hs.out, hdl'.out]
            show r ≠ 0
            omega
        · rw [HX.out]
          exact hm1.sethi _ _
      case measure => simp [intOf]; omega

theorem listA_short {num den limit : Int} {k : Nat} (h : Stops num den k) (h0 : 0 ≤ num) (h1 : num < den) (hd : den ≤ 65536) : (listA num den limit k).length ≤ 100 := by
  rw [listA_length]
  have := (fine_it h0 h1 k h.1).small (by omega)
  omega

set_option maxHeartbeats 400000 in
theorem zzClosestAbove_any (num den limit : Int) (w : World) (h0 : 0 ≤ num) (h1 : num < den) (h2 : den ≤ limit) (h3 : limit ≤ 65536) :
    Calls Try.prog 10 #[.int .i64 num, .int .i64 den, .int .i64 limit] w fun e w' => ∃ (k g cap : Nat), e = .returned (.slice (some ⟨g, 0, none⟩) (3 * (listA num den limit k).length) cap) ∧ Stops num den k ∧
      w'.ownsRow w.heap.size 2 1 (.slice (some ⟨g, 0, none⟩) (3 * (listA num den limit k).length) cap) (3 * (listA num den limit k).length) ((flat (listA num den limit k)).map (Value.int .i64)) ∧ Below w.heap.size w w' := by
  go_enter Try.func10, Try.ntmps10
  go_wp2_with fail
  refine (closestAbove_any num den limit _ h0 h1 h2 h3).mono ?_
  rintro e w1 ⟨k, v, rfl, hk, ho, hb⟩
  have hsh : (listA num den limit k).length ≤ 100 := listA_short hk h0 h1 (by omega)
  have hl : (listA num den limit k).length = k + 2 := listA_length _ _ _ _
  obtain ⟨g, cap, hv, _⟩ := ho.form (by omega)
  rw [hv]
  rw [hv, ← hl] at ho
  rw [← hl]
  clear hv
  have HL : Hid ((listA num den limit k).length = k + 2) := hl
  clear hl
  go_wp2_with fail
  refine (zzFlatRuns_any _ g _ cap (listA num den limit k) _ ho hsh rfl).mono ?_
  rintro e w2 ⟨v', rfl, ho2, hb2⟩
  go_wp2
  go_ret
  obtain ⟨g', cap', hv, _⟩ := ho2.form (by have := HL.out; omega)
  subst hv
  have hs := hb.size
  exact ⟨k, g', cap', rfl, hk, own_base ho2 hs, hb.trans (hb2.mono hs)⟩
end Go.Proofs.Qxb6619080a
