/-
  closestBelow by its contract.
-/
import Derived.Test.Qxb6619080aMem
import Derived.BigQuiet
import Derived.Deep.QuietTactic
import Derived.Deep.AppendLies
namespace Go.Proofs.Qxb6619080a
open Go.RowKit

theorem flat_snoc (num den : Int) (k : Nat) {s : Sb} (hs : s = (sb0 num den).it k) :
    (flat (runsB num den (k + 1))).map (Value.int .i64) = (flat (runsB num den k)).map (Value.int .i64) ++ [.int .i64 (s.ld + s.hd), .int .i64 s.hd, .int .i64 (s.ld + s.rl / s.rh * s.hd)] := by
  subst hs
  rw [runsB_succ, flat_append, List.map_append]
  rfl

set_option maxHeartbeats 400000 in
set_option maxRecDepth 100000 in
theorem closestBelow_any (num den limit : Int) (w : World) (h0 : 1 ≤ num) (h1 : num < den) (h2 : den ≤ limit) (h3 : limit ≤ 9223372036854775807) :
    Calls Try.prog 14 #[.agg #[.int .i64 num, .int .i64 den], .int .i64 limit] w fun e w' => ∃ (k : Nat) (v : Value), e = .returned v ∧ Stops num den k ∧
      w'.ownsRow w.heap.size 39 3 v (k + 2) ((flat (runsB num den (k + 1))).map (Value.int .i64)) ∧ Below w.heap.size w w' := by
  obtain ⟨i0, hi0, hz0, hz1, hz2⟩ := info_parts Try.info39
  have hne : (num == den) = false := by rw [beq_eq_false_iff_ne]; omega
  go_enter Try.func14, Try.ntmps14
  go_wp2
  go_quiet (fail)
  go_wp2
  go_loopw [5, 8, 9] (fun v x y wr => ∃ (k : Nat) (s : Sb), Hid (s = (sb0 num den).it k) ∧ Hid (∀ j, j < k → ((sb0 num den).it j).down.rl ≠ 0) ∧ x = .int .i64 s.rl ∧ y = .int .i64 s.rh ∧
      Mem w wr s.ln s.ld s.hn s.hd v (k + 1) ((flat (runsB num den k)).map (Value.int .i64))) (fun _ x y _ => (intOf x + intOf y).toNat)
  case atStart => exact ⟨0, sb0 num den, rfl, fun j hj => absurd hj (by omega), rfl, rfl, Mem.start w _ nq⟩
  case round =>
    obtain ⟨k, ⟨ln, ld, hn, hd, rl, rh⟩, hs, hj, rfl, rfl, hm⟩ := hrel
    simp only at hm
    obtain ⟨c1, c2, c3, c4, c5, c6, c7, c8, c9⟩ := hm.los
    have hF : Hid (Sb.Fine num den k ⟨ln, ld, hn, hd, rl, rh⟩) := by rw [hs.out]; exact fine_it (by omega) h1 k hj.out
    have a1 : 1 ≤ rl := by have := rl_pos h0 h1 k hj.out; rw [← hs.out] at this; exact this
    have a2 : 1 ≤ rh := hF.out.ok.rh1
    have a3 : 1 ≤ ld := hF.out.ok.ld1
    have a4 : 1 ≤ hd := hF.out.ok.hd1
    have a5 : 0 ≤ ln := hF.out.ok.ln0
    have a6 : 1 ≤ hn := hF.out.ok.hn1
    have a7 : ld + hd ≤ den := hF.out.ok.hd_le a1
    have a8 : k ≤ 62 := hF.out.small (by omega)
    have b1 : rl < den := hF.out.ok.rl_lt
    have b2 : rh ≤ den := hF.out.ok.rh_le
    obtain ⟨q, hq⟩ : ∃ q, rl / rh = q := ⟨_, rfl⟩
    obtain ⟨f, hf⟩ : ∃ f, (limit - ld) / hd = f := ⟨_, rfl⟩
    obtain ⟨q0, q1, q2, q3, q4, q5, q6, q7⟩ := hF.out.ok.half hq
    have hqf : q ≤ f := by
      rw [← hf, Int.le_ediv_iff_mul_le (by omega)]
      omega
    have HX : Hid ((flat (runsB num den (k + 1))).map (Value.int .i64) = (flat (runsB num den k)).map (Value.int .i64) ++ [.int .i64 (ld + hd), .int .i64 hd, .int .i64 (ld + q * hd)]) := by
      have := flat_snoc num den k hs.out
      simp only [hq] at this
      exact this
    have o2 : ∀ u ∈ [Value.int .i64 (ld + hd), .int .i64 hd, .int .i64 (ld + q * hd)], u.oneCell' = true := by simp [Value.oneCell']
    have o3 : k + 1 + 1 ≤ maxLen := by unfold maxLen; omega
    have o4 : (k + 1 + 1) * 24 ≤ 140737488355328 := by omega
    have o5 : ∀ o : Obj, w.heap.size ≤ (wr.alloc o).heap.size := fun o => by simp; omega
    by_cases hz : rl ≤ q * rh
    · go_wp2_with (at_builtin; refine wpList_append_own _ rfl _ _ 34 rfl w.heap.size 39 i0 _ 3 24 Try.underlying34 hi0 hz0 hz1 hz2 rfl (by decide) _ _ _ rfl (hm.own.alloc _) ⟨wr.heap.size, 0, none⟩ 1 1 [.int .i64 (ld + hd), .int .i64 hd, .int .i64 (ld + q * hd)] rfl rfl (World.news_of_block (cs := #[.int .i64 (ld + hd), .int .i64 hd, .int .i64 (ld + q * hd)]) (t := 39) (fr := (0, 0)) (heap_alloc_new wr _)) o2 o3 o4 (o5 _) ?_)
      intro v' w1 hown' hgrow _
      have hm1 := hm.append hown' hgrow
      obtain ⟨d1, d2, d3, d4, d5, d6, d7, d8, d9⟩ := hm1.los
      clear hown' hgrow hm c1 c2 c3 c4 c5 c6 c7 c8 c9
      go_wp2
      go_ret
      have hm2 := hm1.setlo (ln + q * hn) (ld + q * hd)
      refine ⟨k, v', rfl, ⟨hj.out, ?_⟩, ?_, hm2.below⟩
      · rw [← hs.out]
        show rl - rl / rh * rh = 0
        rw [hq]
        omega
      · rw [HX.out]
        exact hm2.own
    · obtain ⟨r, hr⟩ : ∃ r, rl - q * rh = r := ⟨_, rfl⟩
      have r1 : 1 ≤ r := by omega
      have r2 : r < rh := by omega
      have r3 : r ≤ rl := by omega
      obtain ⟨t, ht⟩ : ∃ t, (rh - 1) / r = t := ⟨_, rfl⟩
      have hD : Hid (Sb.Ok num den ⟨ln + q * hn, ld + q * hd, hn, hd, r, rh⟩) := by
        have := hF.out.ok.down
        simp only [Sb.down, Sb.lower, hq, hr] at this
        exact this
      obtain ⟨t0, t1, t2, t3, t4, t5, t6⟩ := hD.out.half2 r2 r1 ht
      go_wp2_with (at_builtin; refine wpList_append_own _ rfl _ _ 34 rfl w.heap.size 39 i0 _ 3 24 Try.underlying34 hi0 hz0 hz1 hz2 rfl (by decide) _ _ _ rfl (hm.own.alloc _) ⟨wr.heap.size, 0, none⟩ 1 1 [.int .i64 (ld + hd), .int .i64 hd, .int .i64 (ld + q * hd)] rfl rfl (World.news_of_block (cs := #[.int .i64 (ld + hd), .int .i64 hd, .int .i64 (ld + q * hd)]) (t := 39) (fr := (0, 0)) (heap_alloc_new wr _)) o2 o3 o4 (o5 _) ?_)
      intro v' w1 hown' hgrow _
      have hm1 := hm.append hown' hgrow
      obtain ⟨d1, d2, d3, d4, d5, d6, d7, d8, d9⟩ := hm1.los
      clear hown' hgrow hm c1 c2 c3 c4 c5 c6 c7 c8 c9
      go_wp2
      go_roundw
      case rel =>
        refine ⟨k + 1, ⟨ln + q * hn, ld + q * hd, hn + t * (ln + q * hn), hd + t * (ld + q * hd), r, rh - t * r⟩, ?_, ?_, rfl, rfl, ?_⟩
        · show _ = ((sb0 num den).it k).next
          rw [← hs.out]
          simp only [Sb.next, Sb.down, Sb.lower, Sb.upper, hq, hr, ht]
        · intro j hjk
          by_cases hjk' : j < k
          · exact hj.out j hjk'
          · have e : j = k := by omega
            subst e
            rw [← hs.out]
            show rl - rl / rh * rh ≠ 0
            rw [hq]
            omega
        · rw [HX.out]
          exact (hm1.setlo _ _).sethi _ _
      case measure => simp [intOf]; omega
end Go.Proofs.Qxb6619080a
