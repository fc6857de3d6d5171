/-
  ZZRunTake by its contract.
-/
import Derived.Test.Qxb6619300aTake
namespace Go.Proofs.Qxb6619300a
open Go.RowKit

set_option maxHeartbeats 400000 in
set_option maxRecDepth 100000 in
theorem zzRunTake_any (base cap : Nat) (ao : Option Addr) (bs : List Bool) (size purged d window : Int) (w : World)
    (hown : w.ownsRow base 4 1 (.slice ao bs.length cap) bs.length (bs.map Value.bool)) (hb : base ≤ w.heap.size)
    (hn : bs.length ≤ 65536) (h4 : namedB d window bs.length = true → bs.getD ((bs.length : Int) - d).toNat false = true) (hs1 : 1 ≤ size) (hs2 : size ≤ 9223372036854775807) :
    Calls Try.prog 6 #[.int .i64 size, .slice ao bs.length cap, .int .i64 (trues bs), .int .i64 purged, .int .i64 d, .int .i64 window] w fun e w' => ∃ t g o c,
      e = .returned (.tuple #[.slice (some ⟨g, o, none⟩) (bs.length + 1 - t) c, .int .i64 (trues ((after bs (namedB d window bs.length) ((bs.length : Int) - d).toNat).drop t)), .int .i64 (purgedAfter (namedB d window bs.length) purged)]) ∧
      IsT (after bs (namedB d window bs.length) ((bs.length : Int) - d).toNat) (size - 1) t ∧
      (∀ i, i < bs.length + 1 - t → w'.cell? ⟨g, o + i, none⟩ = some (.bool ((after bs (namedB d window bs.length) ((bs.length : Int) - d).toNat).getD (t + i) false))) ∧
      Kept (fun k => some k = (Value.slice ao bs.length cap).ownBlock) w w' := by
  have HO : Hid (w.ownsRow base 4 1 (.slice ao bs.length cap) bs.length (bs.map Value.bool)) := hown
  have H4 : Hid (namedB d window bs.length = true → bs.getD ((bs.length : Int) - d).toNat false = true) := h4
  clear hown h4
  go_enter Try.func6, Try.ntmps6
  go_wp2_with fail
  have hf : Fields (w.alloc (.cells #[.int .i64 size, .slice ao bs.length cap, .int .i64 (trues bs), .int .i64 purged] 29)) w.heap.size size (.slice ao bs.length cap) (trues bs) purged := heap_alloc_new w _
  refine (take_any w.heap.size base cap ao bs size purged d window _ hf (HO.out.alloc _) (by simp; omega) hn H4.out hs1 hs2).mono ?_
  rintro e w1 ⟨rfl, t, g, o, c, ht, hf1, hcell, hg, hk⟩
  obtain ⟨c0, c1, c2, c3, f1, f2, f3, hgr1⟩ := hf1.cells
  have HT : Hid (IsT (after bs (namedB d window bs.length) ((bs.length : Int) - d).toNat) (size - 1) t) := ht
  have HC : Hid (∀ i, i < bs.length + 1 - t → w1.cell? ⟨g, o + i, none⟩ = some (.bool ((after bs (namedB d window bs.length) ((bs.length : Int) - d).toNat).getD (t + i) false))) := hcell
  have HK : Hid (Kept (fun k => k = w.heap.size ∨ some k = (Value.slice ao bs.length cap).ownBlock) (w.alloc (.cells #[.int .i64 size, .slice ao bs.length cap, .int .i64 (trues bs), .int .i64 purged] 29)) w1) := hk
  clear ht hcell hk hf hf1
  go_wp2_with fail
  go_quiet (fail)
  go_wp2
  go_ret3
  refine ⟨t, g, o, c, rfl, HT.out, HC.out, ?_⟩
  have hk := HK.out
  have hsz := hk.size
  simp at hsz
  refine ⟨hk.os, hk.tape, hk.output, by show w.heap.size ≤ w1.heap.size; omega, fun k hk1 hk2 => ?_⟩
  show w1.heap[k]? = w.heap[k]?
  rw [hk.block k (by simp; omega) (by rintro (h | h); omega; exact hk2 h), Below.heap_alloc _ _ _ hk1]
end Go.Proofs.Qxb6619300a
