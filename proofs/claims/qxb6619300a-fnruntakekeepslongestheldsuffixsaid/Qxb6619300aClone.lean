/-
  The callees that read: zzBytes; b1CloneBools by its contract.
-/
import Derived.Test.Qxb6619300aRows
import Derived.Test.Qxb6619300aPlain
import Derived.WalkKit
import Derived.WalkSpells
import Derived.WalkLawsBesides
import Derived.Deep.Draws
namespace Go.Proofs.Qxb6619300a
open Go.RowKit

theorem Try.info4 : (Try.prog.info? 4).map (fun i => (i.zero, i.size, i.bytes)) = some (some (.bool false), 1, 1) := by kernel_rfl

set_option maxHeartbeats 400000 in
theorem zzBytes_yes (size held purged d window : Int) (ao : Option Addr) (n cap : Nat) (w : World) (hn : n ≤ 1048576) :
    Calls Try.prog 4 #[.int .i64 size, .slice ao n cap, .int .i64 held, .int .i64 purged, .int .i64 d, .int .i64 window] w fun e w' => e = .returned (.bool true) ∧ w = w' := by
  go_enter Try.func4, Try.ntmps4
  go_wp2
  go_ret
  exact ⟨rfl, rfl⟩

set_option maxHeartbeats 400000 in
theorem zzBytes_no (size held purged d window : Int) (ao : Option Addr) (n cap : Nat) (w : World) (hn : ¬ n ≤ 1048576) (hm : n ≤ maxLen) :
    Calls Try.prog 4 #[.int .i64 size, .slice ao n cap, .int .i64 held, .int .i64 purged, .int .i64 d, .int .i64 window] w fun e w' => e = .returned (.bool false) ∧ w = w' := by
  unfold maxLen at hm
  have hn' : 1048576 < n := by omega
  go_enter Try.func4, Try.ntmps4
  go_wp2
  go_ret
  exact ⟨rfl, rfl⟩

/-- A slice of bools that is read: its cells. -/
def Reads (w : World) (ao : Option Addr) (bs : List Bool) : Prop :=
  ∀ i, i < bs.length → ∃ b off, ao = some ⟨b, off, none⟩ ∧ b < w.heap.size ∧ w.cell? ⟨b, off + i, none⟩ = some (.bool (bs.getD i false))

/-- Copied so far: the first k, then falses. -/
def partCopy (bs : List Bool) (k : Nat) : List Bool := bs.take k ++ List.replicate (bs.length - k) false

theorem partCopy_set (bs : List Bool) (k : Nat) (h : k < bs.length) : (partCopy bs k).set k (bs.getD k false) = partCopy bs (k + 1) := by
  apply List.ext_getElem?
  intro i
  unfold partCopy
  have hg : bs[k]? = some bs[k] := List.getElem?_eq_getElem h
  rw [List.getElem?_set, List.getD_eq_getElem?_getD, hg]
  simp only [List.length_append, List.length_take, List.length_replicate, List.getElem?_append, List.getElem?_take, List.getElem?_replicate, Option.getD_some]
  by_cases h1 : k = i
  · subst h1
    rw [if_pos rfl, if_pos (by omega), if_pos (by omega), if_pos (by omega), hg]
  · by_cases h2 : i < k
    · simp [h1, h2, show i < min k bs.length by omega, show i < min (k + 1) bs.length by omega, show i < k + 1 by omega]
    · simp [h1, show ¬ i < min k bs.length by omega, show ¬ i < min (k + 1) bs.length by omega]
      by_cases h3 : i < bs.length
      · simp [show i - min k bs.length < bs.length - k by omega, show i - min (k + 1) bs.length < bs.length - (k + 1) by omega]
      · simp [show ¬ i - min k bs.length < bs.length - k by omega, show ¬ i - min (k + 1) bs.length < bs.length - (k + 1) by omega]

theorem partCopy_length (bs : List Bool) (k : Nat) (h : k ≤ bs.length) : (partCopy bs k).length = bs.length := by
  unfold partCopy; simp; omega
theorem partCopy_zero (bs : List Bool) : partCopy bs 0 = List.replicate bs.length false := by simp [partCopy]
theorem partCopy_all (bs : List Bool) : partCopy bs bs.length = bs := by simp [partCopy]

set_option maxHeartbeats 800000 in
set_option maxRecDepth 100000 in
theorem clone_any (ao : Option Addr) (cap : Nat) (bs : List Bool) (w : World) (hnil : ao = none → bs.length = 0 ∧ cap = 0) (hr : Reads w ao bs) (hn : bs.length ≤ 65536) :
    Calls Try.prog 5 #[.slice ao bs.length cap] w fun e w' => ∃ ao' cap', e = .returned (.slice ao' bs.length cap') ∧ w'.ownsRow w.heap.size 4 1 (.slice ao' bs.length cap') bs.length (bs.map Value.bool) ∧ Below w.heap.size w w' := by
  obtain ⟨i0, hi0, hz0, hz1, hz2⟩ := info_parts Try.info4
  have q22 : ∀ (w : World) (a : Option Addr) (n c n' c' : Nat), (binOp .eql 22 (.slice a n c) (.slice none n' c')).run Try.prog w = .ok (.bool a.isNone) w := fun w a n c n' c' => Lib.run_eql_slice_nil w _ _ a n c n' c' Try.underlying22
  cases ao with
  | none =>
    obtain ⟨h0, rfl⟩ := hnil rfl
    obtain rfl : bs = [] := List.eq_nil_of_length_eq_zero h0
    clear hnil hr h0
    simp only [List.length_nil]
    go_enter Try.func5, Try.ntmps5
    go_wp2
    go_ret
    exact ⟨none, 0, rfl, World.ownsRow_nil _ _ _ _, Below.refl _ _⟩
  | some a =>
    clear hnil
    have HR : Hid (Reads w (some a) bs) := hr
    clear hr
    go_enter Try.func5, Try.ntmps5
    go_wp2_with (at_make; refine wpList_make_full _ rfl _ _ 22 rfl w.heap.size 4 i0 _ 1 Try.underlying22 hi0 hz0 hz1 _ _ _ _ bs.length rfl rfl rfl rfl ?b1 ?b2 ?b3 ?_)
    case b1 => rw [hz2]; omega
    case b2 => unfold maxLen; omega
    case b3 => omega
    intro w1 hown1 hgrow1
    have hT : Hid (w1.ownsRow w.heap.size 4 1 (.slice (some ⟨w.heap.size, 0, none⟩) bs.length bs.length) bs.length ((partCopy bs 0).map Value.bool) ∧ Below w.heap.size w w1) := by
      refine ⟨?_, (Below.refl _ _).grown hgrow1 (Nat.le_refl _) (fun _ h => by cases h)⟩
      rw [partCopy_zero, List.map_replicate]
      rw [toList_madeCells_one] at hown1
      exact hown1
    clear hown1 hgrow1
    go_wp2
    go_loopw [4] (fun i wr => ∃ k : Nat, k ≤ bs.length ∧ i = .int .i64 k ∧ Hid (wr.ownsRow w.heap.size 4 1 (.slice (some ⟨w.heap.size, 0, none⟩) bs.length bs.length) bs.length ((partCopy bs k).map Value.bool) ∧ Below w.heap.size w wr)) (fun i _ => bs.length - (intOf i).toNat)
    case atStart => exact ⟨0, Nat.zero_le _, rfl, hT⟩
    case round =>
      clear hT
      obtain ⟨k, hk, rfl, hT⟩ := hrel
      by_cases hlt : k < bs.length
      · obtain ⟨b, off, ha, hbl, hc⟩ := HR.out k hlt
        obtain rfl := Option.some.inj ha
        have c1 : wr.cell? ⟨b, off + k, none⟩ = some (.bool (bs.getD k false)) := (hT.out.2.cell hbl).trans hc
        obtain ⟨x, hx⟩ : ∃ x, bs.getD k false = x := ⟨_, rfl⟩
        rw [hx] at c1
        have HX : Hid (bs.getD k false = x) := hx
        clear hx hc ha
        have c2 : ∃ y, wr.cell? ⟨w.heap.size, k, none⟩ = some (.bool y) := by
          rw [hT.out.1.cellAt k (by omega), List.getElem?_map, List.getElem?_eq_getElem (by rw [partCopy_length _ _ hk]; exact hlt)]
          exact ⟨_, rfl⟩
        obtain ⟨y, c2⟩ := c2
        have c3 := hT.out.1.frozenAt k
        have i1 : (0 : Int) ≤ (k : Int) := by omega
        have i2 : (k : Int) < (bs.length : Int) := by omega
        go_wp2
        go_roundw
        case rel =>
          refine ⟨k + 1, by omega, by go_num, ?_, hT.out.2.setCell (Nat.le_refl _) _⟩
          rw [← partCopy_set bs k hlt, HX.out, List.map_set]
          exact (hT.out.1.stored k _).1
        case measure => simp [intOf]; omega
      · go_wp2
        go_ret
        refine ⟨_, _, rfl, ?_, hT.out.2⟩
        have e : k = bs.length := by omega
        subst e
        have := hT.out.1
        rw [partCopy_all] at this
        exact this
end Go.Proofs.Qxb6619300a
