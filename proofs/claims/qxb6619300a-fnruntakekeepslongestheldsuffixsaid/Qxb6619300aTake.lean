/-
  (*run).take by its contract.
-/
import Derived.Test.Qxb6619300aTakeM
import Derived.Deep.DeepCutAuto
import Derived.Deep.RegionHeld3
namespace Go.Proofs.Qxb6619300a
open Go.RowKit

/-- The message that d names is in the span. -/
def namedB (d window : Int) (n : Nat) : Bool := decide (1 ≤ d ∧ d ≤ window ∧ d ≤ (n : Int))
theorem namedB_no {d window : Int} {n : Nat} (h : ¬ (1 ≤ d ∧ d ≤ window ∧ d ≤ (n : Int))) : namedB d window n = false := decide_eq_false h
theorem namedB_yes {d window : Int} {n : Nat} (h : 1 ≤ d ∧ d ≤ window ∧ d ≤ (n : Int)) : namedB d window n = true := decide_eq_true h

/-- The span with the named message false. -/
def struck (bs : List Bool) (named : Bool) (i : Nat) : List Bool := if named = true then bs.set i false else bs
theorem struck_length (bs : List Bool) (named : Bool) (i : Nat) : (struck bs named i).length = bs.length := by
  unfold struck; split <;> simp
theorem after_eq (bs : List Bool) (named : Bool) (i : Nat) : after bs named i = struck bs named i ++ [true] := rfl

/-- What is purged then. -/
def purgedAfter (named : Bool) (p : Int) : Int := if named = true then wrap64 (p + 1) else p

theorem own_apart {wr : World} {v : Value} {n : Nat} {xs : List Value} {base b : Nat} {e t size : Nat} {cs : Array Value} (h : wr.ownsRow base e size v n xs) (hb : wr.heap[b]? = some (.cells cs t (0, 0))) (ht : e ≠ t) : some b ≠ v.ownBlock := by
  rcases h.2 with ⟨rfl, _⟩ | ⟨g, cap, cur, rfl, _, hg, _⟩
  · simp [Value.ownBlock]
  · intro hc
    simp only [Value.ownBlock, Option.some.injEq] at hc
    subst hc
    rw [hg] at hb
    simp only [Option.some.injEq, Obj.cells.injEq] at hb
    exact ht hb.2.1

theorem own_set {wr : World} {v : Value} {n : Nat} {xs : List Value} {base b j : Nat} {e t size : Nat} {cs : Array Value} {u : Value} (h : wr.ownsRow base e size v n xs) (hb : wr.heap[b]? = some (.cells cs t (0, 0))) (ht : e ≠ t) : (wr.setCell ⟨b, j, none⟩ u).ownsRow base e size v n xs := by
  have ha := own_apart h hb ht
  refine h.kept (row := some b) ⟨rfl, rfl, rfl, by simp, fun k _ hk => Below.heap_setCell _ _ _ _ (fun e => hk (by simp [e]))⟩ ?_
  exact .inr (Ne.symm ha)

theorem Fields.set1 {w : World} {gr : Nat} {size held purged : Int} {v : Value} (h : Fields w gr size v held purged) (u : Value) : Fields (w.setCell ⟨gr, 1, none⟩ u) gr size u held purged := by
  have := heap_setCell_same w gr 1 _ _ u h
  simpa [Fields] using this
theorem Fields.set2 {w : World} {gr : Nat} {size held purged : Int} {v : Value} (h : Fields w gr size v held purged) (u : Int) : Fields (w.setCell ⟨gr, 2, none⟩ (.int .i64 u)) gr size v u purged := by
  have := heap_setCell_same w gr 2 _ _ (.int .i64 u) h
  simpa [Fields] using this
theorem Fields.set3 {w : World} {gr : Nat} {size held purged : Int} {v : Value} (h : Fields w gr size v held purged) (u : Int) : Fields (w.setCell ⟨gr, 3, none⟩ (.int .i64 u)) gr size v held u := by
  have := heap_setCell_same w gr 3 _ _ (.int .i64 u) h
  simpa [Fields] using this
theorem Fields.other {w : World} {gr : Nat} {size held purged : Int} {v : Value} (h : Fields w gr size v held purged) {a : Addr} (ha : gr ≠ a.block) (u : Value) : Fields (w.setCell a u) gr size v held purged := by
  unfold Fields
  rw [Below.heap_setCell _ _ _ _ ha]
  exact h

theorem Fields.grown {w w1 : World} {gr : Nat} {size held purged : Int} {v : Value} {o : Obj} {row : Option Nat} (h : Fields w gr size v held purged) (hg : (w.alloc o).grownBy w1 row) (hr : some gr ≠ row) : Fields w1 gr size v held purged := by
  unfold Fields
  have hl := (Array.getElem?_eq_some_iff.1 h).1
  rw [hg.block gr (by simp; omega) hr, Below.heap_alloc _ _ _ hl]
  exact h

/-- The loop's head: the first j elements are dropped. -/
structure Lp (S : Nat → Prop) (w wr : World) (gr g base cap0 : Nat) (A : List Bool) (size p : Int) (j o c : Nat) : Prop where
  fields : Fields wr gr size (.slice (some ⟨g, o, none⟩) (A.length - j) c) (trues (A.drop j)) p
  own : wr.ownsRow base 4 1 (.slice (some ⟨g, 0, none⟩) A.length cap0) A.length (A.map Value.bool)
  kept : Kept S w wr
  off : j < A.length → o = j
  room : A.length - j ≤ c
  le : j ≤ A.length
  more : ∀ i, i < j → size - 1 < (trues (A.drop i) : Int)

theorem own_bool {wr : World} {base g cap : Nat} {A : List Bool} (h : wr.ownsRow base 4 1 (.slice (some ⟨g, 0, none⟩) A.length cap) A.length (A.map Value.bool)) (j : Nat) (hj : j < A.length) : wr.cell? ⟨g, j, none⟩ = some (.bool (A.getD j false)) := by
  rw [h.cellAt j (by omega), List.getElem?_map, List.getD_eq_getElem?_getD, List.getElem?_eq_getElem hj]
  rfl

/-- What take leaves. -/
def TakeEnd (w w' : World) (gr : Nat) (ao : Option Addr) (cap : Nat) (bs : List Bool) (size purged d window : Int) : Prop :=
  ∃ t g o c, IsT (after bs (namedB d window bs.length) ((bs.length : Int) - d).toNat) (size - 1) t ∧
    Fields w' gr size (.slice (some ⟨g, o, none⟩) (bs.length + 1 - t) c) (trues ((after bs (namedB d window bs.length) ((bs.length : Int) - d).toNat).drop t)) (purgedAfter (namedB d window bs.length) purged) ∧
    (∀ i, i < bs.length + 1 - t → w'.cell? ⟨g, o + i, none⟩ = some (.bool ((after bs (namedB d window bs.length) ((bs.length : Int) - d).toNat).getD (t + i) false))) ∧ g < w'.heap.size ∧
    Kept (fun k => k = gr ∨ some k = (Value.slice ao bs.length cap).ownBlock) w w'

/-- One element dropped: the next head. -/
theorem Lp.next {S : Nat → Prop} {w wr : World} {gr g base cap0 : Nat} {A : List Bool} {size p : Int} {j o c : Nat} (h : Lp S w wr gr g base cap0 A size p j o c) (hS : S gr) (hgg : gr ≠ g) (hlt : size - 1 < (trues (A.drop j) : Int)) (hj : j < A.length) (w2 : World)
    {o' : Nat} (ho : j + 1 < A.length → o' = j + 1) (hf : Fields w2 gr size (.slice (some ⟨g, o', none⟩) (A.length - (j + 1)) (c - 1)) (trues (A.drop (j + 1))) p) (hk : Kept (fun k => k = gr) wr w2) : Lp S w w2 gr g base cap0 A size p (j + 1) o' (c - 1) := by
  have hr := h.room
  refine ⟨hf, ?_, ?_, ho, by omega, hj, fun i hi => ?_⟩
  · refine h.own.kept (row := some gr) ⟨hk.os, hk.tape, hk.output, hk.size, fun k hk1 hk2 => hk.block k hk1 (fun e => hk2 (by rw [e]))⟩ ?_
    right
    simpa [Value.ownBlock] using Ne.symm hgg
  · exact h.kept.trans ⟨hk.os, hk.tape, hk.output, hk.size, fun k hk1 hk2 => hk.block k hk1 (fun e => hk2 (by rw [e]; exact hS))⟩
  · by_cases e : i = j
    · subst e; exact hlt
    · exact h.more i (by omega)

set_option maxHeartbeats 800000 in
set_option maxRecDepth 100000 in
theorem take_any (gr base cap : Nat) (ao : Option Addr) (bs : List Bool) (size purged d window : Int) (w : World)
    (hf : Fields w gr size (.slice ao bs.length cap) (trues bs) purged) (hown : w.ownsRow base 4 1 (.slice ao bs.length cap) bs.length (bs.map Value.bool)) (hb : base ≤ w.heap.size)
    (hn : bs.length ≤ 65536) (h4 : namedB d window bs.length = true → bs.getD ((bs.length : Int) - d).toNat false = true) (hs1 : 1 ≤ size) (hs2 : size ≤ 9223372036854775807) :
    Calls Try.prog 7 #[.pointer (some ⟨gr, 0, none⟩), .int .i64 d, .int .i64 window] w fun e w' => e = .returned (.tuple #[]) ∧ TakeEnd w w' gr ao cap bs size purged d window := by
  obtain ⟨i0, hi0, hz0, hz1, hz2⟩ := info_parts Try.info4
  obtain ⟨c0, c1, c2, c3, f1, f2, f3, hgr⟩ := hf.cells
  have ht := trues_le bs
  have H4 : Hid (namedB d window bs.length = true → bs.getD ((bs.length : Int) - d).toNat false = true) := h4
  have HO : Hid (w.ownsRow base 4 1 (.slice ao bs.length cap) bs.length (bs.map Value.bool)) := hown
  have HF : Hid (Fields w gr size (.slice ao bs.length cap) (trues bs) purged) := hf
  clear h4 hown hf
  go_enter Try.func7, Try.ntmps7
  go_upto_region 0 with fail
  go_cut [21] (fun t wc => t = .bool (namedB d window bs.length) ∧ w = wc)
  case first =>
    by_cases h1 : 1 ≤ d
    · by_cases h2 : d ≤ window
      · by_cases h3 : d ≤ (bs.length : Int)
        · go_wp2_with fail
          go_meet
          exact ⟨by rw [namedB_yes ⟨h1, h2, h3⟩], rfl⟩
        · go_wp2_with fail
          go_meet
          exact ⟨by rw [namedB_no (by omega)], rfl⟩
      · go_wp2_with fail
        go_meet
        exact ⟨by rw [namedB_no (by omega)], rfl⟩
    · go_wp2_with fail
      go_meet
      exact ⟨by rw [namedB_no (by omega)], rfl⟩
  case rest =>
    obtain ⟨rfl, rfl⟩ := hcut
    obtain ⟨nm, hnm⟩ : ∃ b, namedB d window bs.length = b := ⟨_, rfl⟩
    have HN : Hid (namedB d window bs.length = nm) := hnm
    rw [hnm]
    clear hnm
    go_upto_if 21 with fail
    go_cut [] (fun wc => Hid (Fields wc gr size (.slice ao bs.length cap) (trues (struck bs nm ((bs.length : Int) - d).toNat)) (purgedAfter nm purged) ∧
      wc.ownsRow base 4 1 (.slice ao bs.length cap) bs.length ((struck bs nm ((bs.length : Int) - d).toNat).map Value.bool) ∧ Kept (fun k => k = gr ∨ some k = (Value.slice ao bs.length cap).ownBlock) w wc))
    case first =>
      cases nm with
      | false =>
        go_wp2_with fail
        go_meet
        exact ⟨HF.out, HO.out, Kept.refl _ _⟩
      | true =>
        obtain ⟨h1, h2, h3⟩ : 1 ≤ d ∧ d ≤ window ∧ d ≤ (bs.length : Int) := of_decide_eq_true HN.out
        obtain ⟨g, cap', hv, hg1, hg2⟩ := HO.out.form (by omega)
        obtain ⟨rfl, _, rfl⟩ : ao = some ⟨g, 0, none⟩ ∧ bs.length = bs.length ∧ cap = cap' := by simpa using hv
        obtain ⟨X, hX⟩ : ∃ X : Nat, (bs.length : Int) - d = (X : Int) := ⟨((bs.length : Int) - d).toNat, by omega⟩
        have hX' : X < bs.length := by omega
        have hx4 := H4.out HN.out
        rw [hX, Int.toNat_natCast] at hx4
        have cx : w.cell? ⟨g, X, none⟩ = some (.bool true) := by
          rw [HO.out.cellAt X (by omega), List.getElem?_map]
          rw [List.getD_eq_getElem?_getD, List.getElem?_eq_getElem hX'] at hx4
          rw [List.getElem?_eq_getElem hX']
          simpa using hx4
        have fx := HO.out.frozenAt X
        have hts : Hid (trues (bs.set X false) + 1 = trues bs) := trues_set bs X hx4
        have ht1 : 1 ≤ trues bs := by have := hts.out; omega
        have hgg : gr ≠ g := fun e => by
          have := own_apart HO.out HF.out (by decide)
          simp [Value.ownBlock, e] at this
        have hgg' : g ≠ gr := Ne.symm hgg
        have i1 : (0 : Int) ≤ (X : Int) := by omega
        have i2 : (X : Int) < (bs.length : Int) := by omega
        clear hv hx4
        go_wp2_with fail
        go_region
        all_goals
          go_wp2_with fail
          go_meet
          have e1 : (trues bs : Int) - 1 = (trues (bs.set X false) : Int) := by have := hts.out; omega
          have e2 : ((bs.length : Int) - d).toNat = X := by omega
          rw [e1, e2]
          have hf1 := HF.out.other (a := ⟨g, X, none⟩) hgg (.bool false)
          have ho1 : (w.setCell ⟨g, X, none⟩ (.bool false)).ownsRow base 4 1 (.slice (some ⟨g, 0, none⟩) bs.length cap) bs.length ((bs.set X false).map Value.bool) := by
            rw [List.map_set]
            exact (HO.out.stored X _).1
          refine ⟨(hf1.set2 _).set3 _, ?_, ?_⟩
          · exact own_set (own_set ho1 hf1 (by decide)) (hf1.set2 _) (by decide)
          · refine Kept.drewN ?_ 1
            exact Kept.setCell (p := ⟨gr, 3, none⟩) (Kept.setCell (p := ⟨gr, 2, none⟩) (Kept.setCell (p := ⟨g, X, none⟩) (Kept.refl (fun k => k = gr ∨ some k = (Value.slice (some ⟨g, 0, none⟩) bs.length cap).ownBlock) _) (Or.inr (Or.inr rfl)) _) (Or.inr (Or.inl rfl)) _) (Or.inr (Or.inl rfl)) _
    case rest =>
      have hw := hcut.out
      clear hcut
      obtain ⟨cs, hcs⟩ : ∃ cs, struck bs nm ((bs.length : Int) - d).toNat = cs := ⟨_, rfl⟩
      have HCS : Hid (struck bs nm ((bs.length : Int) - d).toNat = cs) := hcs
      obtain ⟨p, hp⟩ : ∃ p, purgedAfter nm purged = p := ⟨_, rfl⟩
      have HP : Hid (purgedAfter nm purged = p) := hp
      have hl : bs.length = cs.length := by rw [← hcs, struck_length]
      rw [hcs, hp] at hw
      obtain ⟨hf1, ho1, hk1⟩ := hw
      have HL : Hid (bs.length = cs.length) := hl
      clear hcs hp hl
      clear c0 c1 c2 c3 f1 f2 f3
      obtain ⟨c0, c1, c2, c3, f1, f2, f3, hgr1⟩ := hf1.cells
      have htc := trues_le cs
      rw [← HL.out] at htc
      have o3 : bs.length + 1 ≤ maxLen := by unfold maxLen; omega
      have o4 : (bs.length + 1) * 1 ≤ 140737488355328 := by omega
      have hks := hk1.size
      go_wp2_with (at_builtin; refine wpList_append_lies _ (by rfl) _ _ 22 (by rfl) base 4 i0 _ 1 1 Try.underlying22 hi0 hz0 hz1 hz2 rfl (by omega) _ bs.length _ (by rfl) (ho1.alloc _) ⟨wc.heap.size, 0, none⟩ 1 1 [.bool true] (by rfl) (by rfl) (World.news_of_block (cs := #[.bool true]) (t := 4) (fr := (0, 0)) (heap_alloc_new wc _)) (by simp [Value.oneCell']) (by omega) o3 o4 (by simp; omega) (wc.heap.size + 1) (by simp) ?_)
      intro g cap' w1 hown1 hgrow hat hlt
      have hf2 := hf1.grown hgrow (own_apart ho1 hf1 (by decide))
      have hgg : gr ≠ g := fun e => by
        have := own_apart hown1 hf2 (by decide)
        simp [Value.ownBlock, e] at this
      have hgg' : g ≠ gr := Ne.symm hgg
      have hk2 : Kept (fun k => k = gr ∨ some k = (Value.slice ao bs.length cap).ownBlock) w w1 := (hk1.alloc _).grown hgrow (fun k hk => Or.inr (Or.inr hk.symm))
      have hgS : w.heap.size ≤ g ∨ (g = gr ∨ some g = (Value.slice ao bs.length cap).ownBlock) := by
        rcases hat with h | h
        · exact Or.inr (Or.inr h.symm)
        · left; omega
      have HGS : Hid (w.heap.size ≤ g ∨ (g = gr ∨ some g = (Value.slice ao bs.length cap).ownBlock)) := hgS
      have HK2 : Hid (Kept (fun k => k = gr ∨ some k = (Value.slice ao bs.length cap).ownBlock) w w1) := hk2
      have HF2 : Hid (Fields w1 gr size (.slice ao bs.length cap) (trues cs) p) := hf2
      have HO2 : Hid (w1.ownsRow base 4 1 (.slice (some ⟨g, 0, none⟩) (bs.length + 1) cap') (bs.length + 1) ((cs ++ [true]).map Value.bool)) := by
        rw [List.map_append]; exact hown1
      clear c0 c1 c2 c3 f1 f2 f3 hgr1 hk1 hf1 ho1 hown1 hgrow hat hk2 hgS
      obtain ⟨c0, c1, c2, c3, f1, f2, f3, hgr1⟩ := hf2.cells
      clear hf2
      obtain ⟨A, hA⟩ : ∃ A, cs ++ [true] = A := ⟨_, rfl⟩
      have HA : Hid (cs ++ [true] = A) := hA
      have hAl : A.length = bs.length + 1 := by rw [← hA, HL.out]; simp
      have hAt : (trues A : Int) = trues cs + 1 := by rw [← hA, trues_append]; simp [trues]
      have HAL : Hid (A.length = bs.length + 1) := hAl
      have HL0 : Hid (Lp (fun k => k = gr ∨ some k = (Value.slice ao bs.length cap).ownBlock) w ((w1.setCell ⟨gr, 1, none⟩ (.slice (some ⟨g, 0, none⟩) (bs.length + 1) cap')).setCell ⟨gr, 2, none⟩ (.int .i64 ((trues cs : Int) + 1))) gr g base cap' A size p 0 0 cap') := by
        have h1 := (HF2.out.set1 (.slice (some ⟨g, 0, none⟩) (bs.length + 1) cap')).set2 ((trues cs : Int) + 1)
        have h2 := own_set (j := 2) (u := .int .i64 ((trues cs : Int) + 1)) (own_set (j := 1) (u := .slice (some ⟨g, 0, none⟩) (bs.length + 1) cap') HO2.out HF2.out (by decide)) (HF2.out.set1 (.slice (some ⟨g, 0, none⟩) (bs.length + 1) cap')) (by decide)
        rw [hA, ← hAl] at h2
        refine ⟨?_, ?_, ?_, fun _ => rfl, ?_, Nat.zero_le _, fun i hi => absurd hi (by omega)⟩
        · rw [List.drop_zero, hAt, hAl]
          exact h1
        · rw [← hAl]
          exact h2
        · exact Kept.setCell (p := ⟨gr, 2, none⟩) (Kept.setCell (p := ⟨gr, 1, none⟩) HK2.out (Or.inr (Or.inl rfl)) _) (Or.inr (Or.inl rfl)) _
        · rcases HO2.out.2 with ⟨h, _⟩ | ⟨_, _, _, h, _, _, hc, _⟩
          · simp at h
          · simp only [Value.slice.injEq] at h
            omega
      clear hA hAl hAt HO2 HF2 HK2
      go_wp2
      go_loopg [] (bs.length + 1) (fun gk wr => ∃ j o c, gk = bs.length + 1 - j ∧ Hid (Lp (fun k => k = gr ∨ some k = (Value.slice ao bs.length cap).ownBlock) w wr gr g base cap' A size p j o c))
      case atStart => exact ⟨0, 0, cap', by omega, HL0.out⟩
      case round =>
        clear HL0 c0 c1 c2 c3 f1 f2 f3 hgr1
        obtain ⟨j, o, c, hgk, hLp⟩ := hrel
        have HK : Hid (gk = bs.length + 1 - j) := hgk
        clear hgk
        obtain ⟨c0, c1, c2, c3, f1, f2, f3, hgr1⟩ := hLp.out.fields.cells
        obtain ⟨tr, hh⟩ : ∃ h, trues (A.drop j) = h := ⟨_, rfl⟩
        have HH : Hid (trues (A.drop j) = tr) := hh
        rw [hh] at c2
        have hhl : tr ≤ bs.length + 1 := by
          have := trues_le (A.drop j)
          rw [hh, List.length_drop, HAL.out] at this
          omega
        clear hh
        by_cases hlt : size - 1 < (tr : Int)
        · have hjA : j < A.length := by
            rcases Nat.lt_or_ge j A.length with h' | h'
            · exact h'
            · have := trues_past A j h'
              have := HH.out
              omega
          have hlp := hLp.out
          obtain rfl := hlp.off hjA
          have hrm := hlp.room
          have cj := own_bool hlp.own o hjA
          have hdr := trues_drop A o hjA
          rw [HH.out] at hdr
          have HJ : Hid (o < A.length) := hjA
          rw [HAL.out] at hjA hrm
          rw [HAL.out] at c1
          obtain ⟨l, hl⟩ : ∃ l, bs.length + 1 - o = l + 1 := ⟨bs.length - o, by omega⟩
          rw [hl] at c1 hrm
          have hl2 : l ≤ bs.length := by omega
          have HLl : Hid (bs.length + 1 - o = l + 1) := hl
          obtain ⟨b, hbb⟩ : ∃ b, A.getD o false = b := ⟨_, rfl⟩
          rw [hbb] at cj hdr
          have HDR : Hid (tr = (if b = true then 1 else 0) + trues (A.drop (o + 1))) := hdr
          clear hl hbb hdr hlp
          have hc1 : 1 ≤ c := by omega
          have hnxt : Hid (∀ (w2 : World) (o' : Nat), (o + 1 < A.length → o' = o + 1) → Fields w2 gr size (.slice (some ⟨g, o', none⟩) l (c - 1)) (trues (A.drop (o + 1))) p → Kept (fun k => k = gr) wr w2 →
              Lp (fun k => k = gr ∨ some k = (Value.slice ao bs.length cap).ownBlock) w w2 gr g base cap' A size p (o + 1) o' (c - 1)) := by
            intro w2 o' h1 h2 h3
            refine hLp.out.next (Or.inl rfl) hgg (by rw [HH.out]; exact hlt) HJ.out w2 h1 ?_ h3
            rw [HAL.out, show bs.length + 1 - (o + 1) = l by have := HLl.out; omega]
            exact h2
          have hfl : Hid (Fields wr gr size (.slice (some ⟨g, o, none⟩) (l + 1) c) tr p) := by
            have := hLp.out.fields
            rw [HH.out, HAL.out, HLl.out] at this
            exact this
          have hms : bs.length + 1 - (o + 1) < gk := by have := HK.out; omega
          by_cases hcc : c = 1
          · subst hcc
            obtain rfl : l = 0 := by omega
            have hoff : o + 1 < A.length → o = o + 1 := fun h' => by have := HLl.out; rw [HAL.out] at h'; omega
            cases b with
            | true =>
              go_wp2_with fail
              go_quiet (fail)
              go_wp2
              go_roundg (bs.length + 1 - (o + 1))
              case measure => exact hms
              case rel =>
                refine ⟨o + 1, o, 0, rfl, hnxt.out _ o hoff ?_ ?_⟩
                · have e : (tr : Int) - 1 = trues (A.drop (o + 1)) := by have := HDR.out; simp at this; omega
                  rw [e]
                  exact (Fields.set2 (w := wr.drewN nq) hfl.out _).set1 _
                · exact Kept.setCell (p := ⟨gr, 1, none⟩) (Kept.setCell (p := ⟨gr, 2, none⟩) ((Kept.refl (fun k => k = gr) _).drewN nq) (Or.inr rfl) _) (Or.inr rfl) _
            | false =>
              go_wp2_with fail
              go_quiet (fail)
              go_wp2
              go_roundg (bs.length + 1 - (o + 1))
              case measure => exact hms
              case rel =>
                refine ⟨o + 1, o, 0, rfl, hnxt.out _ o hoff ?_ ?_⟩
                · have e : tr = trues (A.drop (o + 1)) := by have := HDR.out; simp at this; omega
                  rw [← e]
                  exact Fields.set1 (w := wr.drewN nq) hfl.out _
                · exact Kept.setCell (p := ⟨gr, 1, none⟩) ((Kept.refl (fun k => k = gr) _).drewN nq) (Or.inr rfl) _
          · have hcc' : 2 ≤ c := by omega
            cases b with
            | true =>
              go_wp2_with fail
              go_quiet (fail)
              go_wp2
              go_roundg (bs.length + 1 - (o + 1))
              case measure => exact hms
              case rel =>
                refine ⟨o + 1, o + 1, c - 1, rfl, hnxt.out _ (o + 1) (fun _ => rfl) ?_ ?_⟩
                · have e : (tr : Int) - 1 = trues (A.drop (o + 1)) := by have := HDR.out; simp at this; omega
                  rw [e]
                  exact (Fields.set2 (w := wr.drewN nq) hfl.out _).set1 _
                · exact Kept.setCell (p := ⟨gr, 1, none⟩) (Kept.setCell (p := ⟨gr, 2, none⟩) ((Kept.refl (fun k => k = gr) _).drewN nq) (Or.inr rfl) _) (Or.inr rfl) _
            | false =>
              go_wp2_with fail
              go_quiet (fail)
              go_wp2
              go_roundg (bs.length + 1 - (o + 1))
              case measure => exact hms
              case rel =>
                refine ⟨o + 1, o + 1, c - 1, rfl, hnxt.out _ (o + 1) (fun _ => rfl) ?_ ?_⟩
                · have e : tr = trues (A.drop (o + 1)) := by have := HDR.out; simp at this; omega
                  rw [← e]
                  exact Fields.set1 (w := wr.drewN nq) hfl.out _
                · exact Kept.setCell (p := ⟨gr, 1, none⟩) ((Kept.refl (fun k => k = gr) _).drewN nq) (Or.inr rfl) _
        · have hlp := hLp.out
          have HE : Hid (after bs (namedB d window bs.length) ((bs.length : Int) - d).toNat = A) := by
            show after _ _ _ = A
            rw [after_eq, HN.out, HCS.out, HA.out]
          have hfl : Hid (Fields wr gr size (.slice (some ⟨g, o, none⟩) (bs.length + 1 - j) c) (trues (A.drop j)) p) := by
            have := hlp.fields
            rw [HAL.out] at this
            exact this
          clear hlp
          go_wp2_with fail
          go_quiet (fail)
          go_wp2
          go_end0
          refine ⟨rfl, j, g, o, c, ?_, ?_, ?_, ?_, ?_⟩
          · rw [HE.out]
            exact ⟨hLp.out.le, by rw [HH.out]; omega, hLp.out.more⟩
          · rw [HE.out, HN.out, HP.out]
            exact hfl.out
          · intro i hi
            rw [HE.out]
            have hj : j + i < A.length := by rw [HAL.out]; omega
            rw [hLp.out.off (by omega)]
            exact own_bool hLp.out.own (j + i) hj
          · exact (hLp.out.own.lt g rfl).2
          · exact hLp.out.kept.drewN _
end Go.Proofs.Qxb6619300a
