/- spec.SortedItems and spec.full at items: a range of a copy sorted by keys, those of one key in order; and by keys and marks. -/
import Derived.Test.YtcamaikogengoaaItRefS
import Derived.Test.YtcamaikogengoaaItRefF
import Derived.Test.YtcamaikogengoaaItFn
namespace Go.Proofs.Ytcamaikogengoaa
set_option linter.unusedVariables false
set_option linter.unusedSimpArgs false
set_option linter.unusedSectionVars false
open Go.Shelf Go.RowKit Go.Sort Go.Lib

theorem agg50 : ∀ w, (isAgg 50).run Try.prog w = .ok true w := fun _ => by kernel_rfl
theorem one_enc : ∀ x : It, ∀ v ∈ encIt x, v.oneCell' = true := fun x v hv => by
  simp only [encIt, List.mem_cons, List.not_mem_nil, or_false] at hv
  rcases hv with rfl | rfl <;> rfl

theorem clonesT {v : Value} {d : Array It} {w : World} (h : SlAt HT 0 w v d) (hn : d.size ≤ 2147483647) (h0 : 0 < d.size) : ClonesK Try.prog encIt 2 v d w :=
  (CloneItems_at v d w h hn).mono fun e w' ⟨v', he, hs, hb⟩ => by
    obtain ⟨A, cap, rfl, hcp, hh⟩ := hs
    obtain ⟨blk, off, rfl, g1, g2, hH⟩ := hh h0
    exact ⟨blk, off, cap, he, hH, g2, g1, hb, hcp⟩

theorem sortedTo_at {w : World} {d d' : Array It} {e : Ending} {w' : World} (hs : d'.size = d.size) (h : SortedTo encIt 2 w d d' e w') : ∃ v', e = .returned v' ∧ SlAt HT w.heap.size w' v' d' ∧ RowKit.Below w.heap.size w w' := by
  obtain ⟨blk, off, cap, w1, he, hr, S⟩ := h
  have p := placedT (cap := cap) hr.hH hr.hge hr.hlt hr.hb.size hs hr.hcp rfl S
  exact ⟨_, he, p.1, hr.hb.trans p.2⟩

theorem sortedItems_nil (v : Value) (d : Array It) (w : World) (h : SlAt HT 0 w v d) (h0 : d.size = 0) :
    Calls Try.prog 60 #[v, .int .i64 0, .int .i64 0] w fun e w' => ∃ v', e = .returned v' ∧ SlAt HT w.heap.size w' v' d ∧ RowKit.Below w.heap.size w w' := by
  have H0 := Lib.hid h0
  clear h0
  go_enter Try.func60, Try.ntmps60
  go_wp2_with (first | (go_at_call 89; refine (CloneItems_at v d _ h (by rw [H0.out]; omega)).mono ?_; rintro e w1 ⟨v1, rfl, hs1, hb1⟩))
  refine wp_loop_rounds 1 ?_
  rw [rounds_succ]
  go_wp2
  go_ret
  exact ⟨_, rfl, hs1, hb1⟩

theorem insertion_none {α : Type} [Inhabited α] (lt : α → α → Bool) (d : Array α) : insertionSort lt d 0 0 = d := by rw [← ins_from_a, insOuter_stop _ _ _ _ _ (by omega)]

theorem SortedItems_at (v : Value) (d : Array It) (a b : Nat) (w : World) (h : SlAt HT 0 w v d) (hab : a ≤ b) (hb : b ≤ d.size) (hn : d.size ≤ 2147483647) :
    Calls Try.prog 60 #[v, .int .i64 a, .int .i64 b] w fun e w' => ∃ v', e = .returned v' ∧ SlAt HT w.heap.size w' v' (insertionSort ltT d a b) ∧ RowKit.Below w.heap.size w w' := by
  by_cases h0 : 0 < d.size
  · have hz := (insertionSort_holds swo_ltT d a b hab hb).1.1
    exact (sortedItems_k ref 2 agg50 size50 encIt len_encIt one_enc Prod.fst (by omega) (fun _ => rfl) ltT (fun x y => by rw [ltT_eq]; rfl) v d a b w (clonesT h hn h0) hab hb (by omega)).mono fun e w' hs => sortedTo_at hz hs
  · have e1 : a = 0 := by omega
    have e2 : b = 0 := by omega
    subst e1; subst e2
    rw [insertion_none]
    exact sortedItems_nil v d w h (by omega)

/-! ### By keys and marks -/
def ltF (x y : It) : Bool := decide (x.1 < y.1 ∨ x.1 = y.1 ∧ x.2 < y.2)
theorem swo_ltF : SWO ltF where
  irrefl x := by unfold ltF; exact decide_eq_false (by omega)
  trans x y z h1 h2 := by
    simp only [ltF, decide_eq_true_eq] at *
    omega
  ntrans x y z h1 h2 := by
    simp only [ltF, decide_eq_false_iff_not] at *
    omega
theorem anti_ltF : ∀ x y : It, ltF x y = false → ltF y x = false → x = y := by
  intro x y h1 h2
  simp only [ltF, decide_eq_false_iff_not] at h1 h2
  exact Prod.ext (by omega) (by omega)

set_option maxHeartbeats 400000 in
theorem less_at (x1 x2 y1 y2 : Int) (w : World) : Calls Try.prog 113 #[.agg #[.int .i64 x1, .int .i64 x2], .agg #[.int .i64 y1, .int .i64 y2]] w fun e w' =>
    e = .returned (.bool (ltF (x1, x2) (y1, y2))) ∧ ∃ q os', w' = grow (w.drewN q) os' := by
  have fin : ∃ q os', (w.alloc (.cells #[.int .i64 x1, .int .i64 x2] 50)).alloc (.cells #[.int .i64 y1, .int .i64 y2] 50) = grow (w.drewN q) os' :=
    ⟨0, #[.cells #[.int .i64 x1, .int .i64 x2] 50, .cells #[.int .i64 y1, .int .i64 y2] 50], by rw [alloc_eq_grow, alloc_eq_grow, grow_grow]; rfl⟩
  have FIN := Lib.hid fin
  clear fin
  by_cases h1 : x1 < y1
  · have e : ltF (x1, x2) (y1, y2) = true := decide_eq_true (.inl h1)
    have d1 : decide (x1 < y1) = true := decide_eq_true h1
    rw [e]
    clear e
    go_enter Try.func113, Try.ntmps113
    go_wp2
    go_ret
    exact ⟨rfl, FIN.out⟩
  · have d1 : decide (x1 < y1) = false := decide_eq_false h1
    by_cases h2 : x1 = y1
    · have d2 : (x1 == y1) = true := by simp [h2]
      by_cases h3 : x2 < y2
      · have e : ltF (x1, x2) (y1, y2) = true := decide_eq_true (.inr ⟨h2, h3⟩)
        have d3 : decide (x2 < y2) = true := decide_eq_true h3
        rw [e]
        clear e h2
        go_enter Try.func113, Try.ntmps113
        go_wp2
        go_ret
        exact ⟨rfl, FIN.out⟩
      · have e : ltF (x1, x2) (y1, y2) = false := decide_eq_false fun h => by simp only at h; omega
        have d3 : decide (x2 < y2) = false := decide_eq_false h3
        rw [e]
        clear e h2
        go_enter Try.func113, Try.ntmps113
        go_wp2
        go_ret
        exact ⟨rfl, FIN.out⟩
    · have e : ltF (x1, x2) (y1, y2) = false := decide_eq_false fun h => by simp only at h; omega
      have d2 : (x1 == y1) = false := by simp [h2]
      rw [e]
      clear e
      go_enter Try.func113, Try.ntmps113
      go_wp2
      go_ret
      exact ⟨rfl, FIN.out⟩

theorem full_nil (v : Value) (d : Array It) (w : World) (h : SlAt HT 0 w v d) (h0 : d.size = 0) :
    Calls Try.prog 84 #[v, .int .i64 0, .int .i64 0] w fun e w' => ∃ v', e = .returned v' ∧ SlAt HT w.heap.size w' v' d ∧ RowKit.Below w.heap.size w w' := by
  have H0 := Lib.hid h0
  clear h0
  go_enter Try.func84, Try.ntmps84
  go_wp2_with (first | (go_at_call 89; refine (CloneItems_at v d _ h (by rw [H0.out]; omega)).mono ?_; rintro e w1 ⟨v1, rfl, hs1, hb1⟩))
  refine wp_loop_rounds 1 ?_
  rw [rounds_succ]
  go_wp2
  go_ret
  exact ⟨_, rfl, hs1, hb1⟩

theorem Full_at (v : Value) (d : Array It) (a b : Nat) (w : World) (h : SlAt HT 0 w v d) (hab : a ≤ b) (hb : b ≤ d.size) (hn : d.size ≤ 2147483647) :
    Calls Try.prog 84 #[v, .int .i64 a, .int .i64 b] w fun e w' => ∃ v', e = .returned v' ∧ SlAt HT w.heap.size w' v' (insertionSort ltF d a b) ∧ RowKit.Below w.heap.size w w' := by
  by_cases h0 : 0 < d.size
  · have hz := (insertionSort_holds swo_ltF d a b hab hb).1.1
    exact (full_k ref 2 agg50 size50 encIt len_encIt one_enc ltF (fun x y W => less_at x.1 x.2 y.1 y.2 W) v d a b w (clonesT h hn h0) hab hb (by omega)).mono fun e w' hs => sortedTo_at hz hs
  · have e1 : a = 0 := by omega
    have e2 : b = 0 := by omega
    subst e1; subst e2
    rw [insertion_none]
    exact full_nil v d w h (by omega)
end Go.Proofs.Ytcamaikogengoaa
