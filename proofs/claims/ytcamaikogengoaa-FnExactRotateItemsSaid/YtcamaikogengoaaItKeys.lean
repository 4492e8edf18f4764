/- The references spec.SortedKeys and spec.AheadItems. -/
import Derived.Test.YtcamaikogengoaaItIn
import Derived.Test.YtcamaikogengoaaIntIsSorted
import Derived.Test.YtcamaikogengoaaIntAhead
import Derived.Test.YtcamaikogengoaaPlainMerge
namespace Go.Proofs.Ytcamaikogengoaa
set_option linter.unusedVariables false
set_option linter.unusedSimpArgs false
set_option linter.unusedSectionVars false
open Go.RowKit Go.Sort

theorem adj_asc {D : Array It} : Adj (keysOf D) ↔ Asc Prod.fst 0 D.size D := by
  have key : ∀ t, t < D.size → (keysOf D)[t]! = D[t]!.1 := fun t h => keysOf_at h
  constructor
  · intro h
    have step : ∀ n i, i + n < D.size → D[i]!.1 ≤ D[i + n]!.1 := by
      intro n
      induction n with
      | zero => intro i _; exact Int.le_refl _
      | succ n ih =>
        intro i hi
        have a := ih i (by omega)
        have b := h (i + (n + 1)) (by omega) (by rw [keysOf_size]; exact hi)
        rw [key _ hi, show i + (n + 1) - 1 = i + n from by omega, key _ (by omega)] at b
        simp only [ltInt, decide_eq_false_iff_not] at b
        omega
    intro i j _ hij hj
    have := step (j - i) i (by omega)
    rw [show i + (j - i) = j from by omega] at this
    exact this
  · intro h t h0 ht
    rw [keysOf_size] at ht
    rw [key t ht, key (t - 1) (by omega)]
    have := h (t - 1) t (by omega) (by omega) ht
    simp only [ltInt, decide_eq_false_iff_not]
    omega

set_option maxHeartbeats 400000 in
theorem SortedKeys_yes (v : Value) (D : Array It) (w : World) (h : SlAt HT 0 w v D) (hn : D.size ≤ 2147483647) (ha : Asc Prod.fst 0 D.size D) :
    Calls Try.prog 49 #[v] w fun e w' => e = .returned (.bool true) ∧ RowKit.Below w.heap.size w w' := by
  have hA := adj_asc.2 ha
  have HA := Lib.hid hA
  have hz : (keysOf D).size ≤ 2147483647 := by rw [keysOf_size]; exact hn
  have HZ := Lib.hid hz
  clear ha hA hz
  go_enter Try.func49, Try.ntmps49
  go_wp2_with (first
    | (go_at_call 54; refine (Keys_at v D _ h hn).mono ?_; rintro e w1 ⟨v1, rfl, hs1, hb1⟩)
    | (go_at_call 66; refine (IsSorted_yes v1 _ _ hs1.any HZ.out HA.out).mono ?_; rintro e w2 ⟨rfl, hb2⟩))
  go_ret
  exact ⟨rfl, hb1.trans (hb2.mono hb1.size)⟩

set_option maxHeartbeats 400000 in
theorem SortedKeys_no (v : Value) (D : Array It) (w : World) (h : SlAt HT 0 w v D) (hn : D.size ≤ 2147483647) (ha : ¬ Asc Prod.fst 0 D.size D) :
    Calls Try.prog 49 #[v] w fun e w' => e = .returned (.bool false) ∧ RowKit.Below w.heap.size w w' := by
  have hA : ¬ Adj (keysOf D) := fun h => ha (adj_asc.1 h)
  have HA := Lib.hid hA
  have hz : (keysOf D).size ≤ 2147483647 := by rw [keysOf_size]; exact hn
  have HZ := Lib.hid hz
  clear ha hA hz
  go_enter Try.func49, Try.ntmps49
  go_wp2_with (first
    | (go_at_call 54; refine (Keys_at v D _ h hn).mono ?_; rintro e w1 ⟨v1, rfl, hs1, hb1⟩)
    | (go_at_call 66; refine (IsSorted_no v1 _ _ hs1.any HZ.out HA.out).mono ?_; rintro e w2 ⟨rfl, hb2⟩))
  go_ret
  exact ⟨rfl, hb1.trans (hb2.mono hb1.size)⟩

set_option maxHeartbeats 400000 in
theorem AheadItems_at (v : Value) (D : Array It) (a b : Nat) (w : World) (h : SlAt HT 0 w v D) (hab : a ≤ b) (hb : b ≤ D.size) (hn : D.size ≤ 2147483647) :
    Calls Try.prog 46 #[v, .int .i64 a, .int .i64 b] w fun e w' => e = .returned (.bool (aheadB (keysOf D) a b)) ∧ RowKit.Below w.heap.size w w' := by
  have hz : (keysOf D).size ≤ 2147483647 := by rw [keysOf_size]; exact hn
  have HZ := Lib.hid hz
  have hbz : b ≤ (keysOf D).size := by rw [keysOf_size]; exact hb
  have HB := Lib.hid hbz
  clear hz hbz
  go_enter Try.func46, Try.ntmps46
  go_wp2_with (first
    | (go_at_call 54; refine (Keys_at v D _ h hn).mono ?_; rintro e w1 ⟨v1, rfl, hs1, hb1⟩)
    | (go_at_call 34; refine (Ahead_at v1 _ a b _ hs1.any hab HB.out HZ.out).mono ?_; rintro e w2 ⟨rfl, rfl⟩))
  go_ret
  exact ⟨rfl, hb1⟩
end Go.Proofs.Ytcamaikogengoaa
