/- Sorting items by heap, by quicksort, by insertion: the same items, sorted by keys; whether a part's keys do not fall. -/
import Derived.Test.YtcamaikogengoaaItHeap
import Derived.Test.YtcamaikogengoaaItPdq
import Derived.Test.YtcamaikogengoaaItIns
import Derived.Test.YtcamaikogengoaaItKeys
namespace Go.Proofs.Ytcamaikogengoaa
set_option linter.unusedVariables false
set_option linter.unusedSimpArgs false
set_option linter.unusedSectionVars false
open Go.RowKit Go.Sort Go.Lib

/-- The same items in the range, sorted by their keys, in new memory. -/
def SomeT (w : World) (D : Array It) (a b : Nat) (e : Ending) (w' : World) : Prop :=
  ∃ R A c, e = .returned (.slice A D.size c) ∧ Hid (PermIn a b D R ∧ Asc Prod.fst a b R) ∧ Hid (D.size ≤ c ∧ c ≤ maxLen) ∧ Hid (SlAt HT w.heap.size w' (.slice A D.size c) R) ∧ RowKit.Below w.heap.size w w'

theorem someT_of {w : World} {D R : Array It} {a b : Nat} {e : Ending} {w' : World} (hp : PermIn a b D R) (hs : SortedIn ltT a b R) (h : ∃ v', e = .returned v' ∧ SlAt HT w.heap.size w' v' R ∧ RowKit.Below w.heap.size w w') : SomeT w D a b e w' := by
  obtain ⟨v', he, hsl, hb⟩ := h
  have hz : R.size = D.size := hp.1
  obtain ⟨A, c, rfl, hcp, hh⟩ := hsl
  have h2 : SlAt HT w.heap.size w' (.slice A D.size c) R := ⟨A, c, by rw [hz], hcp, hh⟩
  rw [hz] at he hcp
  exact ⟨R, A, c, he, ⟨hp, by rw [ltT_eq] at hs; exact asc_sorted.2 hs⟩, hcp, h2, hb⟩

theorem heapT_some (v : Value) (D : Array It) (a b : Nat) (w : World) (h : SlAt HT 0 w v D) (hab : a ≤ b) (hb : b ≤ D.size) (hn : D.size ≤ 2147483647) :
    Calls Try.prog 55 #[v, .int .i64 a, .int .i64 b] w (SomeT w D a b) :=
  (heapT_impl v D a b w h hab hb hn).mono fun _ _ hq => someT_of (heapSort_holds swo_ltT D a b hab hb).1 (heapSort_holds swo_ltT D a b hab hb).2 hq
theorem insT_some (v : Value) (D : Array It) (a b : Nat) (w : World) (h : SlAt HT 0 w v D) (hab : a ≤ b) (hb : b ≤ D.size) (hn : D.size ≤ 2147483647) :
    Calls Try.prog 56 #[v, .int .i64 a, .int .i64 b] w (SomeT w D a b) :=
  (insT_impl v D a b w h hab hb hn).mono fun _ _ hq => someT_of (insertionSort_holds swo_ltT D a b hab hb).1 (insertionSort_holds swo_ltT D a b hab hb).2 hq

theorem ahead_belowT {D : Array It} {a b : Nat} (hb : b ≤ D.size) (hab : a ≤ b) (h : AheadP (keysOf D) a b) : Sort.Below ltT a b D := by
  rcases Nat.eq_zero_or_pos a with h0 | h0
  · exact .inl h0
  · refine .inr fun i h1 h2 => ?_
    have := h (a - 1) i (by omega) h1 h2
    rw [keysOf_at (by omega), keysOf_at (by omega)] at this
    rw [ltT_eq]
    unfold ltKey
    exact decide_eq_false (by omega)
theorem pdqT_some (v : Value) (D : Array It) (a b limit : Nat) (w : World) (h : SlAt HT 0 w v D) (hab : a ≤ b) (hb : b ≤ D.size) (hl : limit < 4611686018427387904) (hA : AheadP (keysOf D) a b) (hn : D.size ≤ 2147483647) :
    Calls Try.prog 47 #[v, .int .i64 a, .int .i64 b, .int .i64 limit] w (SomeT w D a b) :=
  have hB := ahead_belowT hb hab hA
  have hp := pdq_sorts _ swo_ltT D a b limit true true hab hb hB
  (pdqT_impl v D a b limit w h hab hb hl hB hn).mono fun _ _ hq => someT_of hp.1 hp.2 hq

theorem asc_extract {R : Array It} {a b : Nat} (hb : b ≤ R.size) : Asc Prod.fst 0 (R.extract a b).size (R.extract a b) ↔ Asc Prod.fst a b R := by
  rw [part_sizeT R hb]
  constructor
  · intro h i j h1 h2 h3
    have := h (i - a) (j - a) (by omega) (by omega) (by omega)
    rw [part_at R hb (by omega), part_at R hb (by omega)] at this
    rwa [show a + (i - a) = i from by omega, show a + (j - a) = j from by omega] at this
  · intro h i j h1 h2 h3
    rw [part_at R hb (by omega), part_at R hb (by omega)]
    exact h (a + i) (a + j) (by omega) (by omega) (by omega)

theorem slT_part {B n : Nat} {w : World} {A : Option Addr} {c : Nat} {R : Array It} (h : SlAt HT B w (.slice A n c) R) (hz : R.size = n) {a b : Nat} (hab : a ≤ b) (hb : b ≤ n) :
    SlAt HT B w (.slice (cutA A c a 2) (b - a) (c - a)) (R.extract a b) := by
  subst hz
  exact h.partT hab hb

theorem sortedPart_yes {n : Nat} {A : Option Addr} {c : Nat} {R : Array It} {a b : Nat} (W : World) (h : SlAt HT 0 W (.slice A n c) R) (hz : R.size = n) (hab : a ≤ b) (hb : b ≤ n) (hn : n ≤ 2147483647) (ha : Asc Prod.fst a b R) :
    Calls Try.prog 49 #[.slice (cutA A c a 2) (b - a) (c - a)] W fun e w' => e = .returned (.bool true) ∧ RowKit.Below W.heap.size W w' :=
  SortedKeys_yes _ _ W (slT_part h hz hab hb) (by rw [part_sizeT R (by omega)]; omega) ((asc_extract (by omega)).2 ha)
theorem sortedPart_no {n : Nat} {A : Option Addr} {c : Nat} {R : Array It} {a b : Nat} (W : World) (h : SlAt HT 0 W (.slice A n c) R) (hz : R.size = n) (hab : a ≤ b) (hb : b ≤ n) (hn : n ≤ 2147483647) (ha : ¬ Asc Prod.fst a b R) :
    Calls Try.prog 49 #[.slice (cutA A c a 2) (b - a) (c - a)] W fun e w' => e = .returned (.bool false) ∧ RowKit.Below W.heap.size W w' :=
  SortedKeys_no _ _ W (slT_part h hz hab hb) (by rw [part_sizeT R (by omega)]; omega) fun h' => ha ((asc_extract (by omega)).1 h')
end Go.Proofs.Ytcamaikogengoaa
