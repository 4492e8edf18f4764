/- The keys of sorted items are the sorted keys: what both twins hand back, as contracts. -/
import Derived.Test.YtcamaikogengoaaItSome
import Derived.Test.YtcamaikogengoaaIntEqual
import Derived.Test.YtcamaikogengoaaAPDQSort
import Derived.Test.YtcamaikogengoaaAHeapSort
namespace Go.Proofs.Ytcamaikogengoaa
set_option linter.unusedVariables false
set_option linter.unusedSimpArgs false
set_option linter.unusedSectionVars false
open Go.RowKit Go.Sort Go.Lib

theorem keys_perm {D R : Array It} {a b : Nat} (hb : b ≤ D.size) (hp : PermIn a b D R) : PermIn a b (keysOf D) (keysOf R) := by
  obtain ⟨hs, ho, hq⟩ := hp
  refine ⟨by rw [keysOf_size, keysOf_size, hs], fun i hi => ?_, ?_⟩
  · by_cases h : i < D.size
    · rw [keysOf_at (by omega), keysOf_at h, ho i hi]
    · rw [getElem!_neg _ _ (by rw [keysOf_size]; omega), getElem!_neg _ _ (by rw [keysOf_size]; omega)]
  · have e : ∀ X : Array It, ((keysOf X).extract a b).toList = (X.extract a b).toList.map (·.1) := fun X => by
      unfold keysOf
      simp [List.map_take, List.map_drop]
    rw [e, e]
    exact hq.map _

theorem keys_eq {D R : Array It} {a b : Nat} (hab : a ≤ b) (hb : b ≤ D.size) (hp : PermIn a b D R) (hs : Asc Prod.fst a b R) : keysOf R = insertionSort ltInt (keysOf D) a b := by
  refine eq_insertionSort swo_ltInt anti_int hab (by rw [keysOf_size]; exact hb) (keys_perm hb hp) fun i j h1 h2 h3 => ?_
  have hz : R.size = D.size := hp.1
  rw [keysOf_at (by omega), keysOf_at (by omega)]
  have := hs i j h1 h2 h3
  simp only [ltInt, decide_eq_false_iff_not]
  omega

/-- What each twin over numbers hands back. -/
def TwinTo (D : Array It) (a b : Nat) (w : World) (e : Ending) (w' : World) : Prop := ∃ v', e = .returned v' ∧ Hid (SlAt HI w.heap.size w' v' (insertionSort ltInt (keysOf D) a b)) ∧ RowKit.Below w.heap.size w w'

theorem pdq_is {D : Array It} {a b limit : Nat} (hab : a ≤ b) (hb : b ≤ D.size) (hB : Sort.Below ltInt a b (keysOf D)) : pdq ltInt (keysOf D) a b limit true true = insertionSort ltInt (keysOf D) a b :=
  have hp := pdq_sorts _ swo_ltInt (keysOf D) a b limit true true hab (by rw [keysOf_size]; exact hb) hB
  eq_insertionSort swo_ltInt anti_int hab (by rw [keysOf_size]; exact hb) hp.1 hp.2

theorem pdq_sorted (v : Value) (D : Array It) (a b limit : Nat) (w : World) (h : SlAt HI 0 w v (keysOf D)) (hab : a ≤ b) (hb : b ≤ D.size) (hl : limit < 4611686018427387904) (hB : Sort.Below ltInt a b (keysOf D)) (hn : D.size ≤ 2147483647) :
    Calls Try.prog 35 #[v, .int .i64 a, .int .i64 b, .int .i64 limit] w (TwinTo D a b w) :=
  (Pdq_impl v (keysOf D) a b limit w h hab (by rw [keysOf_size]; exact hb) hl hB (by rw [keysOf_size]; exact hn)).mono fun _ _ ⟨v', he, hs, hb'⟩ => ⟨v', he, by rw [pdq_is hab hb hB] at hs; exact hs, hb'⟩
theorem heap_sorted (v : Value) (D : Array It) (a b : Nat) (w : World) (h : SlAt HI 0 w v (keysOf D)) (hab : a ≤ b) (hb : b ≤ D.size) (hn : D.size ≤ 2147483647) :
    Calls Try.prog 37 #[v, .int .i64 a, .int .i64 b] w (TwinTo D a b w) :=
  (HeapSort_impl v (keysOf D) a b w h hab (by rw [keysOf_size]; exact hb) (by rw [keysOf_size]; exact hn)).mono fun _ _ ⟨v', he, hs, hb'⟩ => by
    have hp := heapSort_holds swo_ltInt (keysOf D) a b hab (by rw [keysOf_size]; exact hb)
    rw [eq_insertionSort swo_ltInt anti_int hab (by rw [keysOf_size]; exact hb) hp.1 hp.2] at hs
    exact ⟨v', he, hs, hb'⟩
theorem ins_sorted (v : Value) (D : Array It) (a b : Nat) (w : World) (h : SlAt HI 0 w v (keysOf D)) (hab : a ≤ b) (hb : b ≤ D.size) (hn : D.size ≤ 2147483647) :
    Calls Try.prog 38 #[v, .int .i64 a, .int .i64 b] w (TwinTo D a b w) :=
  (Insertion_at v (keysOf D) a b w h hab (by rw [keysOf_size]; exact hb) (by rw [keysOf_size]; exact hn)).mono fun _ _ ⟨v', he, hs, hb'⟩ => ⟨v', he, hs, hb'⟩

theorem size_sorted (D : Array It) {a b : Nat} (hab : a ≤ b) (hb : b ≤ D.size) : (insertionSort ltInt (keysOf D) a b).size = D.size := by
  rw [(insertionSort_holds swo_ltInt (keysOf D) a b hab (by rw [keysOf_size]; exact hb)).1.1, keysOf_size]

theorem pdq_length (v : Value) (D : Array It) (a b limit : Nat) (w : World) (h : SlAt HI 0 w v (keysOf D)) (hab : a ≤ b) (hb : b ≤ D.size) (hl : limit < 4611686018427387904) (hB : Sort.Below ltInt a b (keysOf D)) (hn : D.size ≤ 2147483647) :
    Calls Try.prog 35 #[v, .int .i64 a, .int .i64 b, .int .i64 limit] w fun e w' => ∃ A c, e = .returned (.slice A D.size c) ∧ RowKit.Below w.heap.size w w' :=
  (pdq_sorted v D a b limit w h hab hb hl hB hn).mono fun _ _ ⟨v', he, hs, hb'⟩ => by
    obtain ⟨A, c, rfl, _, _⟩ := hs.out
    rw [size_sorted D hab hb] at he
    exact ⟨A, c, he, hb'⟩

theorem Keys_any (A : Option Addr) {c : Nat} (n : Nat) (R : Array It) (w : World) (h : SlAt HT 0 w (.slice A n c) R) (hz : R.size = n) (hn : n ≤ 2147483647) :
    Calls Try.prog 54 #[.slice A n c] w (Copied HI w (keysOf R)) := Keys_at _ R w h (by omega)

theorem equal_keys (v1 v2 : Value) (D R : Array It) (a b : Nat) (w : World) (hp : PermIn a b D R) (hs : Asc Prod.fst a b R) (hab : a ≤ b) (hb : b ≤ D.size) (hn : D.size ≤ 2147483647) (h1 : SlAt HI 0 w v1 (keysOf R)) (h2 : SlAt HI 0 w v2 (insertionSort ltInt (keysOf D) a b)) :
    Calls Try.prog 36 #[v1, v2] w fun e w' => e = .returned (.bool true) ∧ RowKit.Below w.heap.size w w' := by
  rw [keys_eq hab hb hp hs] at h1
  exact equal_yes v1 v2 _ w h1 h2 (by rw [size_sorted D hab hb]; exact hn)
end Go.Proofs.Ytcamaikogengoaa
