/- Plain laws on sorted ranges, without a program: a range has one sorted permutation; what a permutation in a range keeps; insertion from the range's first place on. -/
import Derived.Sort.AssemblyPlain
namespace Go.Proofs.Ytcamaikogengoaa
set_option linter.unusedVariables false
set_option linter.unusedSimpArgs false
set_option linter.unusedSectionVars false
open Go.Sort
variable {α : Type} [Inhabited α] {lt : α → α → Bool}

theorem ext_at {d d' : Array α} (hs : d.size = d'.size) (h : ∀ i, i < d.size → d[i]! = d'[i]!) : d = d' :=
  Array.ext hs fun i h1 h2 => by have := h i h1; rwa [getElem!_pos d i h1, getElem!_pos d' i h2] at this

theorem pairwise_extract {R : α → α → Prop} {d : Array α} {a b : Nat} (hb : b ≤ d.size) (h : ∀ i j, a ≤ i → i < j → j < b → R d[i]! d[j]!) : (d.extract a b).toList.Pairwise R := by
  rw [extract_toList d a b hb, List.pairwise_map, List.pairwise_iff_getElem]
  intro i j hi hj hij
  simp only [List.length_range'] at hi hj
  simp only [List.getElem_range']
  exact h _ _ (by omega) (by omega) (by omega)

theorem range_unique (hS : SWO lt) (hanti : ∀ x y, lt x y = false → lt y x = false → x = y) {d d1 d2 : Array α} {a b : Nat} (hb : b ≤ d.size)
    (p1 : PermIn a b d d1) (s1 : SortedIn lt a b d1) (p2 : PermIn a b d d2) (s2 : SortedIn lt a b d2) : d1 = d2 := by
  obtain ⟨z1, o1, q1⟩ := p1
  obtain ⟨z2, o2, q2⟩ := p2
  have e : (d1.extract a b).toList = (d2.extract a b).toList := by
    refine List.Perm.eq_of_pairwise (le := fun x y => lt y x = false) ?_ ?_ ?_ (q1.trans q2.symm)
    · intro x y _ _ h1 h2; exact hanti x y h2 h1
    · exact pairwise_extract (by omega) fun i j h1 h2 h3 => s1 i j h1 h2 h3
    · exact pairwise_extract (by omega) fun i j h1 h2 h3 => s2 i j h1 h2 h3
  rw [extract_toList d1 a b (by omega), extract_toList d2 a b (by omega), List.map_inj_left] at e
  refine ext_at (z1.trans z2.symm) fun i hi => ?_
  by_cases h : a ≤ i ∧ i < b
  · exact e i (by rw [List.mem_range'_1]; omega)
  · rw [o1 i (by omega), o2 i (by omega)]

/-- The reference's insertion begins at the range's first place: an idle round more. -/
theorem ins_from_a (d : Array α) (a b : Nat) : insOuter lt a b a d = insertionSort lt d a b := by
  rw [insOuter]
  split
  · have e : insInner lt a a d = d := by
      cases a with
      | zero => rw [insInner]
      | succ k => rw [insInner]; simp
    rw [e]; rfl
  · unfold insertionSort
    rw [insOuter, if_neg (by omega)]

theorem permIn_symm {d d' : Array α} {a b : Nat} (h : PermIn a b d d') : PermIn a b d' d :=
  ⟨h.1.symm, fun i hi => (h.2.1 i hi).symm, h.2.2.symm⟩

/-- Whatever permutes a range and sorts it does what insertion does. -/
theorem eq_insertionSort (hS : SWO lt) (hanti : ∀ x y, lt x y = false → lt y x = false → x = y) {d d1 : Array α} {a b : Nat} (hab : a ≤ b) (hb : b ≤ d.size)
    (p1 : PermIn a b d d1) (s1 : SortedIn lt a b d1) : d1 = insertionSort lt d a b :=
  have h := insertionSort_holds hS d a b hab hb
  range_unique hS hanti hb p1 s1 h.1 h.2

/-- Two lists that are permuted in a range are sorted to the same. -/
theorem insertionSort_perm (hS : SWO lt) (hanti : ∀ x y, lt x y = false → lt y x = false → x = y) {d d1 : Array α} {a b : Nat} (hab : a ≤ b) (hb : b ≤ d.size)
    (p1 : PermIn a b d d1) : insertionSort lt d1 a b = insertionSort lt d a b :=
  have h := insertionSort_holds hS d1 a b hab (by rw [p1.1]; exact hb)
  eq_insertionSort hS hanti hab hb (permIn_trans _ _ _ _ _ p1 h.1) h.2

theorem anti_int : ∀ x y : Int, ltInt x y = false → ltInt y x = false → x = y := by
  intro x y h1 h2
  simp only [ltInt, decide_eq_false_iff_not] at h1 h2
  omega

/-- Something sorted stays. -/
theorem insertionSort_sorted (hS : SWO lt) (hanti : ∀ x y, lt x y = false → lt y x = false → x = y) {d : Array α} {a b : Nat} (hab : a ≤ b) (hb : b ≤ d.size) (s : SortedIn lt a b d) :
    insertionSort lt d a b = d := (eq_insertionSort hS hanti hab hb (permIn_refl d a b) s).symm

end Go.Proofs.Ytcamaikogengoaa
