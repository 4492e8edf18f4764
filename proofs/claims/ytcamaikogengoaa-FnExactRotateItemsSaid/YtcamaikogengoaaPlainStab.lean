/- Plain laws on stable sorting by a key, without a program: what keeps those of one key in order; sorted lists that keep them are one; insertion keeps them. -/
import Derived.Test.YtcamaikogengoaaPlainRot
namespace Go.Proofs.Ytcamaikogengoaa
set_option linter.unusedVariables false
set_option linter.unusedSimpArgs false
set_option linter.unusedSectionVars false
open Go.Sort
variable {α : Type} [Inhabited α] (key : α → Int)

def ltKey (x y : α) : Bool := decide (key x < key y)

omit [Inhabited α] in
theorem swo_key : SWO (ltKey key) where
  irrefl x := by simp [ltKey]
  trans x y z h1 h2 := by simp only [ltKey, decide_eq_true_eq] at *; omega
  ntrans x y z h1 h2 := by simp only [ltKey, decide_eq_false_iff_not] at *; omega

theorem sorted_key {a b : Nat} {d : Array α} : SortedIn (ltKey key) a b d ↔ ∀ i j, a ≤ i → i < j → j < b → key d[i]! ≤ key d[j]! := by
  unfold SortedIn ltKey
  constructor
  · intro h i j h1 h2 h3
    have := h i j h1 h2 h3
    simp only [decide_eq_false_iff_not] at this
    omega
  · intro h i j h1 h2 h3
    have := h i j h1 h2 h3
    simp only [decide_eq_false_iff_not]
    omega

/-- n places from a on, as a list. -/
def seg (d : Array α) (a n : Nat) : List α := (List.range' a n).map fun i => d[i]!

theorem seg_len (d : Array α) (a n : Nat) : (seg d a n).length = n := by simp [seg]
theorem seg_append (d : Array α) (a n m : Nat) : seg d a (n + m) = seg d a n ++ seg d (a + n) m := by
  unfold seg
  rw [← List.map_append]
  congr 1
  have := List.range'_append (s := a) (m := n) (n := m) (step := 1)
  simp only [Nat.one_mul] at this
  exact this.symm
theorem seg_congr {d d' : Array α} {a a' n : Nat} (h : ∀ t, t < n → d[a + t]! = d'[a' + t]!) : seg d a n = seg d' a' n := by
  unfold seg
  refine List.ext_getElem (by simp) fun i h1 h2 => ?_
  simp only [List.length_map, List.length_range'] at h1
  simp only [List.getElem_map, List.getElem_range', Nat.one_mul]
  exact h i h1
theorem mem_seg {d : Array α} {a n : Nat} {x : α} : x ∈ seg d a n ↔ ∃ t, t < n ∧ d[a + t]! = x := by
  unfold seg
  simp only [List.mem_map, List.mem_range'_1]
  constructor
  · rintro ⟨i, hi, rfl⟩; exact ⟨i - a, by omega, by congr 1; omega⟩
  · rintro ⟨t, ht, rfl⟩; exact ⟨a + t, by omega, rfl⟩
theorem extract_seg {d : Array α} {a b : Nat} (hb : b ≤ d.size) : (d.extract a b).toList = seg d a (b - a) := extract_toList d a b hb

/-- d' is d, permuted in the range, those of one key in their old order. -/
structure Stab (a b : Nat) (d d' : Array α) : Prop where
  size : d'.size = d.size
  out : ∀ i, i < a ∨ b ≤ i → d'[i]! = d[i]!
  cls : ∀ k : Int, (seg d' a (b - a)).filter (fun x => key x == k) = (seg d a (b - a)).filter (fun x => key x == k)

variable {key}
theorem Stab.refl (a b : Nat) (d : Array α) : Stab key a b d d := ⟨rfl, fun _ _ => rfl, fun _ => rfl⟩
theorem Stab.trans {a b : Nat} {d d' d'' : Array α} (h : Stab key a b d d') (h' : Stab key a b d' d'') : Stab key a b d d'' :=
  ⟨h'.size.trans h.size, fun i hi => (h'.out i hi).trans (h.out i hi), fun k => (h'.cls k).trans (h.cls k)⟩
theorem Stab.mono {a b a' b' : Nat} {d d' : Array α} (h : Stab key a b d d') (hab : a ≤ b) (ha : a' ≤ a) (hb : b ≤ b') : Stab key a' b' d d' := by
  refine ⟨h.size, fun i hi => h.out i (by omega), fun k => ?_⟩
  have e : ∀ x : Array α, seg x a' (b' - a') = seg x a' (a - a') ++ (seg x a (b - a) ++ seg x b (b' - b)) := fun x => by
    have e1 := seg_append x a' (a - a') ((b - a) + (b' - b))
    have e2 := seg_append x a (b - a) (b' - b)
    rw [show a' + (a - a') = a from by omega] at e1
    rw [show a + (b - a) = b from by omega] at e2
    rw [← e2, ← e1]
    congr 1; omega
  rw [e, e, List.filter_append, List.filter_append, List.filter_append, List.filter_append, h.cls k,
    seg_congr (d := d') (d' := d) (a := a') (a' := a') fun t ht => h.out _ (by omega), seg_congr (d := d') (d' := d) (a := b) (a' := b) fun t ht => h.out _ (by omega)]

/-- What holds of every one holds of every one behind it. -/
theorem Stab.all {a b : Nat} {d d' : Array α} (h : Stab key a b d d') {P : α → Prop} (hP : ∀ i, a ≤ i → i < b → P d[i]!) : ∀ i, a ≤ i → i < b → P d'[i]! := by
  intro i h1 h2
  have m : d'[i]! ∈ (seg d' a (b - a)).filter (fun x => key x == key d'[i]!) := by
    rw [List.mem_filter]
    exact ⟨mem_seg.2 ⟨i - a, by omega, by congr 1; omega⟩, by simp⟩
  rw [h.cls, List.mem_filter] at m
  obtain ⟨t, ht, e⟩ := mem_seg.1 m.1
  rw [← e]
  exact hP _ (by omega) (by omega)

/-- Two parts that share no key are exchanged. -/
theorem IsRot.stab {a m b : Nat} {d d' : Array α} (h : IsRot a m b d d') (ham : a ≤ m) (hmb : m ≤ b) (hk : ∀ i j, a ≤ i → i < m → m ≤ j → j < b → key d[i]! ≠ key d[j]!) : Stab key a b d d' := by
  refine ⟨h.size, h.out, fun k => ?_⟩
  have e1 : seg d' a (b - a) = seg d m (b - m) ++ seg d a (m - a) := by
    have := seg_append d' a (b - m) (m - a)
    rw [show b - m + (m - a) = b - a from by omega] at this
    rw [this, seg_congr (d := d') (d' := d) (a := a) (a' := m) fun t ht => h.left t ht, seg_congr (d := d') (d' := d) (a := a + (b - m)) (a' := a) fun t ht => h.right t ht]
  have e2 : seg d a (b - a) = seg d a (m - a) ++ seg d m (b - m) := by
    have := seg_append d a (m - a) (b - m)
    rw [show m - a + (b - m) = b - a from by omega, show a + (m - a) = m from by omega] at this
    exact this
  rw [e1, e2, List.filter_append, List.filter_append]
  by_cases c : ∃ i, a ≤ i ∧ i < m ∧ key d[i]! = k
  · obtain ⟨i, i1, i2, rfl⟩ := c
    have : (seg d m (b - m)).filter (fun x => key x == key d[i]!) = [] := by
      rw [List.filter_eq_nil_iff]
      intro x hx
      obtain ⟨t, ht, rfl⟩ := mem_seg.1 hx
      simp only [beq_iff_eq]
      exact fun e => hk i (m + t) i1 i2 (by omega) (by omega) e.symm
    rw [this]; simp
  · have : (seg d a (m - a)).filter (fun x => key x == k) = [] := by
      rw [List.filter_eq_nil_iff]
      intro x hx
      obtain ⟨t, ht, rfl⟩ := mem_seg.1 hx
      simp only [beq_iff_eq]
      exact fun e => c ⟨a + t, by omega, by omega, e⟩
    rw [this]; simp

omit [Inhabited α] in
/-- Sorted lists with the same ones of each key are one list. -/
theorem list_unique : ∀ (l1 l2 : List α), l1.Pairwise (fun x y => key x ≤ key y) → l2.Pairwise (fun x y => key x ≤ key y) →
    (∀ k : Int, l1.filter (fun x => key x == k) = l2.filter (fun x => key x == k)) → l1 = l2
  | [], [], _, _, _ => rfl
  | [], y :: t, _, _, h => by have := h (key y); simp at this
  | x :: t, [], _, _, h => by have := h (key x); simp at this
  | x :: t, y :: s, h1, h2, h => by
    rw [List.pairwise_cons] at h1 h2
    have hxy : key x = key y := by
      have a1 : key y ≤ key x := by
        have m : x ∈ (y :: s).filter (fun z => key z == key x) := by rw [← h]; simp
        rw [List.mem_filter] at m
        rcases List.mem_cons.1 m.1 with e | e
        · rw [e]; exact Int.le_refl _
        · exact h2.1 x e
      have a2 : key x ≤ key y := by
        have m : y ∈ (x :: t).filter (fun z => key z == key y) := by rw [h]; simp
        rw [List.mem_filter] at m
        rcases List.mem_cons.1 m.1 with e | e
        · rw [e]; exact Int.le_refl _
        · exact h1.1 y e
      omega
    have e := h (key x)
    rw [List.filter_cons, List.filter_cons, if_pos (by simp), if_pos (by simp [hxy])] at e
    injection e with e1 e2
    subst e1
    congr 1
    refine list_unique t s h1.2 h2.2 fun k => ?_
    have := h k
    rw [List.filter_cons, List.filter_cons] at this
    split at this
    · injection this
    · exact this

theorem stab_unique {a b : Nat} {d d1 d2 : Array α} (hb : b ≤ d.size) (h1 : Stab key a b d d1) (s1 : SortedIn (ltKey key) a b d1) (h2 : Stab key a b d d2) (s2 : SortedIn (ltKey key) a b d2) : d1 = d2 := by
  have pw : ∀ x : Array α, SortedIn (ltKey key) a b x → (seg x a (b - a)).Pairwise (fun x y => key x ≤ key y) := fun x hx => by
    unfold seg
    rw [List.pairwise_map, List.pairwise_iff_getElem]
    intro i j hi hj hij
    simp only [List.length_range'] at hi hj
    simp only [List.getElem_range', Nat.one_mul]
    exact (sorted_key key).1 hx _ _ (by omega) (by omega) (by omega)
  have e := list_unique _ _ (pw d1 s1) (pw d2 s2) fun k => (h1.cls k).trans (h2.cls k).symm
  unfold seg at e
  rw [List.map_inj_left] at e
  refine ext_at (h1.size.trans h2.size.symm) fun i hi => ?_
  by_cases h : a ≤ i ∧ i < b
  · exact e i (by rw [List.mem_range'_1]; omega)
  · rw [h1.out i (by omega), h2.out i (by omega)]

/-- Neighbours exchanged: a rotation. -/
theorem swp_isRot {d : Array α} {j : Nat} (h : j + 1 < d.size) : IsRot j (j + 1) (j + 2) d (swp d (j + 1) j) := by
  have g := swp_at d (i := j + 1) (j := j) h (by omega)
  refine ⟨size_swp _ _ _, fun p hp => ?_, fun t ht => ?_, fun t ht => ?_⟩
  · rw [g, if_neg (by omega), if_neg (by omega)]
  · rw [g, if_pos (by omega)]; congr 1; omega
  · rw [g, if_neg (by omega), if_pos (by omega)]; congr 1; omega

theorem insInner_stab (a b i : Nat) (hib : i < b) : ∀ (j : Nat) (d : Array α), j ≤ i → b ≤ d.size → Stab key a b d (insInner (ltKey key) a j d)
  | 0, d, _, _ => by rw [insInner]; exact Stab.refl _ _ _
  | j + 1, d, hj, hb => by
    rw [insInner]
    split
    · rename_i h
      simp only [Bool.and_eq_true, decide_eq_true_eq, ltKey] at h
      have r := (swp_isRot (d := d) (j := j) (by omega)).stab (key := key) (by omega) (by omega) (fun p q p1 p2 q1 q2 => by
        obtain rfl : p = j := by omega
        obtain rfl : q = p + 1 := by omega
        omega)
      exact (r.mono (a' := a) (b' := b) (by omega) (by omega) (by omega)).trans (insInner_stab a b i hib j _ (by omega) (by rw [size_swp]; exact hb))
    · exact Stab.refl _ _ _

theorem insOuter_stab (a b : Nat) : ∀ (n i : Nat) (d : Array α), b - i ≤ n → b ≤ d.size → Stab key a b d (insOuter (ltKey key) a b i d) := by
  intro n
  induction n with
  | zero => intro i d hn hb; rw [insOuter, if_neg (by omega)]; exact Stab.refl _ _ _
  | succ n ih =>
    intro i d hn hb
    rw [insOuter]
    split
    · rename_i h
      have s := insInner_stab (key := key) a b i h i d (Nat.le_refl _) hb
      exact s.trans (ih _ _ (by omega) (by rw [s.size]; exact hb))
    · exact Stab.refl _ _ _

theorem insertionSort_stab {a b : Nat} {d : Array α} (hb : b ≤ d.size) : Stab key a b d (insertionSort (ltKey key) d a b) := insOuter_stab a b _ _ d (Nat.le_refl _) hb

/-- Whatever sorts a range by its keys and keeps those of one key in order does what insertion does. -/
theorem eq_insertion_stab {a b : Nat} {d d1 : Array α} (hab : a ≤ b) (hb : b ≤ d.size) (h : Stab key a b d d1) (s : SortedIn (ltKey key) a b d1) : d1 = insertionSort (ltKey key) d a b :=
  stab_unique hb h s (insertionSort_stab hb) (insertionSort_holds (swo_key key) d a b hab hb).2

end Go.Proofs.Ytcamaikogengoaa
