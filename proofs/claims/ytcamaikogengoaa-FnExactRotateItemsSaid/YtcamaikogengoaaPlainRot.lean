/- Plain laws on turning, exchanging and rotating ranges, without a program. -/
import Derived.Test.YtcamaikogengoaaPlain1
namespace Go.Proofs.Ytcamaikogengoaa
set_option linter.unusedVariables false
set_option linter.unusedSimpArgs false
set_option linter.unusedSectionVars false
open Go.Sort
variable {α : Type} [Inhabited α]

theorem swp_at (d : Array α) {i j : Nat} (hi : i < d.size) (hj : j < d.size) (k : Nat) : (swp d i j)[k]! = if k = j then d[i]! else if k = i then d[j]! else d[k]! := swp_get d hi hj k

/-- 'for i := ..; i < n; i++ { swap a+i, b+i }', from i. -/
def swapLoop (a b n i : Nat) (d : Array α) : Array α := if i < n then swapLoop a b n (i + 1) (swp d (a + i) (b + i)) else d
termination_by n - i

theorem swapLoop_go {a b n i : Nat} {d : Array α} (h : i < n) : swapLoop a b n i d = swapLoop a b n (i + 1) (swp d (a + i) (b + i)) := by rw [swapLoop, if_pos h]
theorem swapLoop_end {a b n i : Nat} {d : Array α} (h : ¬ i < n) : swapLoop a b n i d = d := by rw [swapLoop, if_neg h]

theorem swapLoop_spec (a b n : Nat) (hab : a + n ≤ b ∨ b + n ≤ a) : ∀ (k i : Nat) (d : Array α), n - i ≤ k → a + n ≤ d.size → b + n ≤ d.size →
    (swapLoop a b n i d).size = d.size ∧ ∀ p, (swapLoop a b n i d)[p]! = if a + i ≤ p ∧ p < a + n then d[b + (p - a)]! else if b + i ≤ p ∧ p < b + n then d[a + (p - b)]! else d[p]! := by
  intro k
  induction k with
  | zero =>
    intro i d hk ha hb
    rw [swapLoop_end (by omega)]
    exact ⟨rfl, fun p => by rw [if_neg (by omega), if_neg (by omega)]⟩
  | succ k ih =>
    intro i d hk ha hb
    by_cases h : i < n
    · rw [swapLoop_go h]
      obtain ⟨h1, h2⟩ := ih (i + 1) (swp d (a + i) (b + i)) (by omega) (by rw [size_swp]; exact ha) (by rw [size_swp]; exact hb)
      refine ⟨by rw [h1, size_swp], fun p => ?_⟩
      rw [h2 p]
      have g := swp_at d (i := a + i) (j := b + i) (by omega) (by omega)
      by_cases c1 : a + i ≤ p ∧ p < a + n
      · rw [if_pos c1]
        by_cases c2 : p = a + i
        · subst c2
          rw [if_neg (by omega), if_neg (by omega), g, if_neg (by omega), if_pos rfl]
          congr 1; omega
        · rw [if_pos (by omega), g, if_neg (by omega), if_neg (by omega)]
      · rw [if_neg c1, if_neg (by omega)]
        by_cases c3 : b + i ≤ p ∧ p < b + n
        · rw [if_pos c3]
          by_cases c4 : p = b + i
          · subst c4
            rw [if_neg (by omega), g, if_pos rfl]
            congr 1; omega
          · rw [if_pos (by omega), g, if_neg (by omega), if_neg (by omega)]
        · rw [if_neg c3, if_neg (by omega), g, if_neg (by omega), if_neg (by omega)]
    · rw [swapLoop_end h]
      exact ⟨rfl, fun p => by rw [if_neg (by omega), if_neg (by omega)]⟩

def swapRange (d : Array α) (a b n : Nat) : Array α := swapLoop a b n 0 d

theorem swapRange_spec {a b n : Nat} {d : Array α} (hab : a + n ≤ b ∨ b + n ≤ a) (ha : a + n ≤ d.size) (hb : b + n ≤ d.size) :
    (swapRange d a b n).size = d.size ∧ ∀ p, (swapRange d a b n)[p]! = if a ≤ p ∧ p < a + n then d[b + (p - a)]! else if b ≤ p ∧ p < b + n then d[a + (p - b)]! else d[p]! :=
  swapLoop_spec a b n hab n 0 d (by omega) ha hb

/-- The loop of the rotation, from (i, j). -/
def rotLoop (m i j : Nat) (d : Array α) : Array α :=
  if h : i = j ∨ i = 0 ∨ j = 0 then swapRange d (m - i) m i
  else if j < i then rotLoop m (i - j) j (swapRange d (m - i) m j)
  else rotLoop m i (j - i) (swapRange d (m - i) (m + j - i) i)
termination_by i + j
decreasing_by all_goals omega

def rotate (d : Array α) (a m b : Nat) : Array α := rotLoop m (m - a) (b - m) d

theorem rot_end {m i : Nat} {d : Array α} : rotLoop m i i d = swapRange d (m - i) m i := by rw [rotLoop, dif_pos (.inl rfl)]
theorem rot_left {m i j : Nat} {d : Array α} (h : j < i) (h0 : 0 < j) : rotLoop m i j d = rotLoop m (i - j) j (swapRange d (m - i) m j) := by rw [rotLoop, dif_neg (by omega), if_pos h]
theorem rot_right {m i j : Nat} {d : Array α} (h : i < j) (h0 : 0 < i) : rotLoop m i j d = rotLoop m i (j - i) (swapRange d (m - i) (m + j - i) i) := by rw [rotLoop, dif_neg (by omega), if_neg (by omega)]

/-- d' is d with the parts [a, m) and [m, b) exchanged. -/
structure IsRot (a m b : Nat) (d d' : Array α) : Prop where
  size : d'.size = d.size
  out : ∀ p, p < a ∨ b ≤ p → d'[p]! = d[p]!
  left : ∀ t, t < b - m → d'[a + t]! = d[m + t]!
  right : ∀ t, t < m - a → d'[a + (b - m) + t]! = d[a + t]!

theorem rotLoop_spec (m : Nat) : ∀ (k i j : Nat) (d : Array α), i + j ≤ k → 0 < i → 0 < j → i ≤ m → m + j ≤ d.size → IsRot (m - i) m (m + j) d (rotLoop m i j d) := by
  intro k
  induction k with
  | zero => intro i j d h1 h2; omega
  | succ k ih =>
    intro i j d hk hi hj him hs
    rcases Nat.lt_trichotomy i j with h | h | h
    · rw [rot_right h hi]
      obtain ⟨z, g⟩ := swapRange_spec (d := d) (a := m - i) (b := m + j - i) (n := i) (by omega) (by omega) (by omega)
      have R := ih i (j - i) (swapRange d (m - i) (m + j - i) i) (by omega) hi (by omega) him (by rw [z]; omega)
      refine ⟨by rw [R.size, z], fun p hp => ?_, fun t ht => ?_, fun t ht => ?_⟩
      · rw [R.out p (by omega), g, if_neg (by omega), if_neg (by omega)]
      · by_cases c : t < j - i
        · rw [R.left t (by omega), g, if_neg (by omega), if_neg (by omega)]
        · have := R.right (t - (j - i)) (by omega)
          rw [show m - i + (m + (j - i) - m) + (t - (j - i)) = m - i + t from by omega] at this
          rw [this, g, if_pos (by omega)]
          congr 1; omega
      · rw [R.out _ (by omega), g, if_neg (by omega), if_pos (by omega)]
        congr 1; omega
    · subst h
      rw [rot_end]
      obtain ⟨z, g⟩ := swapRange_spec (d := d) (a := m - i) (b := m) (n := i) (by omega) (by omega) (by omega)
      refine ⟨z, fun p hp => ?_, fun t ht => ?_, fun t ht => ?_⟩
      · rw [g, if_neg (by omega), if_neg (by omega)]
      · rw [g, if_pos (by omega)]; congr 1; omega
      · rw [g, if_neg (by omega), if_pos (by omega)]; congr 1; omega
    · rw [rot_left h hj]
      obtain ⟨z, g⟩ := swapRange_spec (d := d) (a := m - i) (b := m) (n := j) (by omega) (by omega) (by omega)
      have R := ih (i - j) j (swapRange d (m - i) m j) (by omega) (by omega) hj (by omega) (by rw [z]; omega)
      refine ⟨by rw [R.size, z], fun p hp => ?_, fun t ht => ?_, fun t ht => ?_⟩
      · rw [R.out p (by omega), g, if_neg (by omega), if_neg (by omega)]
      · rw [R.out _ (by omega), g, if_pos (by omega)]
        congr 1; omega
      · by_cases c : t < j
        · have := R.left t (by omega)
          rw [show m - (i - j) + t = m - i + (m + j - m) + t from by omega] at this
          rw [this, g, if_neg (by omega), if_pos (by omega)]
          congr 1; omega
        · have := R.right (t - j) (by omega)
          rw [show m - (i - j) + (m + j - m) + (t - j) = m - i + (m + j - m) + t from by omega] at this
          rw [this, g, if_neg (by omega), if_neg (by omega)]
          congr 1; omega

theorem rotate_spec {a m b : Nat} {d : Array α} (h1 : a < m) (h2 : m < b) (hb : b ≤ d.size) : IsRot a m b d (rotate d a m b) := by
  have R := rotLoop_spec m _ (m - a) (b - m) d (Nat.le_refl _) (by omega) (by omega) (by omega) (by omega)
  rw [show m - (m - a) = a from by omega, show m + (b - m) = b from by omega] at R
  exact R

theorem IsRot.unique {a m b : Nat} {d d1 d2 : Array α} (h1 : IsRot a m b d d1) (h2 : IsRot a m b d d2) (ham : a ≤ m) (hmb : m ≤ b) : d1 = d2 := by
  refine ext_at (h1.size.trans h2.size.symm) fun p hp => ?_
  by_cases c : a ≤ p ∧ p < b
  · by_cases c2 : p < a + (b - m)
    · have x := h1.left (p - a) (by omega)
      have y := h2.left (p - a) (by omega)
      rw [show a + (p - a) = p from by omega] at x y
      rw [x, y]
    · have x := h1.right (p - (a + (b - m))) (by omega)
      have y := h2.right (p - (a + (b - m))) (by omega)
      rw [show a + (b - m) + (p - (a + (b - m))) = p from by omega] at x y
      rw [x, y]
  · rw [h1.out p (by omega), h2.out p (by omega)]

/-- Exchanged twice a range is as before. -/
theorem IsRot.back {a m b : Nat} {d d' : Array α} (h : IsRot a m b d d') (ham : a ≤ m) (hmb : m ≤ b) : IsRot a (a + (b - m)) b d' d :=
  ⟨h.size.symm, fun p hp => (h.out p hp).symm, fun t ht => by rw [← h.right t (by omega)], fun t ht => by
    rw [h.left t (by omega), show a + (b - (a + (b - m))) + t = m + t from by omega]⟩

theorem rotate_twice {a m b : Nat} {d : Array α} (h1 : a < m) (h2 : m < b) (hb : b ≤ d.size) : rotate (rotate d a m b) a (a + (b - m)) b = d := by
  have R := rotate_spec h1 h2 hb
  have R2 := rotate_spec (d := rotate d a m b) (a := a) (m := a + (b - m)) (b := b) (by omega) (by omega) (by rw [R.size]; exact hb)
  exact R2.unique (R.back (by omega) (by omega)) (by omega) (by omega)

/-- The rotation as four cuts of the list. -/
theorem rotate_list {a m b : Nat} {d : Array α} (h1 : a < m) (h2 : m < b) (hb : b ≤ d.size) :
    (rotate d a m b).toList = d.toList.take a ++ ((d.toList.drop m).take (b - m) ++ ((d.toList.drop a).take (m - a) ++ d.toList.drop b)) := by
  have R := rotate_spec h1 h2 hb
  have hl : d.toList.length = d.size := Array.length_toList
  refine List.ext_getElem (by simp [R.size]; omega) fun p hp1 hp2 => ?_
  have e : (rotate d a m b).toList[p] = (rotate d a m b)[p]! := by
    rw [getElem!_pos _ p (by simpa using hp1), Array.getElem_toList]
  have hp : p < d.size := by simpa [R.size] using hp1
  rw [e]
  have key : ∀ q (h : q < d.toList.length), d.toList[q] = d[q]! := fun q h => by
    rw [getElem!_pos _ q (by simpa using h), Array.getElem_toList]
  rw [List.getElem_append]
  split
  · rename_i c
    simp only [List.length_take] at c
    rw [List.getElem_take, key, R.out p (by omega)]
  · rename_i c
    simp only [List.length_take] at c
    rw [List.getElem_append]
    split
    · rename_i c2
      simp only [List.length_take, List.length_drop] at c2
      rw [List.getElem_take, List.getElem_drop, key]
      have := R.left (p - a) (by omega)
      rw [show a + (p - a) = p from by omega] at this
      rw [this]; congr 1; simp; omega
    · rename_i c2
      simp only [List.length_take, List.length_drop] at c2
      rw [List.getElem_append]
      split
      · rename_i c3
        simp only [List.length_take, List.length_drop] at c3
        rw [List.getElem_take, List.getElem_drop, key]
        have := R.right (p - (a + (b - m))) (by omega)
        rw [show a + (b - m) + (p - (a + (b - m))) = p from by omega] at this
        rw [this]; congr 1; simp; omega
      · rename_i c3
        simp only [List.length_take, List.length_drop] at c3
        rw [List.getElem_drop, key, R.out p (by omega)]
        congr 1; simp; omega

/-- A range turned round, place by place. -/
theorem reverseLoop_spec : ∀ (k i j : Nat) (d : Array α), j - i ≤ k → j < d.size → (reverseLoop i j d).size = d.size ∧ ∀ p, (reverseLoop i j d)[p]! = if i ≤ p ∧ p ≤ j then d[i + j - p]! else d[p]! := by
  intro k
  induction k with
  | zero =>
    intro i j d hk hj
    rw [reverseLoop, if_neg (by omega)]
    refine ⟨rfl, fun p => ?_⟩
    split
    · congr 1; omega
    · rfl
  | succ k ih =>
    intro i j d hk hj
    rw [reverseLoop]
    split
    · obtain ⟨z, g⟩ := ih (i + 1) (j - 1) (swp d i j) (by omega) (by rw [size_swp]; omega)
      refine ⟨by rw [z, size_swp], fun p => ?_⟩
      rw [g]
      have s := swp_at d (i := i) (j := j) (by omega) (by omega)
      by_cases c : i ≤ p ∧ p ≤ j
      · rw [if_pos c]
        by_cases c1 : p = i
        · subst c1; rw [if_neg (by omega), s, if_neg (by omega), if_pos rfl]; congr 1; omega
        · by_cases c2 : p = j
          · subst c2; rw [if_neg (by omega), s, if_pos rfl]; congr 1; omega
          · rw [if_pos (by omega), s, if_neg (by omega), if_neg (by omega)]; congr 1; omega
      · rw [if_neg c, if_neg (by omega), s, if_neg (by omega), if_neg (by omega)]
    · refine ⟨rfl, fun p => ?_⟩
      split
      · congr 1; omega
      · rfl

theorem reverseRange_spec {a b : Nat} {d : Array α} (hab : a ≤ b) (hb : b ≤ d.size) : (reverseRange d a b).size = d.size ∧ ∀ p, (reverseRange d a b)[p]! = if a ≤ p ∧ p < b then d[a + b - 1 - p]! else d[p]! := by
  unfold reverseRange
  rcases Nat.eq_or_lt_of_le hab with rfl | hlt
  · rw [reverseLoop, if_neg (by omega)]
    exact ⟨rfl, fun p => by rw [if_neg (by omega)]⟩
  · obtain ⟨z, g⟩ := reverseLoop_spec _ a (b - 1) d (Nat.le_refl _) (by omega)
    refine ⟨z, fun p => ?_⟩
    rw [g]
    by_cases c : a ≤ p ∧ p < b
    · rw [if_pos (by omega), if_pos c]; congr 1; omega
    · rw [if_neg (by omega), if_neg c]

theorem reverse_twice {a b : Nat} {d : Array α} (hab : a ≤ b) (hb : b ≤ d.size) : reverseRange (reverseRange d a b) a b = d := by
  obtain ⟨z, g⟩ := reverseRange_spec hab hb
  obtain ⟨z2, g2⟩ := reverseRange_spec (d := reverseRange d a b) hab (by rw [z]; exact hb)
  refine ext_at (z2.trans z) fun p hp => ?_
  rw [g2]
  by_cases c : a ≤ p ∧ p < b
  · rw [if_pos c, g, if_pos (by omega)]; congr 1; omega
  · rw [if_neg c, g, if_neg c]

/-- By three turns two parts are exchanged. -/
theorem three_turns {a m b : Nat} {d : Array α} (h1 : a < m) (h2 : m < b) (hb : b ≤ d.size) : reverseRange (reverseRange (reverseRange d a m) m b) a b = rotate d a m b := by
  obtain ⟨z1, g1⟩ := reverseRange_spec (d := d) (a := a) (b := m) (by omega) (by omega)
  obtain ⟨z2, g2⟩ := reverseRange_spec (d := reverseRange d a m) (a := m) (b := b) (by omega) (by rw [z1]; exact hb)
  obtain ⟨z3, g3⟩ := reverseRange_spec (d := reverseRange (reverseRange d a m) m b) (a := a) (b := b) (by omega) (by rw [z2, z1]; exact hb)
  refine IsRot.unique ⟨by rw [z3, z2, z1], fun p hp => ?_, fun t ht => ?_, fun t ht => ?_⟩ (rotate_spec h1 h2 hb) (by omega) (by omega)
  · rw [g3, if_neg (by omega), g2, if_neg (by omega), g1, if_neg (by omega)]
  · rw [g3, if_pos (by omega), g2, if_pos (by omega), g1, if_neg (by omega)]; congr 1; omega
  · rw [g3, if_pos (by omega), g2, if_neg (by omega), g1, if_pos (by omega)]; congr 1; omega

end Go.Proofs.Ytcamaikogengoaa
