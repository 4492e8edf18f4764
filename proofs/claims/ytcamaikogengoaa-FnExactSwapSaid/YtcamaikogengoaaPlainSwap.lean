/- Two copies make the exchange of two ranges: a plain law, without a program. -/
import Derived.Test.YtcamaikogengoaaPlainRot
import Derived.Laws.CopyOwn
namespace Go.Proofs.Ytcamaikogengoaa
set_option linter.unusedVariables false
set_option linter.unusedSimpArgs false
set_option linter.unusedSectionVars false
open Go.Sort

theorem splice_get? {α : Type} (L : List α) (off : Nat) (cs : List α) (h : off + cs.length ≤ L.length) (p : Nat) :
    (splice L off cs)[p]? = if off ≤ p ∧ p < off + cs.length then cs[p - off]? else L[p]? := by
  unfold splice
  have hl : (L.take off).length = off := by simp; omega
  by_cases h1 : p < off
  · rw [if_neg (by omega), List.getElem?_append_left (by omega), List.getElem?_take, if_pos h1]
  · rw [List.getElem?_append_right (by omega), hl]
    by_cases h2 : p < off + cs.length
    · rw [if_pos ⟨by omega, h2⟩, List.getElem?_append_left (by omega)]
    · rw [if_neg (by omega), List.getElem?_append_right (by omega), List.getElem?_drop]
      congr 1
      omega

theorem splice_map {α β : Type} (f : α → β) (L : List α) (off : Nat) (cs : List α) : splice (L.map f) off (cs.map f) = (splice L off cs).map f := by
  unfold splice
  simp [List.map_take, List.map_drop]

theorem extract_get? {α : Type} [Inhabited α] (d : Array α) {l h j : Nat} (hh : h ≤ d.size) (hj : l + j < h) : (d.extract l h).toList[j]? = some d[l + j]! := by
  have hsz : j < (d.extract l h).size := by simp; omega
  rw [Array.getElem?_toList, Array.getElem?_eq_getElem hsz, getElem!_pos d (l + j) (by omega)]
  simp

/-- The list behind both copies. -/
theorem two_splices {α : Type} [Inhabited α] {a b n : Nat} {d : Array α} (hab : a + n ≤ b ∨ b + n ≤ a) (ha : a + n ≤ d.size) (hb : b + n ≤ d.size) :
    splice (splice d.toList a (d.extract b (b + n)).toList) b (d.extract a (a + n)).toList = (swapRange d a b n).toList := by
  obtain ⟨hz, hp⟩ := swapRange_spec hab ha hb
  have l1 : (d.extract b (b + n)).toList.length = n := by simp; omega
  have l2 : (d.extract a (a + n)).toList.length = n := by simp; omega
  have lt1 : (splice d.toList a (d.extract b (b + n)).toList).length = d.size := by rw [length_splice _ _ _ (by rw [l1]; simpa using ha)]; simp
  apply List.ext_getElem?
  intro p
  rw [splice_get? _ _ _ (by rw [lt1, l2]; exact hb), splice_get? _ _ _ (by rw [l1]; simpa using ha), l1, l2]
  by_cases hps : p < d.size
  · have e := hp p
    have hR : (swapRange d a b n).toList[p]? = some (swapRange d a b n)[p]! := by
      rw [getElem!_pos (swapRange d a b n) p (by omega)]; simp [hz, hps]
    rw [hR, e]
    by_cases h1 : b ≤ p ∧ p < b + n
    · rw [if_pos h1, if_neg (by omega), if_pos h1]
      exact extract_get? d ha (by omega)
    · rw [if_neg h1]
      by_cases h2 : a ≤ p ∧ p < a + n
      · rw [if_pos h2, if_pos h2]
        exact extract_get? d hb (by omega)
      · rw [if_neg h2, if_neg h2, if_neg h1, getElem!_pos d p hps]
        simp [hps]
  · have hR : (swapRange d a b n).toList[p]? = none := by simp; omega
    rw [hR, if_neg (by omega), if_neg (by omega)]
    simp; omega

end Go.Proofs.Ytcamaikogengoaa
