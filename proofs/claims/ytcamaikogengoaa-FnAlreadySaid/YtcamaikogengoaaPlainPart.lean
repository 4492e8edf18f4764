/- The partitions and the partly sorting, in plain Lean: where the pivot lies, what is told of what is in order already. -/
import Derived.Sort.LotC
import Derived.Sort.LotA
namespace Go.Proofs.Ytcamaikogengoaa
set_option linter.unusedVariables false
set_option linter.unusedSimpArgs false
set_option linter.unusedSectionVars false
open Go.Sort
variable {α : Type} [Inhabited α] {lt : α → α → Bool}

theorem partition_at (d : Array α) (a b pivot : Nat) (hap : a ≤ pivot) (hpb : pivot < b) (hb : b ≤ d.size) :
    (partition lt d a b pivot).2.2[(partition lt d a b pivot).1]! = d[pivot]! := by
  rw [partition_fst, partition_arr]
  have hb0 : b ≤ (swp d a pivot).size := by rw [size_swp]; exact hb
  obtain ⟨r1, r2, r3, r4, r5⟩ := partLoop_spec lt a b _ (a + 1) (b - 1) (swp d a pivot) (Nat.le_refl _) (Nat.lt_succ_self a) (by omega) (by omega) hb0 (fun t h1 h2 => by omega) (fun t h1 h2 => by omega)
  generalize partLoop lt a (a + 1) (b - 1) (swp d a pivot) = res at r1 r2 r3 r4 r5 ⊢
  obtain ⟨r, d'⟩ := res
  simp only at r1 r2 r3 r4 r5 ⊢
  have hs : d'.size = d.size := by rw [r3.1, size_swp]
  have ea : d'[a]! = (swp d a pivot)[a]! := r3.2.1 a (Or.inl (Nat.lt_succ_self a))
  have eb : (swp d a pivot)[a]! = d[pivot]! := by
    by_cases e : a = pivot
    · rw [← e, swp_right d a a (by omega)]
    · rw [swp_left d a pivot (by omega) e]
  by_cases e : r = a
  · rw [e, swp_right d' a a (by omega), ea, eb]
  · rw [swp_left d' r a (by omega) e, ea, eb]

theorem partition_already (d : Array α) (a b pivot : Nat) (h : (partition lt d a b pivot).2.1 = true) :
    (partition lt d a b pivot).2.2 = swp (swp d a pivot) (partition lt d a b pivot).1 a := by
  unfold partition at h ⊢
  simp only [] at h ⊢
  split at h
  · rename_i hc
    simp only [if_pos hc]
  · cases h

theorem partition_sorted (d : Array α) (a b : Nat) (hab : a < b) (hb : b ≤ d.size) (h : SortedIn lt a b d) :
    (partition lt d a b a).2.1 = true := by
  have e : swp d a a = d := by
    apply Array.ext (by rw [size_swp])
    intro i h1 h2
    have : (swp d a a)[i]! = d[i]! := by
      by_cases e : i = a
      · rw [e, swp_right d a a (by omega)]
      · rw [swp_other d a a i e e]
    rwa [getElem!_pos (swp d a a) i h1, getElem!_pos d i h2] at this
  unfold partition
  simp only [e]
  obtain ⟨g1, g2, g3, g4, g5, g6, g7⟩ := round_facts (fun x => lt x d[a]!) (fun x => !lt x d[a]!) (fun _ => rfl) d a b (a + 1) (b - 1) (by omega) (by omega) (fun t h1 h2 => by omega) (fun t h1 h2 => by omega)
  by_cases hc : scanUp (fun x => lt x d[a]!) d (b - 1) (a + 1) > scanDown (fun x => !lt x d[a]!) d (scanUp (fun x => lt x d[a]!) d (b - 1) (a + 1)) (b - 1)
  · rw [if_pos hc]
  · exfalso
    obtain ⟨_, h2, h3⟩ := g7 hc
    have h4 := h a (scanDown (fun x => !lt x d[a]!) d (scanUp (fun x => lt x d[a]!) d (b - 1) (a + 1)) (b - 1)) (Nat.le_refl _) (by omega) (by omega)
    have h2 : lt d[scanDown (fun x => !lt x d[a]!) d (scanUp (fun x => lt x d[a]!) d (b - 1) (a + 1)) (b - 1)]! d[a]! = true := h2
    rw [h4] at h2
    cases h2

theorem scanSorted_all (d : Array α) (b : Nat) : ∀ n i, b - i ≤ n → i ≤ b → (∀ t, i ≤ t → t < b → lt d[t]! d[t - 1]! = false) → scanSorted lt d b i = b := by
  intro n
  induction n with
  | zero => intro i hn hi h; rw [scanSorted]; have : i = b := by omega
            subst this; simp
  | succ n ih =>
    intro i hn hi h
    rw [scanSorted]
    by_cases e : i = b
    · subst e; simp
    · rw [h i (Nat.le_refl _) (by omega)]
      rw [if_pos (by simp; omega)]
      exact ih (i + 1) (by omega) (by omega) fun t h1 h2 => h t (by omega) h2

theorem partial_sorted (d : Array α) (a b : Nat) (hab : a < b) (h : ∀ t, a < t → t < b → lt d[t]! d[t - 1]! = false) :
    (partialInsertionSort lt d a b).2 = true := by
  unfold partialInsertionSort
  rw [partialIns, scanSorted_all d b _ (a + 1) (Nat.le_refl _) (by omega) fun t h1 h2 => h t (by omega) h2]
  simp

end Go.Proofs.Ytcamaikogengoaa
