/- Plain laws on heaps, without a program: a node above two heaps that sinks becomes the root of a heap; by all nodes from the last one on a heap is made. -/
import Derived.Sort.AssemblyPlain
import Derived.Sort.WalkB2
namespace Go.Proofs.Ytcamaikogengoaa
set_option linter.unusedVariables false
set_option linter.unusedSimpArgs false
set_option linter.unusedSectionVars false
open Go.Sort
variable {α : Type} [Inhabited α] {lt : α → α → Bool}

/-- No node of the tree below a node is less than a node below it, this one included. -/
def subtree (lt : α → α → Bool) (d : Array α) (F hi root : Nat) : Bool :=
  if h : hi ≤ root then true else
    (if 2 * root + 1 < hi then !lt d[F + root]! d[F + (2 * root + 1)]! && subtree lt d F hi (2 * root + 1) else true) &&
    (if 2 * root + 2 < hi then !lt d[F + root]! d[F + (2 * root + 2)]! && subtree lt d F hi (2 * root + 2) else true)
termination_by hi - root
decreasing_by all_goals omega

/-- Node k lies below node r, or is r. -/
inductive Desc (r : Nat) : Nat → Prop
  | refl : Desc r r
  | left {k : Nat} : Desc r k → Desc r (2 * k + 1)
  | right {k : Nat} : Desc r k → Desc r (2 * k + 2)

theorem Desc.ge {r k : Nat} (h : Desc r k) : r ≤ k := by
  induction h with
  | refl => exact Nat.le_refl _
  | left _ ih => omega
  | right _ ih => omega

theorem Desc.split {r k : Nat} (h : Desc r k) : k = r ∨ Desc (2 * r + 1) k ∨ Desc (2 * r + 2) k := by
  induction h with
  | refl => exact .inl rfl
  | left _ ih =>
    rcases ih with rfl | h | h
    · exact .inr (.inl .refl)
    · exact .inr (.inl h.left)
    · exact .inr (.inr h.left)
  | right _ ih =>
    rcases ih with rfl | h | h
    · exact .inr (.inr .refl)
    · exact .inr (.inl h.right)
    · exact .inr (.inr h.right)

theorem Desc.trans {r k m : Nat} (h : Desc r k) (h' : Desc k m) : Desc r m := by
  induction h' with
  | refl => exact h
  | left _ ih => exact ih.left
  | right _ ih => exact ih.right

theorem subtree_iff (lt : α → α → Bool) (d : Array α) (F hi : Nat) : ∀ n root, hi - root ≤ n → (subtree lt d F hi root = true ↔ ∀ k, Desc root k → k < hi → Ok lt F hi d k) := by
  intro n
  induction n with
  | zero =>
    intro root hn
    rw [subtree, dif_pos (by omega)]
    exact ⟨fun _ k hk hlt => absurd hk.ge (by omega), fun _ => rfl⟩
  | succ n ih =>
    intro root hn
    rw [subtree]
    split
    · rename_i hge
      exact ⟨fun _ k hk hlt => absurd hk.ge (by omega), fun _ => rfl⟩
    · rename_i hlt
      have i1 := ih (2 * root + 1) (by omega)
      have i2 := ih (2 * root + 2) (by omega)
      rw [Bool.and_eq_true]
      constructor
      · rintro ⟨h1, h2⟩ k hk hkh
        rcases hk.split with rfl | hk' | hk'
        · rintro c (rfl | rfl) hc
          · rw [if_pos hc] at h1; simp only [Bool.and_eq_true, Bool.not_eq_true'] at h1; exact h1.1
          · rw [if_pos hc] at h2; simp only [Bool.and_eq_true, Bool.not_eq_true'] at h2; exact h2.1
        · have := hk'.ge
          rw [if_pos (by omega)] at h1; simp only [Bool.and_eq_true] at h1
          exact i1.1 h1.2 k hk' hkh
        · have := hk'.ge
          rw [if_pos (by omega)] at h2; simp only [Bool.and_eq_true] at h2
          exact i2.1 h2.2 k hk' hkh
      · intro h
        constructor
        · split
          · rename_i hc
            simp only [Bool.and_eq_true, Bool.not_eq_true']
            exact ⟨h root .refl (by omega) _ (.inl rfl) hc, i1.2 fun k hk => h k (Desc.trans (Desc.left .refl) hk)⟩
          · rfl
        · split
          · rename_i hc
            simp only [Bool.and_eq_true, Bool.not_eq_true']
            exact ⟨h root .refl (by omega) _ (.inr rfl) hc, i2.2 fun k hk => h k (Desc.trans (Desc.right .refl) hk)⟩
          · rfl

/-- The hole's parent, where it is one of the nodes told, is not less than the hole's children. -/
def OverIn (S : Nat → Prop) (lt : α → α → Bool) (F hi : Nat) (d : Array α) (root : Nat) : Prop :=
  ∀ p, S p → (root = 2 * p + 1 ∨ root = 2 * p + 2) → ∀ c, (c = 2 * root + 1 ∨ c = 2 * root + 2) → c < hi → lt d[F + p]! d[F + c]! = false

/-- One step down, over whatever nodes with all that lie below them. -/
theorem stepIn (h : SWO lt) {S : Nat → Prop} (hS : ∀ k, S k → S (2 * k + 1) ∧ S (2 * k + 2)) {hi F root c : Nat} {d : Array α} (hs : F + hi ≤ d.size) (hc : c = 2 * root + 1 ∨ c = 2 * root + 2) (hch : c < hi) (hlt : lt d[F + root]! d[F + c]! = true)
    (hdom : ∀ c', (c' = 2 * root + 1 ∨ c' = 2 * root + 2) → c' < hi → lt d[F + c]! d[F + c']! = false)
    (P1 : ∀ i, S i → i < hi → i ≠ root → Ok lt F hi d i) (P2 : OverIn S lt F hi d root) (hr : S root) :
    (∀ i, S i → i < hi → i ≠ c → Ok lt F hi (swp d (F + root) (F + c)) i) ∧ OverIn S lt F hi (swp d (F + root) (F + c)) c := by
  have gR : (swp d (F + root) (F + c))[F + root]! = d[F + c]! := swp_left d _ _ (by omega) (by omega)
  have gC : (swp d (F + root) (F + c))[F + c]! = d[F + root]! := swp_right d _ _ (by omega)
  have gO : ∀ k, k ≠ root → k ≠ c → (swp d (F + root) (F + c))[F + k]! = d[F + k]! := fun k h1 h2 => swp_other d _ _ _ (by omega) (by omega)
  have hSc : S c := by rcases hc with rfl | rfl; exact (hS root hr).1; exact (hS root hr).2
  refine ⟨fun i hi1 hi2 hic k hk hkh => ?_, fun p hp hpc c'' hc'' hch'' => ?_⟩
  · by_cases hir : i = root
    · subst hir
      rw [gR]
      by_cases hkc : k = c
      · subst hkc; rw [gC]; exact h.asym hlt
      · rw [gO k (by omega) hkc]; exact hdom k hk hkh
    · rw [gO i hir hic]
      by_cases hkr : k = root
      · subst hkr; rw [gR]; exact P2 i hi1 hk c hc hch
      · rw [gO k hkr (by omega)]; exact P1 i hi1 hi2 hir k hk hkh
  · obtain rfl : p = root := by omega
    rw [gR, gO c'' (by omega) (by omega)]
    exact P1 c hSc hch (by omega) c'' hc'' hch''

theorem siftIn (h : SWO lt) {S : Nat → Prop} (hS : ∀ k, S k → S (2 * k + 1) ∧ S (2 * k + 2)) (hi F : Nat) : ∀ (n root : Nat) (d : Array α), hi - root ≤ n → F + hi ≤ d.size → S root →
    (∀ i, S i → i < hi → i ≠ root → Ok lt F hi d i) → OverIn S lt F hi d root → ∀ i, S i → i < hi → Ok lt F hi (siftDown lt hi F root d) i := by
  intro n
  induction n with
  | zero =>
    intro root d hn hs hr P1 _ i h1 h2
    rw [siftDown, dif_pos (by omega)]
    by_cases hir : i = root
    · omega
    · exact P1 i h1 h2 hir
  | succ n ih =>
    intro root d hn hs hr P1 P2
    by_cases h0 : hi ≤ 2 * root + 1
    · intro i h1 h2
      rw [siftDown, dif_pos h0]
      by_cases hir : i = root
      · subst hir; intro k hk hkh; omega
      · exact P1 i h1 h2 hir
    · by_cases hL : 2 * root + 2 < hi ∧ lt d[F + (2 * root + 1)]! d[F + (2 * root + 2)]! = true
      · obtain ⟨hL1, hL2⟩ := hL
        cases hG : lt d[F + root]! d[F + (2 * root + 2)]! with
        | false =>
          intro i h1 h2
          rw [sd_right_stop lt d hL1 hL2 hG]
          by_cases hir : i = root
          · subst hir
            rintro k (rfl | rfl) hkh
            · exact h.ntrans _ _ _ hG (h.asym hL2)
            · exact hG
          · exact P1 i h1 h2 hir
        | true =>
          rw [sd_right_go lt d hL1 hL2 hG]
          obtain ⟨Q1, Q2⟩ := stepIn h hS hs (.inr rfl) hL1 hG (by rintro c' (rfl | rfl) hc'; exact h.asym hL2; exact h.irrefl _) P1 P2 hr
          exact ih _ _ (by omega) (by rw [size_swp]; exact hs) (hS root hr).2 Q1 Q2
      · have hL' : 2 * root + 2 < hi → lt d[F + (2 * root + 1)]! d[F + (2 * root + 2)]! = false := fun hh => by
          cases e : lt d[F + (2 * root + 1)]! d[F + (2 * root + 2)]! with
          | false => rfl
          | true => exact absurd ⟨hh, e⟩ hL
        cases hG : lt d[F + root]! d[F + (2 * root + 1)]! with
        | false =>
          intro i h1 h2
          rw [sd_left_stop lt d (by omega) hL' hG]
          by_cases hir : i = root
          · subst hir
            rintro k (rfl | rfl) hkh
            · exact hG
            · exact h.ntrans _ _ _ hG (hL' hkh)
          · exact P1 i h1 h2 hir
        | true =>
          rw [sd_left_go lt d (by omega) hL' hG]
          obtain ⟨Q1, Q2⟩ := stepIn h hS hs (.inl rfl) (by omega) hG (by rintro c' (rfl | rfl) hc'; exact h.irrefl _; exact hL' hc') P1 P2 hr
          exact ih _ _ (by omega) (by rw [size_swp]; exact hs) (hS root hr).1 Q1 Q2

/-- A node above two heaps becomes the root of a heap. -/
theorem siftDown_subtree (h : SWO lt) {hi F lo : Nat} {d : Array α} (hs : F + hi ≤ d.size) (h1 : subtree lt d F hi (2 * lo + 1) = true) (h2 : subtree lt d F hi (2 * lo + 2) = true) :
    subtree lt (siftDown lt hi F lo d) F hi lo = true := by
  rw [subtree_iff lt _ F hi _ lo (Nat.le_refl _)]
  rw [subtree_iff lt _ F hi _ _ (Nat.le_refl _)] at h1 h2
  refine siftIn h (S := Desc lo) (fun k hk => ⟨hk.left, hk.right⟩) hi F _ lo d (Nat.le_refl _) hs .refl (fun i hi1 hi2 hne => ?_) (fun p hp hpc => ?_)
  · rcases hi1.split with rfl | hd | hd
    · exact absurd rfl hne
    · exact h1 i hd hi2
    · exact h2 i hd hi2
  · have := hp.ge; omega

/-- What is sifted keeps to the heap's places. -/
theorem siftDown_perm (hi F : Nat) : ∀ (n root : Nat) (d : Array α), hi - root ≤ n → F + hi ≤ d.size → PermIn F (F + hi) d (siftDown lt hi F root d) := by
  intro n
  induction n with
  | zero => intro root d hn hs; rw [siftDown, dif_pos (by omega)]; exact permIn_refl _ _ _
  | succ n ih =>
    intro root d hn hs
    rw [siftDown]
    split
    · exact permIn_refl _ _ _
    · split
      · split
        · exact permIn_refl _ _ _
        · split
          · exact permIn_trans _ _ _ _ _ (swp_permIn d _ _ _ _ (by omega) (by omega) (by omega) (by omega) hs) (ih _ _ (by omega) (by rw [size_swp]; exact hs))
          · exact permIn_refl _ _ _
      · split
        · exact permIn_refl _ _ _
        · exact permIn_trans _ _ _ _ _ (swp_permIn d _ _ _ _ (by omega) (by omega) (by omega) (by omega) hs) (ih _ _ (by omega) (by rw [size_swp]; exact hs))

/-- .. and to those from the node on. -/
theorem siftDown_perm_from (hi F lo : Nat) : ∀ (n root : Nat) (d : Array α), hi - root ≤ n → lo ≤ root → F + hi ≤ d.size → PermIn (F + lo) (F + hi) d (siftDown lt hi F root d) := by
  intro n
  induction n with
  | zero => intro root d hn hl hs; rw [siftDown, dif_pos (by omega)]; exact permIn_refl _ _ _
  | succ n ih =>
    intro root d hn hl hs
    rw [siftDown]
    split
    · exact permIn_refl _ _ _
    · split
      · split
        · exact permIn_refl _ _ _
        · split
          · exact permIn_trans _ _ _ _ _ (swp_permIn d _ _ _ _ (by omega) (by omega) (by omega) (by omega) hs) (ih _ _ (by omega) (by omega) (by rw [size_swp]; exact hs))
          · exact permIn_refl _ _ _
      · split
        · exact permIn_refl _ _ _
        · exact permIn_trans _ _ _ _ _ (swp_permIn d _ _ _ _ (by omega) (by omega) (by omega) (by omega) hs) (ih _ _ (by omega) (by omega) (by rw [size_swp]; exact hs))

/-- By all nodes from the last one on a heap is made: no node is less than one below it. -/
theorem heapBuild_all (h : SWO lt) {hi F : Nat} {d : Array α} (hs : F + hi ≤ d.size) : (∀ i, i < hi → Ok lt F hi (heapBuild lt hi F hi d) i) ∧ PermIn F (F + hi) d (heapBuild lt hi F hi d) :=
  build h hi F hi d hs fun i h1 h2 => by omega

end Go.Proofs.Ytcamaikogengoaa
