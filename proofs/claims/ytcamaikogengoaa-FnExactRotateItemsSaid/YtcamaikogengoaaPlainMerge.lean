/- Plain laws on merging two sorted parts stably, and on sorting by runs that double, without a program. -/
import Derived.Test.YtcamaikogengoaaPlainStab
namespace Go.Proofs.Ytcamaikogengoaa
set_option linter.unusedVariables false
set_option linter.unusedSimpArgs false
set_option linter.unusedSectionVars false
open Go.Sort
variable {α : Type} [Inhabited α] {key : α → Int}

/-- The keys do not fall. -/
def Asc (key : α → Int) (a b : Nat) (d : Array α) : Prop := ∀ i j, a ≤ i → i < j → j < b → key d[i]! ≤ key d[j]!

theorem asc_sorted {a b : Nat} {d : Array α} : Asc key a b d ↔ SortedIn (ltKey key) a b d := (sorted_key key).symm

theorem Asc.part {a b a' b' : Nat} {d : Array α} (h : Asc key a b d) (ha : a ≤ a') (hb : b' ≤ b) : Asc key a' b' d := fun i j h1 h2 h3 => h i j (by omega) h2 (by omega)
theorem Asc.congr {a b : Nat} {d d' : Array α} (h : Asc key a b d) (e : ∀ i, a ≤ i → i < b → d'[i]! = d[i]!) : Asc key a b d' := fun i j h1 h2 h3 => by
  rw [e i h1 (by omega), e j (by omega) h3]; exact h i j h1 h2 h3
theorem Asc.le {a b : Nat} {d : Array α} (h : Asc key a b d) {i j : Nat} (h1 : a ≤ i) (h2 : i ≤ j) (h3 : j < b) : key d[i]! ≤ key d[j]! := by
  rcases Nat.eq_or_lt_of_le h2 with rfl | h4
  · exact Int.le_refl _
  · exact h i j h1 h4 h3
theorem asc_join {a m b : Nat} {d : Array α} (h1 : Asc key a m d) (h2 : Asc key m b d) (hc : ∀ i j, a ≤ i → i < m → m ≤ j → j < b → key d[i]! ≤ key d[j]!) : Asc key a b d := fun i j p1 p2 p3 => by
  by_cases c : j < m
  · exact h1 i j p1 p2 c
  · by_cases c2 : i < m
    · exact hc i j p1 c2 (by omega) p3
    · exact h2 i j (by omega) p2 p3

theorem IsRot.at_ {s m e : Nat} {d d1 : Array α} (h : IsRot s m e d d1) (sm : s ≤ m) (me : m ≤ e) (p : Nat) :
    d1[p]! = if p < s then d[p]! else if p < s + (e - m) then d[m + (p - s)]! else if p < e then d[s + (p - (s + (e - m)))]! else d[p]! := by
  by_cases c1 : p < s
  · rw [if_pos c1]; exact h.out p (by omega)
  · rw [if_neg c1]
    by_cases c2 : p < s + (e - m)
    · rw [if_pos c2, ← h.left (p - s) (by omega)]; congr 1; omega
    · rw [if_neg c2]
      by_cases c3 : p < e
      · rw [if_pos c3, ← h.right (p - (s + (e - m))) (by omega)]; congr 1; omega
      · rw [if_neg c3]; exact h.out p (by omega)

theorem IsRot.refl_left (m b : Nat) (d : Array α) : IsRot m m b d d := ⟨rfl, fun _ _ => rfl, fun _ _ => rfl, fun t ht => by omega⟩
theorem IsRot.refl_right (a m : Nat) (d : Array α) : IsRot a m m d d := ⟨rfl, fun _ _ => rfl, fun t ht => by omega, fun t ht => by rw [show a + (m - m) + t = a + t from by omega]⟩

/-- What the exchange of the two middle parts does. -/
structure MergeStep (key : α → Int) (a s m e b : Nat) (d d1 : Array α) : Prop where
  stab : Stab key a b d d1
  left0 : Asc key a s d1
  left1 : Asc key s (s + (e - m)) d1
  right0 : Asc key (s + (e - m)) e d1
  right1 : Asc key e b d1
  cross : ∀ i j, a ≤ i → i < s + (e - m) → s + (e - m) ≤ j → j < b → key d1[i]! ≤ key d1[j]!

theorem merge_step {a s m e b : Nat} {d d1 : Array α} (h : IsRot s m e d d1) (as : a ≤ s) (sm : s ≤ m) (me : m ≤ e) (eb : e ≤ b) (h1 : Asc key a m d) (h2 : Asc key m b d)
    (hs : ∀ i j, a ≤ i → i < s → e ≤ j → j < b → key d[i]! ≤ key d[j]!) (hx : ∀ i j, s ≤ i → i < m → m ≤ j → j < e → key d[j]! < key d[i]!) : MergeStep key a s m e b d d1 := by
  have g := h.at_ sm me
  refine ⟨(h.stab (key := key) sm me fun i j p1 p2 q1 q2 => ?_).mono (by omega) as eb, ?_, ?_, ?_, ?_, ?_⟩
  · have := hx i j p1 p2 q1 q2; omega
  · intro i j p1 p2 p3
    rw [g i, g j, if_pos (by omega), if_pos (by omega)]
    exact h1 i j p1 p2 (by omega)
  · intro i j p1 p2 p3
    rw [g i, g j, if_neg (by omega), if_pos (by omega), if_neg (by omega), if_pos (by omega)]
    exact h2 _ _ (by omega) (by omega) (by omega)
  · intro i j p1 p2 p3
    rw [g i, g j, if_neg (by omega), if_neg (by omega), if_pos (by omega), if_neg (by omega), if_neg (by omega), if_pos (by omega)]
    exact h1 _ _ (by omega) (by omega) (by omega)
  · intro i j p1 p2 p3
    rw [g i, g j, if_neg (by omega), if_neg (by omega), if_neg (by omega), if_neg (by omega), if_neg (by omega), if_neg (by omega)]
    exact h2 _ _ (by omega) (by omega) (by omega)
  · intro i j p1 p2 p3 p4
    rw [g i, g j]
    by_cases ci : i < s
    · rw [if_pos ci, if_neg (by omega), if_neg (by omega)]
      by_cases cj : j < e
      · rw [if_pos cj]; exact h1 _ _ p1 (by omega) (by omega)
      · rw [if_neg cj]; exact hs _ _ p1 ci (by omega) p4
    · rw [if_neg ci, if_pos p2, if_neg (by omega), if_neg (by omega)]
      by_cases cj : j < e
      · rw [if_pos cj]
        exact Int.le_of_lt (hx _ _ (by omega) (by omega) (by omega) (by omega))
      · rw [if_neg cj]; exact h2.le (by omega) (by omega) p4

/-- Both halves sorted behind such a step: the whole is. -/
theorem halves {a mid b : Nat} {d1 d2 d3 : Array α} (ham : a ≤ mid) (hmb : mid ≤ b) (s2 : Stab key a mid d1 d2) (a2 : Asc key a mid d2) (s3 : Stab key mid b d2 d3) (a3 : Asc key mid b d3)
    (hc : ∀ i j, a ≤ i → i < mid → mid ≤ j → j < b → key d1[i]! ≤ key d1[j]!) : Stab key a b d1 d3 ∧ Asc key a b d3 := by
  refine ⟨(s2.mono ham (Nat.le_refl _) hmb).trans (s3.mono hmb ham (Nat.le_refl _)), asc_join (m := mid) (a2.congr fun i h1 h2 => s3.out i (.inl h2)) a3 fun i j h1 h2 h3 h4 => ?_⟩
  rw [s3.out i (.inl h2)]
  have q : ∀ j, mid ≤ j → j < b → key d2[i]! ≤ key d2[j]! := fun j h3 h4 => by
    rw [s2.out j (.inr h3)]
    exact s2.all (P := fun x => key x ≤ key d1[j]!) (fun i p1 p2 => hc i j p1 p2 h3 h4) i h1 h2
  exact s3.all (P := fun y => key d2[i]! ≤ key y) q j h3 h4

/-- One ahead of a sorted part, put where it belongs. -/
theorem insert_left {a b i : Nat} {d d1 : Array α} (h : IsRot a (a + 1) i d d1) (hi : a + 1 ≤ i) (hib : i ≤ b) (h2 : Asc key (a + 1) b d) (hlo : ∀ h, a + 1 ≤ h → h < i → key d[h]! < key d[a]!)
    (hhi : ∀ h, i ≤ h → h < b → key d[a]! ≤ key d[h]!) : Stab key a b d d1 ∧ Asc key a b d1 := by
  have M := merge_step (key := key) (a := a) (b := b) h (Nat.le_refl _) (by omega) hi hib (fun p q p1 p2 p3 => by omega) h2 (fun p q p1 p2 => by omega) (fun p q p1 p2 q1 q2 => by
    obtain rfl : p = a := by omega
    exact hlo q q1 q2)
  have g := h.at_ (by omega) hi
  refine ⟨M.stab, asc_join (m := a + (i - (a + 1))) M.left1 (asc_join (m := i) M.right0 M.right1 fun p q p1 p2 q1 q2 => ?_) fun p q p1 p2 q1 q2 => M.cross p q p1 p2 q1 q2⟩
  rw [g p, g q, if_neg (by omega), if_neg (by omega), if_pos (by omega), if_neg (by omega), if_neg (by omega), if_neg (by omega)]
  rw [show a + (p - (a + (i - (a + 1)))) = a from by omega]
  exact hhi q q1 q2

/-- One behind a sorted part, put where it belongs. -/
theorem insert_right {a m i : Nat} {d d1 : Array α} (h : IsRot i m (m + 1) d d1) (hai : a ≤ i) (him : i ≤ m) (h1 : Asc key a m d) (hlo : ∀ h, a ≤ h → h < i → key d[h]! ≤ key d[m]!)
    (hhi : ∀ h, i ≤ h → h < m → key d[m]! < key d[h]!) : Stab key a (m + 1) d d1 ∧ Asc key a (m + 1) d1 := by
  have M := merge_step (key := key) (a := a) (b := m + 1) h hai him (by omega) (Nat.le_refl _) h1 (fun p q p1 p2 p3 => by omega) (fun p q p1 p2 p3 => by omega) (fun p q p1 p2 q1 q2 => by
    obtain rfl : q = m := by omega
    exact hhi p p1 p2)
  have g := h.at_ him (by omega)
  refine ⟨M.stab, asc_join (m := i + (m + 1 - m)) (asc_join (m := i) M.left0 M.left1 fun p q p1 p2 q1 q2 => ?_) M.right0 fun p q p1 p2 q1 q2 => M.cross p q p1 p2 q1 q2⟩
  rw [g p, g q, if_pos (by omega), if_neg (by omega), if_pos (by omega)]
  rw [show m + (q - i) = m from by omega]
  exact hlo p p1 p2

/-! ### The symmetric search -/
/-- Where the search of the symmetric merge may stop: a start s, what is ahead of it does not exceed its mirror, what is behind it does. -/
structure SymCut (key : α → Int) (a m b s : Nat) (d : Array α) : Prop where
  lo : a ≤ s
  hi : s ≤ m
  mirror : m + (a + b) / 2 - s ≤ b
  mirrorm : m ≤ m + (a + b) / 2 - s
  smid : s ≤ (a + b) / 2
  ahead : a < s → m + (a + b) / 2 - s < b → key d[s - 1]! ≤ key d[m + (a + b) / 2 - s]!
  behind : s < m → m < m + (a + b) / 2 - s → key d[m + (a + b) / 2 - s - 1]! < key d[s]!

theorem SymCut.step {a m b s : Nat} {d d1 : Array α} (h : SymCut key a m b s d) (h1 : Asc key a m d) (h2 : Asc key m b d) (hr : IsRot s m (m + (a + b) / 2 - s) d d1) : MergeStep key a s m (m + (a + b) / 2 - s) b d d1 := by
  obtain ⟨g1, g2, g3, g4, g5, g6, g7⟩ := h
  refine merge_step hr g1 g2 g4 g3 h1 h2 (fun i j p1 p2 q1 q2 => ?_) (fun i j p1 p2 q1 q2 => ?_)
  · have x := g6 (by omega) (by omega)
    have y := h1.le (i := i) (j := s - 1) p1 (by omega) (by omega)
    have z := h2.le (i := m + (a + b) / 2 - s) (j := j) g4 q1 q2
    omega
  · have x := g7 (by omega) (by omega)
    have y := h1.le (i := s) (j := i) g1 p1 p2
    have z := h2.le (i := j) (j := m + (a + b) / 2 - s - 1) q1 (by omega) (by omega)
    omega

/-! ### Runs -/
/-- From lo on, run by run of so many, sorted. -/
def Runs (key : α → Int) (bs lo hi : Nat) (d : Array α) : Prop := ∀ t i j, lo + t * bs ≤ i → i < j → j < lo + t * bs + bs → j < hi → key d[i]! ≤ key d[j]!

theorem Runs.first {bs lo hi : Nat} {d : Array α} (h : Runs key bs lo hi d) {m : Nat} (hm : m ≤ lo + bs) (hh : m ≤ hi) : Asc key lo m d := fun i j h1 h2 h3 => h 0 i j (by omega) h2 (by omega) (by omega)
theorem Runs.second {bs lo hi : Nat} {d : Array α} (h : Runs key bs lo hi d) {m : Nat} (hm : m ≤ lo + 2 * bs) (hh : m ≤ hi) : Asc key (lo + bs) m d := fun i j h1 h2 h3 => h 1 i j (by omega) h2 (by omega) (by omega)
theorem Runs.none_ (bs lo : Nat) (d : Array α) : Runs key bs lo lo d := fun t i j h1 h2 h3 h4 => by omega
theorem Runs.congr {bs lo hi : Nat} {d d' : Array α} (h : Runs key bs lo hi d) (e : ∀ i, lo ≤ i → i < hi → d'[i]! = d[i]!) : Runs key bs lo hi d' := fun t i j h1 h2 h3 h4 => by
  rw [e i (by omega) (by omega), e j (by omega) h4]; exact h t i j h1 h2 h3 h4
theorem Runs.behind {bs lo hi : Nat} {d : Array α} (h : Runs key bs lo hi d) : Runs key bs (lo + 2 * bs) hi d := fun t i j h1 h2 h3 h4 =>
  h (t + 2) i j (by rw [Nat.add_mul]; omega) h2 (by rw [Nat.add_mul]; omega) h4
theorem Runs.more {bs lo hi s : Nat} {d : Array α} (h : Runs key bs 0 lo d) (hlo : lo = s * bs) (h2 : Asc key lo hi d) (hh : lo ≤ hi) : Runs key bs 0 hi d := fun t i j p1 p2 p3 p4 => by
  by_cases c : t < s
  · have : t * bs + bs ≤ s * bs := by have := Nat.mul_le_mul_right bs (show t + 1 ≤ s from c); rwa [Nat.add_mul, Nat.one_mul] at this
    exact h t i j p1 p2 p3 (by omega)
  · have : s * bs ≤ t * bs := Nat.mul_le_mul_right bs (by omega)
    exact h2 i j (by omega) p2 p4
theorem Runs.whole {bs hi : Nat} {d : Array α} (h : Runs key bs 0 hi d) (hb : hi ≤ bs) : Asc key 0 hi d := h.first (by omega) (Nat.le_refl _)
theorem Runs.zero {bs lo hi : Nat} {d : Array α} (h : hi ≤ lo) : Runs key bs lo hi d := fun t i j h1 h2 h3 h4 => by omega
end Go.Proofs.Ytcamaikogengoaa
