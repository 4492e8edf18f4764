/- slices.Grow and slices.Concat at items: four lists joined in new memory. -/
import Derived.Test.YtcamaikogengoaaItWords
import Derived.Test.YtcamaikogengoaaIntCut
import Derived.Shelf.Spec.SlicesGrow
import Derived.Lib.Hide
namespace Go.Proofs.Ytcamaikogengoaa
set_option linter.unusedVariables false
set_option linter.unusedSimpArgs false
set_option linter.unusedSectionVars false
open Go.RowKit Go.Sort Go.Shelf

/-- This program's numbers of what slices.Grow reaches at items. -/
def renT : Ren := ⟨fun _ => 98, fun n => match n with | 20 => 20 | 22 => 39 | 25 => 50 | n => n, fun n => n⟩
theorem growsT : Lays8.n4 Try.prog renT where
  mixed := by kernel_rfl
  f4 := ⟨Try.f98.name, by kernel_rfl, by kernel_rfl⟩
  t0 := by kernel_rfl
  a0 := fun _ => by kernel_rfl
  z0 := fun _ => by kernel_rfl
  v0 := fun _ => by kernel_rfl
  t3 := by kernel_rfl
  a3 := fun _ => by kernel_rfl
  z3 := fun _ => by kernel_rfl
  v3 := fun _ => by kernel_rfl
  t4 := by kernel_rfl
  a4 := fun _ => by kernel_rfl
  z4 := fun _ => by kernel_rfl
  v4 := fun _ => by kernel_rfl
  t9 := by kernel_rfl
  a9 := fun _ => by kernel_rfl
  z9 := fun _ => by kernel_rfl
  v9 := fun _ => by kernel_rfl
  t20 := by kernel_rfl
  a20 := fun _ => by kernel_rfl
  z20 := fun _ => by kernel_rfl
  v20 := fun _ => by kernel_rfl
  t22 := by kernel_rfl
  a22 := fun _ => by kernel_rfl
  z22 := fun _ => by kernel_rfl
  v22 := fun _ => by kernel_rfl

/-- Room for n elements, out of nothing. -/
theorem growT (n : Nat) (w : World) (hn : n ≤ 2147483647) :
    Calls Try.prog 98 #[.slice none 0 0, .int .i64 n] w fun e w' => ∃ v', e = .returned v' ∧ w'.ownsRow w.heap.size 50 2 v' 0 [] ∧ RowKit.Below w.heap.size w w' := by
  rcases Nat.eq_zero_or_pos n with h0 | h0
  · subst h0
    refine (Any8.slices_Grow_room growsT none 0 0 0 w (Nat.le_refl _) (by omega) (by omega) (Nat.le_refl _)).mono ?_
    rintro e w' ⟨rfl, rfl⟩
    exact ⟨_, rfl, World.ownsRow_nil _ _ _ _, RowKit.Below.refl _ _⟩
  · obtain ⟨i0, hi0, hz0, hz1, hz2⟩ := info_parts item_info
    refine (Any8.slices_Grow_grow growsT i0 _ hi0 hz0 (by omega) none 0 0 n [] w (Nat.le_refl _) (by omega) (by rw [hz2]; omega) (by omega) (by simp) (fun _ => rfl) (fun a h => by cases h)).mono ?_
    rintro e w' ⟨rfl, rfl⟩
    have hb : RowKit.Below w.heap.size w w.drew := below_drewN (RowKit.Below.refl _ _) 1
    have hg := grownCap_ge w (0 + n) 0 (renT.t 25)
    refine ⟨_, rfl, World.ownsRow_made w.drew _ _ (Nat.le_refl _) (grownCap_le_maxLen w _ _ _ (by unfold maxLen; omega)) ?_, hb.alloc (Nat.le_refl _) _⟩
    simp only [Array.size_append, size_zeroCells, List.size_toArray, List.length_nil]
    show 0 + (0 + n - 0) * 2 + (grownCap w (0 + n) 0 (renT.t 25) - (0 + n)) * 2 = grownCap w (0 + n) 0 (renT.t 25) * 2
    omega

/-- The first k lists, joined. -/
def catT (D : Nat → Array It) : Nat → Array It
  | 0 => #[]
  | k + 1 => catT D k ++ D k
theorem catT_size (D : Nat → Array It) (k : Nat) : (catT D (k + 1)).size = (catT D k).size + (D k).size := by show (catT D k ++ D k).size = _; simp
theorem catT_cells (D : Nat → Array It) (k : Nat) : (catT D (k + 1)).toList.flatMap encIt = (catT D k).toList.flatMap encIt ++ (D k).toList.flatMap encIt := by
  show (catT D k ++ D k).toList.flatMap encIt = _
  simp
theorem catT_le (D : Nat → Array It) {j k : Nat} (h : j ≤ k) : (catT D j).size ≤ (catT D k).size := by
  induction h with
  | refl => exact Nat.le_refl _
  | step _ ih => rw [catT_size]; omega

set_option maxHeartbeats 2000000 in
set_option maxRecDepth 100000 in
theorem concatT (A : Nat → Option Addr) (c : Nat → Nat) (D : Nat → Array It) (bk : Nat) (w : World) (hbk : bk < w.heap.size) (hc : ∀ j, j < 4 → w.cell? ⟨bk, j, none⟩ = some (.slice (A j) (D j).size (c j)))
    (hS : ∀ j, j < 4 → SlAt HT 0 w (.slice (A j) (D j).size (c j)) (D j)) (hn : (catT D 4).size ≤ 2147483647) :
    Calls Try.prog 70 #[.slice (some ⟨bk, 0, none⟩) 4 4] w (Copied HT w (catT D 4)) := by
  obtain ⟨i0, hi0, hz0, hz1, hz2⟩ := info_parts item_info
  have HC := Lib.hid hc
  have HS := Lib.hid hS
  have HN := Lib.hid hn
  clear hc hS hn
  go_enter Try.func70, Try.ntmps70
  go_wp2
  go_loop [3, 11] (fun v3 vi => ∃ k : Nat, vi = .int .i64 k ∧ k ≤ 4 ∧ v3 = .int .i64 (catT D k).size) (fun _ vi => 4 - (intOf vi).toNat)
  case atStart => exact ⟨0, rfl, by omega, rfl⟩
  case round =>
    obtain ⟨k, rfl, hk, rfl⟩ := hrel
    by_cases hlt : k < 4
    · have hltz : (k : Int) < 4 := by omega
      have k1 := HC.out k hlt
      obtain ⟨t, ht⟩ : ∃ t, t = (catT D k).size := ⟨_, rfl⟩
      obtain ⟨s, hs⟩ : ∃ s, s = (D k).size := ⟨_, rfl⟩
      have hts : t + s ≤ 2147483647 := by
        have := catT_le D (show k + 1 ≤ 4 from hlt)
        rw [catT_size] at this
        have := HN.out
        omega
      have HT := Lib.hid ht
      have HSz := Lib.hid hs
      rw [← ht]
      rw [← hs] at k1
      clear ht hs
      have hz : (0 : Int) ≤ (t : Int) + (s : Int) := by omega
      have hz3 : ¬ (t : Int) + (s : Int) < 0 := by omega
      go_wp2
      go_round
      case rel =>
        refine ⟨k + 1, by go_num, by omega, ?_⟩
        rw [catT_size, ← HT.out, ← HSz.out]
        go_num
      case measure => simp [intOf]; omega
    · have hltz : ¬ (k : Int) < 4 := by omega
      obtain rfl : k = 4 := by omega
      obtain ⟨t, ht⟩ : ∃ t, t = (catT D 4).size := ⟨_, rfl⟩
      have HT := Lib.hid ht
      rw [← ht]
      have htn : t ≤ 2147483647 := by rw [ht]; exact HN.out
      clear ht
      go_wp2_with (first | (go_at_call 98; refine (growT t _ htn).mono ?_; rintro e w1 ⟨v1, rfl, hown1, hb1⟩))
      go_loopw [6, 27] (fun v6 vi wr => ∃ k : Nat, vi = .int .i64 k ∧ k ≤ 4 ∧ wr.ownsRow w.heap.size 50 2 v6 (catT D k).size ((catT D k).toList.flatMap encIt) ∧ RowKit.Below w.heap.size w wr) (fun _ vi _ => 4 - (intOf vi).toNat)
      case atStart => exact ⟨0, rfl, by omega, hown1, hb1⟩
      case round =>
        clear hown1
        obtain ⟨k, rfl, hk, hown, hb⟩ := hrel
        by_cases hlt2 : k < 4
        · have hltz2 : (k : Int) < 4 := by omega
          have k1 := HC.out k hlt2
          rw [← hb.cell (p := ⟨bk, k, none⟩) hbk] at k1
          obtain ⟨s, hs⟩ : ∃ s, s = (D k).size := ⟨_, rfl⟩
          obtain ⟨t2, ht2⟩ : ∃ t, t = (catT D k).size := ⟨_, rfl⟩
          have hts : t2 + s ≤ 2147483647 := by
            have := catT_le D (show k + 1 ≤ 4 from hlt2)
            rw [catT_size] at this
            have := HN.out
            omega
          have hr : Reads wr wr.heap.size 2 (A k) s ((D k).toList.flatMap encIt) := by
            have := keepT (HS.out k hlt2) hb
            rw [hs]
            exact reads_items (B := 0) (cap := c k) this (Nat.le_refl _)
          rw [← hs] at k1
          rw [← ht2] at hown
          have HR := Lib.hid hr
          have HO := Lib.hid hown
          have HSz := Lib.hid hs
          have HT2 := Lib.hid ht2
          obtain ⟨Ak, hAk⟩ : ∃ X, X = A k := ⟨_, rfl⟩
          obtain ⟨ck, hck⟩ : ∃ X, X = c k := ⟨_, rfl⟩
          rw [← hAk, ← hck] at k1
          have HA := Lib.hid hAk
          have hR2 : Reads wr wr.heap.size 2 Ak s ((D k).toList.flatMap encIt) := by rw [hAk]; exact hr
          have HR2 := Lib.hid hR2
          clear hr hown hs ht2 hAk hck hR2
          go_wp2_with (first
            | (at_builtin
               refine wpList_append_any _ rfl (.tmp 31) (.tmp 32) _ rfl w.heap.size 50 i0 _ 2 16 Try.underlying39 hi0 hz0 hz1 hz2 rfl (by omega) _ t2 _ rfl HO.out wr.heap.size Ak s ck _ rfl HR2.out (one_items _) (by simp only [maxLen]; omega) (by omega) hb.size ?_
               intro v2 w2 hown2 hg2 hat2))
          go_roundw
          case rel =>
            refine ⟨k + 1, by go_num, by omega, ?_, hb.grown hg2 hb.size fun q hq => (HO.out.lt q hq).1⟩
            rw [catT_cells, catT_size, ← HT2.out, ← HSz.out]
            exact hown2
          case measure => simp [intOf]; omega
        · have hltz2 : ¬ (k : Int) < 4 := by omega
          obtain rfl : k = 4 := by omega
          have HO := Lib.hid hown
          clear hown
          go_wp2
          go_ret
          exact ⟨_, rfl, items_of_own HO.out, hb⟩
end Go.Proofs.Ytcamaikogengoaa
