/- Copies of lists of items in new memory (clone, slices.Clone); the ends of a range of items. -/
import Derived.Test.YtcamaikogengoaaBase1
import Derived.Test.YtcamaikogengoaaIntClone
import Derived.WalkSpells
namespace Go.Proofs.Ytcamaikogengoaa
set_option linter.unusedVariables false
set_option linter.unusedSimpArgs false
set_option linter.unusedSectionVars false
open Go.RowKit Go.Sort

set_option maxHeartbeats 400000 in
theorem cloneItems_at (v : Value) (d : Array It) (w : World) (h : SlAt HT 0 w v d) (hn : d.size ≤ 2147483647) :
    Calls Try.prog 110 #[v] w (Copied HT w d) := by
  obtain ⟨A, cap, rfl, hcp, hh⟩ := h
  have hr : Reads w w.heap.size 2 A d.size (d.toList.flatMap encIt) := reads_items (B := 0) (cap := cap) ⟨A, cap, rfl, hcp, hh⟩ (Nat.le_refl _)
  obtain ⟨i0, hi0, hz0, hz1, hz2⟩ := info_parts sitem_info
  clear hh
  go_enter Try.func110, Try.ntmps110
  go_wp2_with (first
    | (at_builtin
       refine wpList_append_any _ rfl (.const (.slice none 0 0)) (.tmp 3) _ rfl w.heap.size 78 i0 _ 2 16 Try.underlying63 hi0 hz0 hz1 hz2 rfl (by omega) (.slice none 0 0) 0 [] rfl
         ⟨by simp, .inl ⟨rfl, rfl⟩⟩ w.heap.size A d.size cap _ rfl hr (one_items _) (by simp only [maxLen]; omega) (by omega) (Nat.le_refl _) ?_
       intro v1 w1 hown1 hg1 hat1))
  go_ret
  have hb : RowKit.Below w.heap.size w w1 := (RowKit.Below.refl _ _).grown hg1 (Nat.le_refl _) (by simp [Value.ownBlock])
  refine ⟨v1, rfl, ?_, hb⟩
  rw [List.nil_append] at hown1
  exact items_of_own hown1

set_option maxHeartbeats 400000 in
theorem CloneItems_at (v : Value) (d : Array It) (w : World) (h : SlAt HT 0 w v d) (hn : d.size ≤ 2147483647) :
    Calls Try.prog 89 #[v] w fun e w' => ∃ v', e = .returned v' ∧ SlAt HT w.heap.size w' v' d ∧ RowKit.Below w.heap.size w w' := by
  obtain ⟨A, cap, rfl, hcp, hh⟩ := h
  rcases A with _ | ad
  · have hz : d.size = 0 := by
      rcases Nat.eq_zero_or_pos d.size with h | h
      · exact h
      · obtain ⟨_, _, h, _⟩ := hh h; cases h
    have hnil : (binOp .eql 39 (.slice none d.size cap) (.slice none 0 0)).run Try.prog w = .ok (.bool true) w := Lib.run_eql_slice_nil w 39 50 none d.size cap 0 0 Try.underlying39
    have HZ : Hid (d.size = 0) := hz
    clear hh hz
    go_enter Try.func89, Try.ntmps89
    go_wp2
    go_ret
    exact ⟨_, rfl, SlAt.none_ HZ.out _ _ _ (Nat.zero_le _), RowKit.Below.refl _ _⟩
  · have hr : Reads (w.alloc (.cells #[] 50)) w.heap.size 2 (some ad) d.size (d.toList.flatMap encIt) := (reads_items (B := 0) (cap := cap) ⟨some ad, cap, rfl, hcp, hh⟩ (Nat.le_refl _)).alloc (Nat.le_refl _) _
    have ho : (w.alloc (.cells #[] 50)).ownsRow w.heap.size 50 2 (.slice (some ⟨w.heap.size, 0, none⟩) 0 0) 0 [] := World.ownsRow_made w #[] 0 (Nat.le_refl _) (by simp [maxLen]) rfl
    have hnil : (binOp .eql 39 (.slice (some ad) d.size cap) (.slice none 0 0)).run Try.prog w = .ok (.bool false) w := Lib.run_eql_slice_nil w 39 50 (some ad) d.size cap 0 0 Try.underlying39
    obtain ⟨i0, hi0, hz0, hz1, hz2⟩ := info_parts item_info
    clear hh
    go_enter Try.func89, Try.ntmps89
    go_wp2_with (first
      | (at_builtin
         refine wpList_append_any _ rfl (.tmp 5) (.tmp 6) _ rfl w.heap.size 50 i0 _ 2 16 Try.underlying39 hi0 hz0 hz1 hz2 rfl (by omega) (.slice (some ⟨w.heap.size, 0, none⟩) 0 0) 0 [] rfl
           ho w.heap.size (some ad) d.size cap _ rfl hr (one_items _) (by simp only [maxLen]; omega) (by omega) (by simp) ?_
         intro v1 w1 hown1 hg1 hat1
         have hb1 : RowKit.Below w.heap.size w w1 := ((RowKit.Below.refl w.heap.size w).alloc (Nat.le_refl _) _).grown hg1 (by simp) (by simp [Value.ownBlock])
         have hs1 : SlAt HT w.heap.size w1 v1 d := items_of_own (by rw [List.nil_append] at hown1; exact hown1)
         clear hown1 hg1 hat1))
    go_ret
    exact ⟨v1, rfl, hs1, hb1⟩

theorem itemRange_yes (A : Option Addr) (n cap : Nat) (a b : Int) (w : World) (h0 : 0 ≤ a) (h1 : a ≤ b) (h2 : b ≤ n) (h3 : n ≤ 4096) :
    Calls Try.prog 45 #[.slice A n cap, .int .i64 a, .int .i64 b] w fun e w' => e = .returned (.bool true) ∧ w = w' := by
  have h3z : (n : Int) ≤ 4096 := by omega
  go_enter Try.func45, Try.ntmps45
  go_wp2
  go_ret
  exact ⟨rfl, rfl⟩

theorem itemRange_no (A : Option Addr) (n cap : Nat) (a b : Int) (w : World) (h : ¬ InRange n a b) :
    Calls Try.prog 45 #[.slice A n cap, .int .i64 a, .int .i64 b] w fun e w' => e = .returned (.bool false) ∧ w = w' := by
  unfold InRange at h
  by_cases h0 : 0 ≤ a
  · by_cases h1 : a ≤ b
    · by_cases h2 : b ≤ n
      · have h3 : ¬ (n : Int) ≤ 4096 := by omega
        clear h
        go_enter Try.func45, Try.ntmps45
        go_wp2
        go_ret
        exact ⟨rfl, rfl⟩
      · clear h
        go_enter Try.func45, Try.ntmps45
        go_wp2
        go_ret
        exact ⟨rfl, rfl⟩
    · clear h
      go_enter Try.func45, Try.ntmps45
      go_wp2
      go_ret
      exact ⟨rfl, rfl⟩
  · clear h
    go_enter Try.func45, Try.ntmps45
    go_wp2
    go_ret
    exact ⟨rfl, rfl⟩
end Go.Proofs.Ytcamaikogengoaa
