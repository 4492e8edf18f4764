/- spec.Range says whether two numbers are the ends of a range; slices.Clone at numbers copies a list into new memory. -/
import Derived.Test.YtcamaikogengoaaBase1
import Derived.Test.YtcamaikogengoaaPlain1
import Derived.WalkSpells
namespace Go.Proofs.Ytcamaikogengoaa
set_option linter.unusedVariables false
set_option linter.unusedSimpArgs false
set_option linter.unusedSectionVars false
open Go.RowKit Go.Sort
/-- The ends of a range of a list. -/
def InRange (n : Nat) (a b : Int) : Prop := 0 ≤ a ∧ a ≤ b ∧ b ≤ n ∧ n ≤ 4096

theorem range_yes (A : Option Addr) (n cap : Nat) (a b : Int) (w : World) (h0 : 0 ≤ a) (h1 : a ≤ b) (h2 : b ≤ n) (h3 : n ≤ 4096) :
    Calls Try.prog 33 #[.slice A n cap, .int .i64 a, .int .i64 b] w fun e w' => e = .returned (.bool true) ∧ w = w' := by
  have h3z : (n : Int) ≤ 4096 := by omega
  go_enter Try.func33, Try.ntmps33
  go_wp2
  go_ret
  exact ⟨rfl, rfl⟩

theorem range_no (A : Option Addr) (n cap : Nat) (a b : Int) (w : World) (h : ¬ InRange n a b) :
    Calls Try.prog 33 #[.slice A n cap, .int .i64 a, .int .i64 b] w fun e w' => e = .returned (.bool false) ∧ w = w' := by
  unfold InRange at h
  by_cases h0 : 0 ≤ a
  · by_cases h1 : a ≤ b
    · by_cases h2 : b ≤ n
      · have h3 : ¬ (n : Int) ≤ 4096 := by omega
        clear h
        go_enter Try.func33, Try.ntmps33
        go_wp2
        go_ret
        exact ⟨rfl, rfl⟩
      · clear h
        go_enter Try.func33, Try.ntmps33
        go_wp2
        go_ret
        exact ⟨rfl, rfl⟩
    · clear h
      go_enter Try.func33, Try.ntmps33
      go_wp2
      go_ret
      exact ⟨rfl, rfl⟩
  · clear h
    go_enter Try.func33, Try.ntmps33
    go_wp2
    go_ret
    exact ⟨rfl, rfl⟩

set_option maxHeartbeats 400000 in
theorem Clone_at (v : Value) (d : Array Int) (w : World) (h : SlAt HI 0 w v d) (hn : d.size ≤ 2147483647) :
    Calls Try.prog 40 #[v] w fun e w' => ∃ v', e = .returned v' ∧ SlAt HI w.heap.size w' v' d ∧ RowKit.Below w.heap.size w w' := by
  obtain ⟨A, cap, rfl, hcp, hh⟩ := h
  rcases A with _ | ad
  · have hz : d.size = 0 := by
      rcases Nat.eq_zero_or_pos d.size with h | h
      · exact h
      · obtain ⟨_, _, h, _⟩ := hh h; cases h
    have hnil : (binOp .eql 27 (.slice none d.size cap) (.slice none 0 0)).run Try.prog w = .ok (.bool true) w := Lib.run_eql_slice_nil w 27 3 none d.size cap 0 0 Try.underlying27
    have HZ : Hid (d.size = 0) := hz
    clear hh hz
    go_enter Try.func40, Try.ntmps40
    go_wp2
    go_ret
    exact ⟨_, rfl, SlAt.none_ HZ.out _ _ _ (Nat.zero_le _), RowKit.Below.refl _ _⟩
  · have hr : Reads (w.alloc (.cells #[] 3)) w.heap.size 1 (some ad) d.size (d.toList.map (Value.int .i64)) := (reads_ints (B := 0) (cap := cap) ⟨some ad, cap, rfl, hcp, hh⟩ (Nat.le_refl _)).alloc (Nat.le_refl _) _
    have ho : (w.alloc (.cells #[] 3)).ownsRow w.heap.size 3 1 (.slice (some ⟨w.heap.size, 0, none⟩) 0 0) 0 [] := World.ownsRow_made w #[] 0 (Nat.le_refl _) (by simp [maxLen]) rfl
    have hnil : (binOp .eql 27 (.slice (some ad) d.size cap) (.slice none 0 0)).run Try.prog w = .ok (.bool false) w := Lib.run_eql_slice_nil w 27 3 (some ad) d.size cap 0 0 Try.underlying27
    obtain ⟨i0, hi0, hz0, hz1, hz2⟩ := info_parts int_info
    clear hh
    go_enter Try.func40, Try.ntmps40
    go_wp2_with (first
      | (at_builtin
         refine wpList_append_any _ rfl (.tmp 5) (.tmp 6) _ rfl w.heap.size 3 i0 _ 1 8 Try.underlying27 hi0 hz0 hz1 hz2 rfl (by omega) (.slice (some ⟨w.heap.size, 0, none⟩) 0 0) 0 [] rfl
           ho w.heap.size (some ad) d.size cap _ rfl hr (one_ints _) (by simp only [maxLen]; omega) (by omega) (by simp) ?_
         intro v1 w1 hown1 hg1 hat1
         have hb1 : RowKit.Below w.heap.size w w1 := ((RowKit.Below.refl w.heap.size w).alloc (Nat.le_refl _) _).grown hg1 (by simp) (by simp [Value.ownBlock])
         have hs1 : SlAt HI w.heap.size w1 v1 d := ints_of_own (by rw [List.nil_append] at hown1; exact hown1)
         clear hown1 hg1 hat1))
    go_ret
    exact ⟨v1, rfl, hs1, hb1⟩
end Go.Proofs.Ytcamaikogengoaa
