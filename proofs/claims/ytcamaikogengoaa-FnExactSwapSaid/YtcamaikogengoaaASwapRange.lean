/- swapRange in place at numbers, and the wrappers that copy, work in place and return (SwapRange, impl.SwapRange). -/
import Derived.Test.YtcamaikogengoaaBase1
import Derived.Test.YtcamaikogengoaaWSwap
namespace Go.Proofs.Ytcamaikogengoaa
set_option linter.unusedVariables false
set_option linter.unusedSimpArgs false
set_option linter.unusedSectionVars false
open Go.RowKit Go.Sort

theorem swapRange_nil (p : Option Addr) (cap : Nat) (w : World) :
    Calls Try.prog 107 #[.slice p 0 cap, .int .i64 0, .int .i64 0, .int .i64 0] w fun e w' => e = .returned (.tuple #[]) ∧ w' = w := by
  go_enter Try.func107, Try.ntmps107
  go_wp2
  refine wp_loop_rounds 1 ?_
  rw [rounds_succ]
  go_wp2
  go_end0
  exact ⟨rfl, rfl⟩

theorem swapRange_at (B : Nat) (v : Value) (d : Array Int) (a b n : Nat) (w : World) (h : SlAt HI B w v d) (hB : B ≤ w.heap.size) (hab : a + n ≤ b ∨ b + n ≤ a) (ha : a + n ≤ d.size) (hb : b + n ≤ d.size) (hsz : d.size ≤ 2147483647) :
    Calls Try.prog 107 #[v, .int .i64 a, .int .i64 b, .int .i64 n] w (Placed HI B w v (swapRange d a b n)) := by
  have hz : (swapRange d a b n).size = d.size := (swapRange_spec hab ha hb).1
  obtain ⟨A, cap, rfl, hcp, hh⟩ := h
  by_cases h0 : 0 < d.size
  · obtain ⟨bk, off, rfl, h1, h2, h3⟩ := hh h0
    refine (swapRange_int bk off cap a b n d w h3 hab ha hb (by omega)).mono fun e w' ⟨he, hw⟩ => ?_
    have := at_of_put (cap := cap) h3 h1 h2 hB hz hcp rfl hw
    exact ⟨he, this.1, this.2⟩
  · have ea : a = 0 := by omega
    have eb : b = 0 := by omega
    have en : n = 0 := by omega
    have e3 : d.size = 0 := by omega
    subst ea; subst eb; subst en
    rw [e3]
    refine (swapRange_nil A cap w).mono fun e w' ⟨he, hw⟩ => ?_
    subst hw
    exact ⟨he, SlAt.none_ (by rw [hz]; exact e3) _ _ _ hcp.2, RowKit.Below.refl _ _⟩

set_option maxHeartbeats 400000 in
theorem SwapRange_at (v : Value) (d : Array Int) (a b n : Nat) (w : World) (h : SlAt HI 0 w v d) (hab : a + n ≤ b ∨ b + n ≤ a) (ha : a + n ≤ d.size) (hb : b + n ≤ d.size) (hn : d.size ≤ 2147483647) :
    Calls Try.prog 78 #[v, .int .i64 a, .int .i64 b, .int .i64 n] w fun e w' => ∃ v', e = .returned v' ∧ SlAt HI w.heap.size w' v' (swapRange d a b n) ∧ RowKit.Below w.heap.size w w' := by
  go_enter Try.func78, Try.ntmps78
  go_wp2_with (first | (go_at_call 103; refine (clone_at v d _ h hn).mono ?_; rintro e w1 ⟨v1, rfl, hs1, hb1⟩))
  go_wp2_with (first | (go_at_call 107; refine (swapRange_at w.heap.size v1 d a b n _ hs1 hb1.size hab ha hb hn).mono ?_; rintro e w2 ⟨rfl, hs2, hb2⟩))
  go_ret
  exact ⟨v1, rfl, hs2, hb1.trans hb2⟩

set_option maxHeartbeats 400000 in
theorem SwapRange_impl (v : Value) (d : Array Int) (a b n : Nat) (w : World) (h : SlAt HI 0 w v d) (hab : a + n ≤ b ∨ b + n ≤ a) (ha : a + n ≤ d.size) (hb : b + n ≤ d.size) (hn : d.size ≤ 2147483647) :
    Calls Try.prog 41 #[v, .int .i64 a, .int .i64 b, .int .i64 n] w fun e w' => ∃ v', e = .returned v' ∧ SlAt HI w.heap.size w' v' (swapRange d a b n) ∧ RowKit.Below w.heap.size w w' := by
  obtain ⟨A, cap, rfl, hcp, hh⟩ := h
  have hr : Reads (w.alloc (.cells #[] 3)) w.heap.size 1 A d.size (d.toList.map (Value.int .i64)) := (reads_ints (B := 0) (cap := cap) ⟨A, cap, rfl, hcp, hh⟩ (Nat.le_refl _)).alloc (Nat.le_refl _) _
  have ho : (w.alloc (.cells #[] 3)).ownsRow w.heap.size 3 1 (.slice (some ⟨w.heap.size, 0, none⟩) 0 0) 0 [] := World.ownsRow_made w #[] 0 (Nat.le_refl _) (by simp [maxLen]) rfl
  obtain ⟨i0, hi0, hz0, hz1, hz2⟩ := info_parts int_info
  clear hh
  go_enter Try.func41, Try.ntmps41
  go_wp2_with (first
    | (at_builtin
       refine wpList_append_any _ rfl (.tmp 9) (.tmp 10) _ rfl w.heap.size 3 i0 _ 1 8 Try.underlying27 hi0 hz0 hz1 hz2 rfl (by omega) (.slice (some ⟨w.heap.size, 0, none⟩) 0 0) 0 [] rfl
         ho w.heap.size A d.size cap _ rfl hr (one_ints _) (by simp only [maxLen]; omega) (by omega) (by simp) ?_
       intro v1 w1 hown1 hg1 hat1
       have hb1 : RowKit.Below w.heap.size w w1 := ((RowKit.Below.refl w.heap.size w).alloc (Nat.le_refl _) _).grown hg1 (by simp) (by simp [Value.ownBlock])
       have hs1 : SlAt HI w.heap.size w1 v1 d := ints_of_own (by rw [List.nil_append] at hown1; exact hown1)
       clear hown1 hg1 hat1)
    | (go_at_call 78; refine (SwapRange_at v1 d a b n _ hs1.any hab ha hb hn).mono ?_; rintro e w2 ⟨v2, rfl, hs2, hb2⟩))
  go_ret
  exact ⟨v2, rfl, hs2.mono hb1.size, hb1.trans (hb2.mono hb1.size)⟩

end Go.Proofs.Ytcamaikogengoaa
