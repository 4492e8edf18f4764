/- rotate in place at numbers, and the wrappers that copy, work in place and return (Rotate, impl.Rotate). -/
import Derived.Test.YtcamaikogengoaaBase1
import Derived.Test.YtcamaikogengoaaWSwap
namespace Go.Proofs.Ytcamaikogengoaa
set_option linter.unusedVariables false
set_option linter.unusedSimpArgs false
set_option linter.unusedSectionVars false
open Go.RowKit Go.Sort


theorem rotate_at (B : Nat) (v : Value) (d : Array Int) (a m b : Nat) (w : World) (h : SlAt HI B w v d) (hB : B ≤ w.heap.size) (ham : a < m) (hmb : m < b) (hb : b ≤ d.size) (hsz : d.size ≤ 2147483647) :
    Calls Try.prog 117 #[v, .int .i64 a, .int .i64 m, .int .i64 b] w (Placed HI B w v (rotate d a m b)) := by
  have hz : (rotate d a m b).size = d.size := (rotate_spec ham hmb hb).size
  obtain ⟨A, cap, rfl, hcp, hh⟩ := h
  have h0 : 0 < d.size := by omega
  obtain ⟨bk, off, rfl, h1, h2, h3⟩ := hh h0
  refine (rotate_int bk off cap a m b d w h3 ham hmb hb (by omega)).mono fun e w' ⟨he, hw⟩ => ?_
  have := at_of_put (cap := cap) h3 h1 h2 hB hz hcp rfl hw
  exact ⟨he, this.1, this.2⟩

set_option maxHeartbeats 400000 in
theorem Rotate_at (v : Value) (d : Array Int) (a m b : Nat) (w : World) (h : SlAt HI 0 w v d) (ham : a < m) (hmb : m < b) (hb : b ≤ d.size) (hn : d.size ≤ 2147483647) :
    Calls Try.prog 88 #[v, .int .i64 a, .int .i64 m, .int .i64 b] w fun e w' => ∃ v', e = .returned v' ∧ SlAt HI w.heap.size w' v' (rotate d a m b) ∧ RowKit.Below w.heap.size w w' := by
  go_enter Try.func88, Try.ntmps88
  go_wp2_with (first | (go_at_call 103; refine (clone_at v d _ h hn).mono ?_; rintro e w1 ⟨v1, rfl, hs1, hb1⟩))
  go_wp2_with (first | (go_at_call 117; refine (rotate_at w.heap.size v1 d a m b _ hs1 hb1.size ham hmb hb hn).mono ?_; rintro e w2 ⟨rfl, hs2, hb2⟩))
  go_ret
  exact ⟨v1, rfl, hs2, hb1.trans hb2⟩

set_option maxHeartbeats 400000 in
theorem Rotate_impl (v : Value) (d : Array Int) (a m b : Nat) (w : World) (h : SlAt HI 0 w v d) (ham : a < m) (hmb : m < b) (hb : b ≤ d.size) (hn : d.size ≤ 2147483647) :
    Calls Try.prog 58 #[v, .int .i64 a, .int .i64 m, .int .i64 b] w fun e w' => ∃ v', e = .returned v' ∧ SlAt HI w.heap.size w' v' (rotate d a m b) ∧ RowKit.Below w.heap.size w w' := by
  obtain ⟨A, cap, rfl, hcp, hh⟩ := h
  have hr : Reads (w.alloc (.cells #[] 3)) w.heap.size 1 A d.size (d.toList.map (Value.int .i64)) := (reads_ints (B := 0) (cap := cap) ⟨A, cap, rfl, hcp, hh⟩ (Nat.le_refl _)).alloc (Nat.le_refl _) _
  have ho : (w.alloc (.cells #[] 3)).ownsRow w.heap.size 3 1 (.slice (some ⟨w.heap.size, 0, none⟩) 0 0) 0 [] := World.ownsRow_made w #[] 0 (Nat.le_refl _) (by simp [maxLen]) rfl
  obtain ⟨i0, hi0, hz0, hz1, hz2⟩ := info_parts int_info
  clear hh
  go_enter Try.func58, Try.ntmps58
  go_wp2_with (first
    | (at_builtin
       refine wpList_append_any _ rfl (.tmp 9) (.tmp 10) _ rfl w.heap.size 3 i0 _ 1 8 Try.underlying27 hi0 hz0 hz1 hz2 rfl (by omega) (.slice (some ⟨w.heap.size, 0, none⟩) 0 0) 0 [] rfl
         ho w.heap.size A d.size cap _ rfl hr (one_ints _) (by simp only [maxLen]; omega) (by omega) (by simp) ?_
       intro v1 w1 hown1 hg1 hat1
       have hb1 : RowKit.Below w.heap.size w w1 := ((RowKit.Below.refl w.heap.size w).alloc (Nat.le_refl _) _).grown hg1 (by simp) (by simp [Value.ownBlock])
       have hs1 : SlAt HI w.heap.size w1 v1 d := ints_of_own (by rw [List.nil_append] at hown1; exact hown1)
       clear hown1 hg1 hat1)
    | (go_at_call 88; refine (Rotate_at v1 d a m b _ hs1.any ham hmb hb hn).mono ?_; rintro e w2 ⟨v2, rfl, hs2, hb2⟩))
  go_ret
  exact ⟨v2, rfl, hs2.mono hb1.size, hb1.trans (hb2.mono hb1.size)⟩

end Go.Proofs.Ytcamaikogengoaa
