/- Median with its counter: the wrappers. -/
import Derived.Test.YtcamaikogengoaaBase1
import Derived.Test.YtcamaikogengoaaWMed
namespace Go.Proofs.Ytcamaikogengoaa
set_option linter.unusedVariables false
set_option linter.unusedSimpArgs false
set_option linter.unusedSectionVars false
open Go.RowKit Go.Sort

set_option maxRecDepth 100000 in
set_option maxHeartbeats 1000000 in
theorem Median_wrap (v : Value) (d : Array Int) (a b c : Nat) (w : World) (h : SlAt HI 0 w v d) (ha : a < d.size) (hb : b < d.size) (hc : c < d.size) (hn : d.size ≤ 2147483647) :
    Calls Try.prog 74 #[v, .int .i64 a, .int .i64 b, .int .i64 c] w fun e w' => ∃ s, e = .returned (.tuple #[.int .i64 (median ltInt d a b c 0).1, s]) ∧ RowKit.Below w.heap.size w w' := by
  obtain ⟨p, hp⟩ : ∃ p, (median ltInt d a b c 0).1 = p := ⟨_, rfl⟩
  obtain ⟨s, hs⟩ : ∃ s, (median ltInt d a b c 0).2 = s := ⟨_, rfl⟩
  have MD := Lib.hid (fun blk off cap sb w => median_int d d.size rfl blk off cap a b c sb 0 0 w)
  have HP := Lib.hid hp
  have HS := Lib.hid hs
  rw [hp]
  clear hp hs
  go_enter Try.func74, Try.ntmps74
  go_wp2_with fail
  have hb0 : RowKit.Below w.heap.size w (w.alloc (.cells #[.int .i64 0] 3)) := (RowKit.Below.refl _ _).alloc (Nat.le_refl _) _
  have hS0 : Holds (Value.int .i64) (w.alloc (.cells #[.int .i64 0] 3)) w.heap.size 0 (one 0) := fun j hj => by
    obtain rfl : j = 0 := by simpa using hj
    simp
  have hlt0 : w.heap.size < (w.alloc (.cells #[.int .i64 0] 3)).heap.size := by simp
  generalize (w.alloc (.cells #[.int .i64 0] 3)) = W0 at hb0 hS0 hlt0 ⊢
  refine (clone_at v d _ (keepI h hb0) hn).mono ?_
  rintro e w1 ⟨v1, rfl, hs1, hb1⟩
  obtain ⟨A1, cap1, rfl, _, hh1⟩ := hs1
  obtain ⟨bk, off, rfl, f1, f2, hH⟩ := hh1 (by omega)
  have hS1 : Holds (Value.int .i64) w1 w.heap.size 0 (one 0) := fun j hj => by
    have e1 := hS0 j hj
    exact ⟨by rw [hb1.cell (p := ⟨w.heap.size, 0 + j, none⟩) hlt0]; exact e1.1, by rw [hb1.frozen (p := ⟨w.heap.size, 0 + j, none⟩) hlt0]; exact e1.2⟩
  have c2 := (MD.out bk off cap1 w.heap.size w1 hH ha hb hc (by omega) hS1 (by omega))
  rw [HP.out, HS.out] at c2
  have C2 := Lib.hid c2
  have hbk : RowKit.Below w.heap.size w w1 := hb0.trans (hb1.mono hb0.size)
  clear c2 hS0 hb0 hh1
  go_wp2_with fail
  refine C2.out.mono ?_
  rintro e w2 ⟨rfl, n, hw2⟩
  have k2 : w2.cell? ⟨w.heap.size, 0, none⟩ = some (.int .i64 (s : Int)) := by rw [hw2]; exact (one_cell (holds_one (n := n) (t := s) hS1)).1
  have hb2 : RowKit.Below w.heap.size w1 w2 := at_below (enc := Value.int .i64) (b := w.heap.size) (off := 0) (d := one s) ⟨n, #[], by rw [grow_empty]; exact hw2⟩ (Nat.le_refl _) hbk.size
  clear hw2
  go_wp2_with fail
  go_quiet (fail)
  go_wp2
  go_ret2
  exact ⟨_, rfl, below_drewN (hbk.trans hb2) _⟩
set_option maxRecDepth 100000 in
set_option maxHeartbeats 800000 in
theorem Median_impl (v : Value) (d : Array Int) (a b c : Nat) (w : World) (h : SlAt HI 0 w v d) (ha : a < d.size) (hb : b < d.size) (hc : c < d.size) (hn : d.size ≤ 2147483647) :
    Calls Try.prog 32 #[v, .int .i64 a, .int .i64 b, .int .i64 c] w fun e w' => ∃ s, e = .returned (.tuple #[.int .i64 (median ltInt d a b c 0).1, s]) ∧ RowKit.Below w.heap.size w w' := by
  obtain ⟨A, cap, rfl, hcp, hh⟩ := h
  have hr : Reads (w.alloc (.cells #[] 3)) w.heap.size 1 A d.size (d.toList.map (Value.int .i64)) := (reads_ints (B := 0) (cap := cap) ⟨A, cap, rfl, hcp, hh⟩ (Nat.le_refl _)).alloc (Nat.le_refl _) _
  have ho : (w.alloc (.cells #[] 3)).ownsRow w.heap.size 3 1 (.slice (some ⟨w.heap.size, 0, none⟩) 0 0) 0 [] := World.ownsRow_made w #[] 0 (Nat.le_refl _) (by simp [maxLen]) rfl
  obtain ⟨i0, hi0, hz0, hz1, hz2⟩ := info_parts int_info
  clear hh
  have C := Lib.hid (fun v1 W h1 => Median_wrap v1 d a b c W h1 ha hb hc hn)
  go_enter Try.func32, Try.ntmps32
  go_wp2_with (first
    | (at_builtin
       refine wpList_append_any _ rfl (.tmp 10) (.tmp 11) _ rfl w.heap.size 3 i0 _ 1 8 Try.underlying27 hi0 hz0 hz1 hz2 rfl (by omega) (.slice (some ⟨w.heap.size, 0, none⟩) 0 0) 0 [] rfl
         ho w.heap.size A d.size cap _ rfl hr (one_ints _) (by simp only [maxLen]; omega) (by omega) (by simp) ?_
       intro v1 w1 hown1 hg1 hat1
       have hb1 : RowKit.Below w.heap.size w w1 := ((RowKit.Below.refl w.heap.size w).alloc (Nat.le_refl _) _).grown hg1 (by simp) (by simp [Value.ownBlock])
       have hs1 : SlAt HI w.heap.size w1 v1 d := ints_of_own (by rw [List.nil_append] at hown1; exact hown1)
       clear hown1 hg1 hat1)
    | (go_at_call 74; refine (C.out _ _ hs1.any).mono ?_; rintro e w2 ⟨s, rfl, hb2⟩))
  go_ret2
  exact ⟨_, rfl, hb1.trans (hb2.mono hb1.size)⟩

end Go.Proofs.Ytcamaikogengoaa
