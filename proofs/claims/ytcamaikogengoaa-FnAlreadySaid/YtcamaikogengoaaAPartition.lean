/- Partition in place at numbers, and the wrappers that copy and work in place. -/
import Derived.Test.YtcamaikogengoaaBase1
import Derived.Test.YtcamaikogengoaaWPart
namespace Go.Proofs.Ytcamaikogengoaa
set_option linter.unusedVariables false
set_option linter.unusedSimpArgs false
set_option linter.unusedSectionVars false
open Go.RowKit Go.Sort

theorem Partition_in (B : Nat) (v : Value) (d : Array Int) (a b pivot : Nat) (w : World) (h : SlAt HI B w v d) (hB : B ≤ w.heap.size) (hap : a ≤ pivot) (hpb : pivot < b) (hb : b ≤ d.size) (hsz : d.size ≤ 2147483647) :
    Calls Try.prog 121 #[v, .int .i64 a, .int .i64 b, .int .i64 pivot] w fun e w' => e = .returned (.tuple #[.int .i64 (Sort.partition Sort.ltInt d a b pivot).1, .bool (Sort.partition Sort.ltInt d a b pivot).2.1]) ∧ SlAt HI B w' v ((Sort.partition Sort.ltInt d a b pivot).2.2) ∧ RowKit.Below B w w' := by
  have hz : ((Sort.partition Sort.ltInt d a b pivot).2.2).size = d.size := (partition_holds ltInt swo_ltInt d a b pivot hap hpb hb).2.2.1.1
  obtain ⟨A, cap, rfl, hcp, hh⟩ := h
  obtain ⟨bk, off, rfl, h1, h2, h3⟩ := hh (by omega)
  refine (partitionOrdered_int bk off cap a b pivot d w h3 hap hpb hb (by omega)).mono fun e w' ⟨he, hw⟩ => ?_
  have := at_of_put (cap := cap) h3 h1 h2 hB hz hcp rfl hw
  exact ⟨he, this.1, this.2⟩

set_option maxRecDepth 100000 in
set_option maxHeartbeats 800000 in
theorem Partition_wrap (v : Value) (d : Array Int) (a b pivot : Nat) (w : World) (h : SlAt HI 0 w v d) (hap : a ≤ pivot) (hpb : pivot < b) (hb : b ≤ d.size) (hn : d.size ≤ 2147483647) :
    Calls Try.prog 93 #[v, .int .i64 a, .int .i64 b, .int .i64 pivot] w fun e w' => ∃ v', e = .returned (.tuple #[v', .int .i64 (Sort.partition Sort.ltInt d a b pivot).1, .bool (Sort.partition Sort.ltInt d a b pivot).2.1]) ∧ SlAt HI w.heap.size w' v' ((Sort.partition Sort.ltInt d a b pivot).2.2) ∧ RowKit.Below w.heap.size w w' := by
  have C := Lib.hid (fun v1 W h1 h2 => Partition_in w.heap.size v1 d a b pivot W h1 h2 hap hpb hb hn)
  go_enter Try.func93, Try.ntmps93
  go_wp2_with fail
  refine (clone_at v d _ h hn).mono ?_
  rintro e w1 ⟨v1, rfl, hs1, hb1⟩
  go_wp2_with fail
  refine (C.out _ _ hs1 hb1.size).mono ?_
  rintro e w2 ⟨rfl, hs2, hb2⟩
  go_wp2
  go_ret3
  exact ⟨v1, rfl, hs2, hb1.trans hb2⟩

set_option maxRecDepth 100000 in
set_option maxHeartbeats 800000 in
theorem Partition_impl (v : Value) (d : Array Int) (a b pivot : Nat) (w : World) (h : SlAt HI 0 w v d) (hap : a ≤ pivot) (hpb : pivot < b) (hb : b ≤ d.size) (hn : d.size ≤ 2147483647) :
    Calls Try.prog 65 #[v, .int .i64 a, .int .i64 b, .int .i64 pivot] w fun e w' => ∃ v', e = .returned (.tuple #[v', .int .i64 (Sort.partition Sort.ltInt d a b pivot).1, .bool (Sort.partition Sort.ltInt d a b pivot).2.1]) ∧ SlAt HI w.heap.size w' v' ((Sort.partition Sort.ltInt d a b pivot).2.2) ∧ RowKit.Below w.heap.size w w' := by
  obtain ⟨A, cap, rfl, hcp, hh⟩ := h
  have hr : Reads (w.alloc (.cells #[] 3)) w.heap.size 1 A d.size (d.toList.map (Value.int .i64)) := (reads_ints (B := 0) (cap := cap) ⟨A, cap, rfl, hcp, hh⟩ (Nat.le_refl _)).alloc (Nat.le_refl _) _
  have ho : (w.alloc (.cells #[] 3)).ownsRow w.heap.size 3 1 (.slice (some ⟨w.heap.size, 0, none⟩) 0 0) 0 [] := World.ownsRow_made w #[] 0 (Nat.le_refl _) (by simp [maxLen]) rfl
  obtain ⟨i0, hi0, hz0, hz1, hz2⟩ := info_parts int_info
  clear hh
  have C := Lib.hid (fun v1 W h1 => Partition_wrap v1 d a b pivot W h1 hap hpb hb hn)
  go_enter Try.func65, Try.ntmps65
  go_wp2_with (first
    | (at_builtin
       refine wpList_append_any _ rfl (.tmp 11) (.tmp 12) _ rfl w.heap.size 3 i0 _ 1 8 Try.underlying27 hi0 hz0 hz1 hz2 rfl (by omega) (.slice (some ⟨w.heap.size, 0, none⟩) 0 0) 0 [] rfl
         ho w.heap.size A d.size cap _ rfl hr (one_ints _) (by simp only [maxLen]; omega) (by omega) (by simp) ?_
       intro v1 w1 hown1 hg1 hat1
       have hb1 : RowKit.Below w.heap.size w w1 := ((RowKit.Below.refl w.heap.size w).alloc (Nat.le_refl _) _).grown hg1 (by simp) (by simp [Value.ownBlock])
       have hs1 : SlAt HI w.heap.size w1 v1 d := ints_of_own (by rw [List.nil_append] at hown1; exact hown1)
       clear hown1 hg1 hat1)
    | (go_at_call 93; refine (C.out _ _ hs1.any).mono ?_; rintro e w2 ⟨v2, rfl, hs2, hb2⟩))
  go_ret3
  exact ⟨v2, rfl, hs2.mono hb1.size, hb1.trans (hb2.mono hb1.size)⟩

end Go.Proofs.Ytcamaikogengoaa
