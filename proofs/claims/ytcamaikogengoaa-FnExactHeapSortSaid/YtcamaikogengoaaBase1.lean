/- Contracts of the first small functions at numbers: a copy in new memory (clone, append), ranges, the comparison of two lists; sorting by insertion. -/
import Derived.Test.YtcamaikogengoaaWords
import Derived.Test.YtcamaikogengoaaWIns
import Derived.Deep.LoopGhost
import Derived.BigQuiet
import Derived.BigRegion
import Derived.Outline
import Derived.Lib.Hide
namespace Go.Proofs.Ytcamaikogengoaa
set_option linter.unusedVariables false
set_option linter.unusedSimpArgs false
set_option linter.unusedSectionVars false
open Go.RowKit Go.Sort

/-- What a copy asks and gives. -/
def Copied {α : Type} (HH : World → Nat → Nat → Array α → Prop) (w : World) (d : Array α) (e : Ending) (w' : World) : Prop :=
  ∃ v', e = .returned v' ∧ SlAt HH w.heap.size w' v' d ∧ RowKit.Below w.heap.size w w'

set_option maxHeartbeats 400000 in
theorem clone_at (v : Value) (d : Array Int) (w : World) (h : SlAt HI 0 w v d) (hn : d.size ≤ 2147483647) :
    Calls Try.prog 103 #[v] w (Copied HI w d) := by
  obtain ⟨A, cap, rfl, hcp, hh⟩ := h
  have hr : Reads w w.heap.size 1 A d.size (d.toList.map (Value.int .i64)) := reads_ints (B := 0) (cap := cap) ⟨A, cap, rfl, hcp, hh⟩ (Nat.le_refl _)
  obtain ⟨i0, hi0, hz0, hz1, hz2⟩ := info_parts int_info
  clear hh
  go_enter Try.func103, Try.ntmps103
  go_wp2_with (first
    | (at_builtin
       refine wpList_append_any _ rfl (.const (.slice none 0 0)) (.tmp 3) _ rfl w.heap.size 3 i0 _ 1 8 Try.underlying27 hi0 hz0 hz1 hz2 rfl (by omega) (.slice none 0 0) 0 [] rfl
         ⟨by simp, .inl ⟨rfl, rfl⟩⟩ w.heap.size A d.size cap _ rfl hr (one_ints _) (by simp only [maxLen]; omega) (by omega) (Nat.le_refl _) ?_
       intro v1 w1 hown1 hg1 hat1))
  go_ret
  have hb : RowKit.Below w.heap.size w w1 := (RowKit.Below.refl _ _).grown hg1 (Nat.le_refl _) (by simp [Value.ownBlock])
  refine ⟨v1, rfl, ?_, hb⟩
  rw [List.nil_append] at hown1
  exact ints_of_own hown1

/-- A row sorted in place, in memory of the call's own. -/
theorem at_of_put {B : Nat} {A : Option Addr} {cap : Nat} {W W' : World} {b off : Nat} {d d' : Array Int} (hH : HI W b off d) (hb : B ≤ b) (hlt : b < W.heap.size) (hB : B ≤ W.heap.size) (hs : d'.size = d.size) (hcp : d.size ≤ cap ∧ cap ≤ maxLen)
    (hA : A = some ⟨b, off, none⟩) (hw : ∃ n, W' = putRow (Value.int .i64) (Sort.ahead W n) b off d') : SlAt HI B W' (.slice A d.size cap) d' ∧ RowKit.Below B W W' := by
  have hat : At (Value.int .i64) W b off d' W' := (At.refl hH).step hlt hs hw
  exact ⟨⟨A, cap, by rw [hs], by rw [hs]; exact hcp, fun _ => ⟨b, off, hA, hb, Nat.lt_of_lt_of_le hlt (at_size_le hat), (hat.holds hH hs hlt).1⟩⟩, at_below hat hb hB⟩

theorem at_of_grow {B : Nat} {A : Option Addr} {cap : Nat} {W W' : World} {b off : Nat} {d d' : Array Int} (hH : HI W b off d) (hb : B ≤ b) (hlt : b < W.heap.size) (hB : B ≤ W.heap.size) (hs : d'.size = d.size) (hcp : d.size ≤ cap ∧ cap ≤ maxLen)
    (hA : A = some ⟨b, off, none⟩) (hat : At (Value.int .i64) W b off d' W') : SlAt HI B W' (.slice A d.size cap) d' ∧ RowKit.Below B W W' :=
  ⟨⟨A, cap, by rw [hs], by rw [hs]; exact hcp, fun _ => ⟨b, off, hA, hb, Nat.lt_of_lt_of_le hlt (at_size_le hat), (hat.holds hH hs hlt).1⟩⟩, at_below hat hb hB⟩

/-- In place: the slice reads as d', below B nothing has turned. -/
def Placed {α : Type} (HH : World → Nat → Nat → Array α → Prop) (B : Nat) (W : World) (v : Value) (d' : Array α) (e : Ending) (w' : World) : Prop :=
  e = .returned (.tuple #[]) ∧ SlAt HH B w' v d' ∧ RowKit.Below B W w'

theorem insertionSort_nil (p : Option Addr) (cap : Nat) (w : World) :
    Calls Try.prog 106 #[.slice p 0 cap, .int .i64 0, .int .i64 0] w fun e w' => e = .returned (.tuple #[]) ∧ w' = w := by
  go_enter Try.func106, Try.ntmps106
  go_wp2
  refine wp_loop_rounds 1 ?_
  rw [rounds_succ]
  go_wp2
  go_end0
  exact ⟨rfl, rfl⟩

theorem insertionSort_at (B : Nat) (v : Value) (d : Array Int) (a b : Nat) (w : World) (h : SlAt HI B w v d) (hB : B ≤ w.heap.size) (hab : a ≤ b) (hb : b ≤ d.size) (hsz : d.size ≤ 2147483647) :
    Calls Try.prog 106 #[v, .int .i64 a, .int .i64 b] w (Placed HI B w v (insertionSort ltInt d a b)) := by
  have hz := (insertionSort_holds swo_ltInt d a b hab hb).1.1
  obtain ⟨A, cap, rfl, hcp, hh⟩ := h
  by_cases h0 : 0 < d.size
  · obtain ⟨bk, off, rfl, h1, h2, h3⟩ := hh h0
    refine (insertionSort_int bk off cap a b d w h3 hab hb (by omega)).mono fun e w' ⟨he, hw⟩ => ?_
    have := at_of_put (cap := cap) h3 h1 h2 hB hz hcp rfl hw
    exact ⟨he, this.1, this.2⟩
  · have e1 : a = 0 := by omega
    have e2 : b = 0 := by omega
    have e3 : d.size = 0 := by omega
    subst e1; subst e2
    rw [e3]
    refine (insertionSort_nil A cap w).mono fun e w' ⟨he, hw⟩ => ?_
    subst hw
    exact ⟨he, SlAt.none_ (by omega) _ _ _ hcp.2, RowKit.Below.refl _ _⟩

/-- A result in new memory. -/
abbrev Made := @Copied

theorem InsertionSort_at (v : Value) (d : Array Int) (a b : Nat) (w : World) (h : SlAt HI 0 w v d) (hab : a ≤ b) (hb : b ≤ d.size) (hn : d.size ≤ 2147483647) :
    Calls Try.prog 77 #[v, .int .i64 a, .int .i64 b] w fun e w' => ∃ v', e = .returned v' ∧ SlAt HI w.heap.size w' v' (insertionSort ltInt d a b) ∧ RowKit.Below w.heap.size w w' := by
  go_enter Try.func77, Try.ntmps77
  go_wp2_with (first | (go_at_call 103; refine (clone_at v d _ h hn).mono ?_; rintro e w1 ⟨v1, rfl, hs1, hb1⟩))
  go_wp2_with (first | (go_at_call 106; refine (insertionSort_at w.heap.size v1 d a b _ hs1 hb1.size hab hb hn).mono ?_; rintro e w2 ⟨rfl, hs2, hb2⟩))
  go_ret
  exact ⟨v1, rfl, hs2, hb1.trans hb2⟩


theorem Reads.alloc {w : World} {B size n : Nat} {A : Option Addr} {xs : List Value} (h : Reads w B size A n xs) (hB : B ≤ w.heap.size) (o : Obj) : Reads (w.alloc o) B size A n xs :=
  ⟨h.1, fun hn => by
    obtain ⟨ad, e, hb, hc⟩ := h.2 hn
    refine ⟨ad, e, hb, fun j u hu => ?_⟩
    rw [← hc j u hu]
    refine World.cell?_alloc_lt w o _ ?_
    have : (ad.add j).block = ad.block := by unfold Addr.add; split <;> rfl
    omega⟩

set_option maxHeartbeats 400000 in
theorem Insertion_at (v : Value) (d : Array Int) (a b : Nat) (w : World) (h : SlAt HI 0 w v d) (hab : a ≤ b) (hb : b ≤ d.size) (hn : d.size ≤ 2147483647) :
    Calls Try.prog 38 #[v, .int .i64 a, .int .i64 b] w fun e w' => ∃ v', e = .returned v' ∧ SlAt HI w.heap.size w' v' (insertionSort ltInt d a b) ∧ RowKit.Below w.heap.size w w' := by
  obtain ⟨A, cap, rfl, hcp, hh⟩ := h
  have hr : Reads (w.alloc (.cells #[] 3)) w.heap.size 1 A d.size (d.toList.map (Value.int .i64)) := (reads_ints (B := 0) (cap := cap) ⟨A, cap, rfl, hcp, hh⟩ (Nat.le_refl _)).alloc (Nat.le_refl _) _
  have ho : (w.alloc (.cells #[] 3)).ownsRow w.heap.size 3 1 (.slice (some ⟨w.heap.size, 0, none⟩) 0 0) 0 [] := World.ownsRow_made w #[] 0 (Nat.le_refl _) (by simp [maxLen]) rfl
  obtain ⟨i0, hi0, hz0, hz1, hz2⟩ := info_parts int_info
  clear hh
  go_enter Try.func38, Try.ntmps38
  go_wp2_with (first
    | (at_builtin
       refine wpList_append_any _ rfl (.tmp 7) (.tmp 8) _ rfl w.heap.size 3 i0 _ 1 8 Try.underlying27 hi0 hz0 hz1 hz2 rfl (by omega) (.slice (some ⟨w.heap.size, 0, none⟩) 0 0) 0 [] rfl
         ho w.heap.size A d.size cap _ rfl hr (one_ints _) (by simp only [maxLen]; omega) (by omega) (by simp) ?_
       intro v1 w1 hown1 hg1 hat1
       have hb1 : RowKit.Below w.heap.size w w1 := ((RowKit.Below.refl w.heap.size w).alloc (Nat.le_refl _) _).grown hg1 (by simp) (by simp [Value.ownBlock])
       have hs1 : SlAt HI w.heap.size w1 v1 d := ints_of_own (by rw [List.nil_append] at hown1; exact hown1)
       clear hown1 hg1 hat1)
    | (go_at_call 77; refine (InsertionSort_at v1 d a b _ (hs1.mono (Nat.zero_le _)) hab hb hn).mono ?_; rintro e w2 ⟨v2, rfl, hs2, hb2⟩))
  go_ret
  exact ⟨v2, rfl, hs2.mono hb1.size, hb1.trans (hb2.mono hb1.size)⟩
end Go.Proofs.Ytcamaikogengoaa
