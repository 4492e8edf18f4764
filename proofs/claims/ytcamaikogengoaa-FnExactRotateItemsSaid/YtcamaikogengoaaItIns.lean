/- Insertion sort over items: in place, and the wrappers that copy, work in place and return. -/
import Derived.Test.YtcamaikogengoaaItFn
import Derived.Test.YtcamaikogengoaaCInsW
namespace Go.Proofs.Ytcamaikogengoaa
set_option linter.unusedVariables false
set_option linter.unusedSimpArgs false
set_option linter.unusedSectionVars false
open Go.RowKit Go.Sort Go.Lib

theorem insT_nil (p : Option Addr) (cap : Nat) (w : World) :
    Calls Try.prog 116 #[.slice p 0 cap, .int .i64 0, .int .i64 0, .func (.func 112) #[] #[]] w fun e w' => e = .returned (.tuple #[]) ∧ w' = w := by
  go_enter Try.func116, Try.ntmps116
  go_wp2
  refine wp_loop_rounds 1 ?_
  rw [rounds_succ]
  go_wp2
  go_end0
  exact ⟨rfl, rfl⟩

theorem insT_at (B : Nat) (v : Value) (d : Array It) (a b : Nat) (w : World) (h : SlAt HT B w v d) (hB : B ≤ w.heap.size) (hab : a ≤ b) (hb : b ≤ d.size) (hsz : d.size ≤ 2147483647) :
    Calls Try.prog 116 #[v, .int .i64 a, .int .i64 b, .func (.func 112) #[] #[]] w (Placed HT B w v (insertionSort ltT d a b)) := by
  have hz : (insertionSort ltT d a b).size = d.size := (insertionSort_holds swo_ltT d a b hab hb).1.1
  obtain ⟨A, cap, rfl, hcp, hh⟩ := h
  by_cases h0 : 0 < d.size
  · obtain ⟨bk, off, rfl, h1, h2, h3⟩ := hh h0
    refine (insertion_item_w inner 2 agg78 size78 encIt cfKey 112 #[] bk off cap a b d d w w enters112 (cmpT _ _ _ _) (rowT h3 h2) rfl (SWK.start h3) swo_ltT hab hb (by omega)).mono fun e w' ⟨he, hw⟩ => ?_
    have := placedT (cap := cap) h3 h1 h2 hB hz hcp rfl hw
    exact ⟨he, this.1, this.2⟩
  · have e3 : d.size = 0 := by omega
    have ea : a = 0 := by omega
    have eb : b = 0 := by omega
    subst ea; subst eb
    rw [e3]
    refine (insT_nil A cap w).mono fun e w' ⟨he, hw⟩ => ?_
    subst hw
    exact ⟨he, SlAt.none_ (by rw [hz]; exact e3) _ _ _ hcp.2, RowKit.Below.refl _ _⟩

set_option maxHeartbeats 400000 in
theorem insT_in (v : Value) (d : Array It) (a b : Nat) (w : World) (h : SlAt HT 0 w v d) (hab : a ≤ b) (hb : b ≤ d.size) (hn : d.size ≤ 2147483647) :
    Calls Try.prog 87 #[v, .int .i64 a, .int .i64 b] w fun e w' => ∃ v', e = .returned v' ∧ SlAt HT w.heap.size w' v' (insertionSort ltT d a b) ∧ RowKit.Below w.heap.size w w' := by
  have K := fun (B : Nat) (v1 : Value) (w1 : World) (hs : SlAt HT B w1 v1 d) (hB : B ≤ w1.heap.size) => insT_at B v1 d a b w1 hs hB hab hb hn
  have KH := Lib.hid K
  clear K
  go_enter Try.func87, Try.ntmps87
  go_wp2_with (first | (go_at_call 110; refine (cloneItems_at v d _ h hn).mono ?_; rintro e w1 ⟨v1, rfl, hs1, hb1⟩))
  go_wp2_with (first | (go_at_call 116; refine (KH.out w.heap.size v1 _ hs1 hb1.size).mono ?_; rintro e w2 ⟨rfl, hs2, hb2⟩))
  go_ret
  exact ⟨_, rfl, hs2, hb1.trans hb2⟩

set_option maxHeartbeats 400000 in
theorem insT_impl (v : Value) (d : Array It) (a b : Nat) (w : World) (h : SlAt HT 0 w v d) (hab : a ≤ b) (hb : b ≤ d.size) (hn : d.size ≤ 2147483647) :
    Calls Try.prog 56 #[v, .int .i64 a, .int .i64 b] w fun e w' => ∃ v', e = .returned v' ∧ SlAt HT w.heap.size w' v' (insertionSort ltT d a b) ∧ RowKit.Below w.heap.size w w' := by
  have hz : (insertionSort ltT d a b).size = d.size := (insertionSort_holds swo_ltT d a b hab hb).1.1
  have HZ := Lib.hid hz
  clear hz
  have K := fun (v1 : Value) (w1 : World) (hs : SlAt HT 0 w1 v1 d) => insT_in v1 d a b w1 hs hab hb hn
  have KH := Lib.hid K
  clear K
  go_enter Try.func56, Try.ntmps56
  go_wp2_with (first
    | (go_at_call 83; refine (In_at v d _ h hn).mono ?_; rintro e w1 ⟨v1, rfl, hs1, hb1⟩)
    | (go_at_call 87; refine (KH.out v1 _ hs1.any).mono ?_; rintro e w2 ⟨v2, rfl, hs2, hb2⟩)
    | (go_at_call 81; refine (Out_at v2 _ _ hs2.any (by rw [HZ.out]; exact hn)).mono ?_; rintro e w3 ⟨v3, rfl, hs3, hb3⟩))
  go_ret
  have hb12 := hb1.trans (hb2.mono hb1.size)
  exact ⟨v3, rfl, hs3.mono hb12.size, hb12.trans (hb3.mono hb12.size)⟩

end Go.Proofs.Ytcamaikogengoaa
