/- Stable sort over items: in place, and the wrappers that copy, work in place and return. -/
import Derived.Test.YtcamaikogengoaaItFn
import Derived.Test.YtcamaikogengoaaCStable
namespace Go.Proofs.Ytcamaikogengoaa
set_option linter.unusedVariables false
set_option linter.unusedSimpArgs false
set_option linter.unusedSectionVars false
open Go.RowKit Go.Sort Go.Lib

theorem insT_nilStable (p : Option Addr) (cap : Nat) (w : World) :
    Calls Try.prog 116 #[.slice p 0 cap, .int .i64 0, .int .i64 0, .func (.func 112) #[] #[]] w fun e w' => e = .returned (.tuple #[]) ∧ w' = w := by
  go_enter Try.func116, Try.ntmps116
  go_wp2
  refine wp_loop_rounds 1 ?_
  rw [rounds_succ]
  go_wp2
  go_end0
  exact ⟨rfl, rfl⟩
theorem stableT_nil (p : Option Addr) (cap : Nat) (w : World) :
    Calls Try.prog 127 #[.slice p 0 cap, .int .i64 0, .func (.func 112) #[] #[]] w fun e w' => e = .returned (.tuple #[]) ∧ w' = w := by
  go_enter Try.func127, Try.ntmps127
  go_wp2
  refine wp_loop_rounds 1 ?_
  rw [rounds_succ]
  go_wp2_with (first | (go_at_call 116; refine (insT_nilStable p cap _).mono ?_; rintro e w' ⟨rfl, rfl⟩))
  refine wp_loop_rounds 1 ?_
  rw [rounds_succ]
  go_wp2
  go_end0
  exact ⟨rfl, rfl⟩

theorem stableT_at (B : Nat) (v : Value) (d : Array It) (w : World) (h : SlAt HT B w v d) (hB : B ≤ w.heap.size) (hsz : d.size ≤ 2147483647) :
    Calls Try.prog 127 #[v, .int .i64 d.size, .func (.func 112) #[] #[]] w (Placed HT B w v (insertionSort ltT d 0 d.size)) := by
  have hz : (insertionSort ltT d 0 d.size).size = d.size := (insertionSort_holds swo_ltT d 0 d.size (Nat.zero_le _) (Nat.le_refl _)).1.1
  obtain ⟨A, cap, rfl, hcp, hh⟩ := h
  by_cases h0 : 0 < d.size
  · obtain ⟨bk, off, rfl, h1, h2, h3⟩ := hh h0
    refine (stable_item inner 2 agg78 size78 encIt cfKey 112 #[] Prod.fst cfKey_neg bk off cap d w enters112 (cmpT _ _ _ _) (rowT h3 h2) (by omega) d w rfl (SWK.start h3)).mono fun e w' ⟨he, d', hw, hst, has⟩ => ?_
    obtain rfl : d' = insertionSort ltT d 0 d.size := by rw [ltT_eq]; exact eq_insertion_stab (by omega) (by omega) hst (asc_sorted.1 has)
    have := placedT (cap := cap) h3 h1 h2 hB hz hcp rfl hw
    exact ⟨he, this.1, this.2⟩
  · have e3 : d.size = 0 := by omega
    rw [e3] at hz ⊢
    refine (stableT_nil A cap w).mono fun e w' ⟨he, hw⟩ => ?_
    subst hw
    exact ⟨he, SlAt.none_ hz _ _ _ hcp.2, RowKit.Below.refl _ _⟩

set_option maxHeartbeats 400000 in
theorem stableT_in (v : Value) (d : Array It) (w : World) (h : SlAt HT 0 w v d) (hn : d.size ≤ 2147483647) :
    Calls Try.prog 100 #[v] w fun e w' => ∃ v', e = .returned v' ∧ SlAt HT w.heap.size w' v' (insertionSort ltT d 0 d.size) ∧ RowKit.Below w.heap.size w w' := by
  have K := fun (B : Nat) (v1 : Value) (w1 : World) (hs : SlAt HT B w1 v1 d) (hB : B ≤ w1.heap.size) => stableT_at B v1 d w1 hs hB hn
  have KH := Lib.hid K
  clear K
  go_enter Try.func100, Try.ntmps100
  go_wp2_with (first | (go_at_call 110; refine (cloneItems_at v d _ h hn).mono ?_; rintro e w1 ⟨v1, rfl, hs1, hb1⟩; obtain ⟨A1, c1, rfl, hcp1, hh1⟩ := hs1; have hs1 : SlAt HT w.heap.size w1 (.slice A1 d.size c1) d := ⟨A1, c1, rfl, hcp1, hh1⟩; clear hh1))
  go_wp2_with (first | (go_at_call 127; refine (KH.out w.heap.size (.slice A1 d.size c1) _ hs1 hb1.size).mono ?_; rintro e w2 ⟨rfl, hs2, hb2⟩))
  go_ret
  exact ⟨_, rfl, hs2, hb1.trans hb2⟩

set_option maxHeartbeats 400000 in
theorem stableT_impl (v : Value) (d : Array It) (w : World) (h : SlAt HT 0 w v d) (hn : d.size ≤ 2147483647) :
    Calls Try.prog 72 #[v] w fun e w' => ∃ v', e = .returned v' ∧ SlAt HT w.heap.size w' v' (insertionSort ltT d 0 d.size) ∧ RowKit.Below w.heap.size w w' := by
  have hz : (insertionSort ltT d 0 d.size).size = d.size := (insertionSort_holds swo_ltT d 0 d.size (Nat.zero_le _) (Nat.le_refl _)).1.1
  have HZ := Lib.hid hz
  clear hz
  have K := fun (v1 : Value) (w1 : World) (hs : SlAt HT 0 w1 v1 d) => stableT_in v1 d w1 hs hn
  have KH := Lib.hid K
  clear K
  go_enter Try.func72, Try.ntmps72
  go_wp2_with (first
    | (go_at_call 83; refine (In_at v d _ h hn).mono ?_; rintro e w1 ⟨v1, rfl, hs1, hb1⟩)
    | (go_at_call 100; refine (KH.out v1 _ hs1.any).mono ?_; rintro e w2 ⟨v2, rfl, hs2, hb2⟩)
    | (go_at_call 81; refine (Out_at v2 _ _ hs2.any (by rw [HZ.out]; exact hn)).mono ?_; rintro e w3 ⟨v3, rfl, hs3, hb3⟩))
  go_ret
  have hb12 := hb1.trans (hb2.mono hb1.size)
  exact ⟨v3, rfl, hs3.mono hb12.size, hb12.trans (hb3.mono hb12.size)⟩

end Go.Proofs.Ytcamaikogengoaa
