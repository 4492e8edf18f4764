/- Quicksort over items: in place, and the wrappers that copy, work in place and return. -/
import Derived.Test.YtcamaikogengoaaItFn
import Derived.Test.YtcamaikogengoaaCPdq
namespace Go.Proofs.Ytcamaikogengoaa
set_option linter.unusedVariables false
set_option linter.unusedSimpArgs false
set_option linter.unusedSectionVars false
open Go.RowKit Go.Sort Go.Lib

theorem insT_nilPdq (p : Option Addr) (cap : Nat) (w : World) :
    Calls Try.prog 116 #[.slice p 0 cap, .int .i64 0, .int .i64 0, .func (.func 112) #[] #[]] w fun e w' => e = .returned (.tuple #[]) ∧ w' = w := by
  go_enter Try.func116, Try.ntmps116
  go_wp2
  refine wp_loop_rounds 1 ?_
  rw [rounds_succ]
  go_wp2
  go_end0
  exact ⟨rfl, rfl⟩
theorem pdqT_nil (p : Option Addr) (cap : Nat) (limit : Nat) (w : World) :
    Calls Try.prog 111 #[.slice p 0 cap, .int .i64 0, .int .i64 0, .int .i64 limit, .func (.func 112) #[] #[]] w fun e w' => e = .returned (.tuple #[]) ∧ w' = w := by
  go_enter Try.func111, Try.ntmps111
  go_wp2
  refine wp_loop_rounds 1 ?_
  rw [rounds_succ]
  go_wp2_with (first | (go_at_call 116; refine (insT_nilPdq p cap _).mono ?_; rintro e w' ⟨rfl, rfl⟩))
  refine bodyPost_ret (results_none rfl _ _ _) rfl ?_
  exact ⟨rfl, rfl⟩

theorem pdqT_at (B : Nat) (v : Value) (d : Array It) (a b limit : Nat) (w : World) (h : SlAt HT B w v d) (hB : B ≤ w.heap.size) (hab : a ≤ b) (hb : b ≤ d.size) (hl : limit < 4611686018427387904) (hB0 : Sort.Below ltT a b d) (hsz : d.size ≤ 2147483647) :
    Calls Try.prog 111 #[v, .int .i64 a, .int .i64 b, .int .i64 limit, .func (.func 112) #[] #[]] w (Placed HT B w v (pdq ltT d a b limit true true)) := by
  have hz : (pdq ltT d a b limit true true).size = d.size := (pdq_sorts _ swo_ltT d a b limit true true hab hb hB0).1.1
  obtain ⟨A, cap, rfl, hcp, hh⟩ := h
  by_cases h0 : 0 < d.size
  · obtain ⟨bk, off, rfl, h1, h2, h3⟩ := hh h0
    refine (pdqsort_item_all inner 2 agg78 size78 encIt cfKey 112 #[] swo_ltT bk off cap d w enters112 (cmpT _ _ _ _) (rowT h3 h2) (b - a + 1) a b limit d w (by omega) rfl (SWK.start h3) hab hb (by omega) hl hB0).mono fun e w' ⟨he, hw⟩ => ?_
    have := placedT (cap := cap) h3 h1 h2 hB hz hcp rfl hw
    exact ⟨he, this.1, this.2⟩
  · have e3 : d.size = 0 := by omega
    have ea : a = 0 := by omega
    have eb : b = 0 := by omega
    subst ea; subst eb
    rw [e3]
    refine (pdqT_nil A cap limit w).mono fun e w' ⟨he, hw⟩ => ?_
    subst hw
    exact ⟨he, SlAt.none_ (by rw [hz]; exact e3) _ _ _ hcp.2, RowKit.Below.refl _ _⟩

set_option maxHeartbeats 400000 in
theorem pdqT_in (v : Value) (d : Array It) (a b limit : Nat) (w : World) (h : SlAt HT 0 w v d) (hab : a ≤ b) (hb : b ≤ d.size) (hl : limit < 4611686018427387904) (hB0 : Sort.Below ltT a b d) (hn : d.size ≤ 2147483647) :
    Calls Try.prog 82 #[v, .int .i64 a, .int .i64 b, .int .i64 limit] w fun e w' => ∃ v', e = .returned v' ∧ SlAt HT w.heap.size w' v' (pdq ltT d a b limit true true) ∧ RowKit.Below w.heap.size w w' := by
  have HB0 := Lib.hid hB0
  clear hB0
  have K := fun (B : Nat) (v1 : Value) (w1 : World) (hs : SlAt HT B w1 v1 d) (hB : B ≤ w1.heap.size) => pdqT_at B v1 d a b limit w1 hs hB hab hb hl HB0.out hn
  have KH := Lib.hid K
  clear K
  go_enter Try.func82, Try.ntmps82
  go_wp2_with (first | (go_at_call 110; refine (cloneItems_at v d _ h hn).mono ?_; rintro e w1 ⟨v1, rfl, hs1, hb1⟩))
  go_wp2_with (first | (go_at_call 111; refine (KH.out w.heap.size v1 _ hs1 hb1.size).mono ?_; rintro e w2 ⟨rfl, hs2, hb2⟩))
  go_ret
  exact ⟨_, rfl, hs2, hb1.trans hb2⟩

set_option maxHeartbeats 400000 in
theorem pdqT_impl (v : Value) (d : Array It) (a b limit : Nat) (w : World) (h : SlAt HT 0 w v d) (hab : a ≤ b) (hb : b ≤ d.size) (hl : limit < 4611686018427387904) (hB0 : Sort.Below ltT a b d) (hn : d.size ≤ 2147483647) :
    Calls Try.prog 47 #[v, .int .i64 a, .int .i64 b, .int .i64 limit] w fun e w' => ∃ v', e = .returned v' ∧ SlAt HT w.heap.size w' v' (pdq ltT d a b limit true true) ∧ RowKit.Below w.heap.size w w' := by
  have hz : (pdq ltT d a b limit true true).size = d.size := (pdq_sorts _ swo_ltT d a b limit true true hab hb hB0).1.1
  have HZ := Lib.hid hz
  have HB0 := Lib.hid hB0
  clear hB0
  clear hz
  have K := fun (v1 : Value) (w1 : World) (hs : SlAt HT 0 w1 v1 d) => pdqT_in v1 d a b limit w1 hs hab hb hl HB0.out hn
  have KH := Lib.hid K
  clear K
  go_enter Try.func47, Try.ntmps47
  go_wp2_with (first
    | (go_at_call 83; refine (In_at v d _ h hn).mono ?_; rintro e w1 ⟨v1, rfl, hs1, hb1⟩)
    | (go_at_call 82; refine (KH.out v1 _ hs1.any).mono ?_; rintro e w2 ⟨v2, rfl, hs2, hb2⟩)
    | (go_at_call 81; refine (Out_at v2 _ _ hs2.any (by rw [HZ.out]; exact hn)).mono ?_; rintro e w3 ⟨v3, rfl, hs3, hb3⟩))
  go_ret
  have hb12 := hb1.trans (hb2.mono hb1.size)
  exact ⟨v3, rfl, hs3.mono hb12.size, hb12.trans (hb3.mono hb12.size)⟩

end Go.Proofs.Ytcamaikogengoaa
