/- Merging over items: in place, and the wrappers that copy, work in place and return. -/
import Derived.Test.YtcamaikogengoaaItFn
import Derived.Test.YtcamaikogengoaaCSym
namespace Go.Proofs.Ytcamaikogengoaa
set_option linter.unusedVariables false
set_option linter.unusedSimpArgs false
set_option linter.unusedSectionVars false
open Go.RowKit Go.Sort Go.Lib

theorem mergeT_at (B : Nat) (v : Value) (d : Array It) (a m b : Nat) (w : World) (h : SlAt HT B w v d) (hB : B ≤ w.heap.size) (ham : a < m) (hmb : m < b) (hb : b ≤ d.size) (q1 : Asc Prod.fst a m d) (q2 : Asc Prod.fst m b d) (hsz : d.size ≤ 2147483647) :
    Calls Try.prog 126 #[v, .int .i64 a, .int .i64 m, .int .i64 b, .func (.func 112) #[] #[]] w (Placed HT B w v (insertionSort ltT d a b)) := by
  have hz : (insertionSort ltT d a b).size = d.size := (insertionSort_holds swo_ltT d a b (by omega) hb).1.1
  obtain ⟨A, cap, rfl, hcp, hh⟩ := h
  obtain ⟨bk, off, rfl, h1, h2, h3⟩ := hh (by omega)
  refine (symMerge_item inner 2 agg78 size78 encIt cfKey 112 #[] Prod.fst cfKey_neg bk off cap d w enters112 (cmpT _ _ _ _) (rowT h3 h2) (by omega) (b - a + 1) a m b d w (by omega) rfl (SWK.start h3) ham hmb hb q1 q2).mono fun e w' ⟨he, d', hw, hst, has⟩ => ?_
  obtain rfl : d' = insertionSort ltT d a b := by rw [ltT_eq]; exact eq_insertion_stab (by omega) (by omega) hst (asc_sorted.1 has)
  have := placedT (cap := cap) h3 h1 h2 hB hz hcp rfl hw
  exact ⟨he, this.1, this.2⟩

set_option maxHeartbeats 400000 in
theorem mergeT_in (v : Value) (d : Array It) (a m b : Nat) (w : World) (h : SlAt HT 0 w v d) (ham : a < m) (hmb : m < b) (hb : b ≤ d.size) (h1 : Asc Prod.fst a m d) (h2 : Asc Prod.fst m b d) (hn : d.size ≤ 2147483647) :
    Calls Try.prog 99 #[v, .int .i64 a, .int .i64 m, .int .i64 b] w fun e w' => ∃ v', e = .returned v' ∧ SlAt HT w.heap.size w' v' (insertionSort ltT d a b) ∧ RowKit.Below w.heap.size w w' := by
  have H1 := Lib.hid h1
  have H2 := Lib.hid h2
  clear h1 h2
  have K := fun (B : Nat) (v1 : Value) (w1 : World) (hs : SlAt HT B w1 v1 d) (hB : B ≤ w1.heap.size) => mergeT_at B v1 d a m b w1 hs hB ham hmb hb H1.out H2.out hn
  have KH := Lib.hid K
  clear K
  go_enter Try.func99, Try.ntmps99
  go_wp2_with (first | (go_at_call 110; refine (cloneItems_at v d _ h hn).mono ?_; rintro e w1 ⟨v1, rfl, hs1, hb1⟩))
  go_wp2_with (first | (go_at_call 126; refine (KH.out w.heap.size v1 _ hs1 hb1.size).mono ?_; rintro e w2 ⟨rfl, hs2, hb2⟩))
  go_ret
  exact ⟨_, rfl, hs2, hb1.trans hb2⟩

set_option maxHeartbeats 400000 in
theorem mergeT_impl (v : Value) (d : Array It) (a m b : Nat) (w : World) (h : SlAt HT 0 w v d) (ham : a < m) (hmb : m < b) (hb : b ≤ d.size) (h1 : Asc Prod.fst a m d) (h2 : Asc Prod.fst m b d) (hn : d.size ≤ 2147483647) :
    Calls Try.prog 71 #[v, .int .i64 a, .int .i64 m, .int .i64 b] w fun e w' => ∃ v', e = .returned v' ∧ SlAt HT w.heap.size w' v' (insertionSort ltT d a b) ∧ RowKit.Below w.heap.size w w' := by
  have hz : (insertionSort ltT d a b).size = d.size := (insertionSort_holds swo_ltT d a b (by omega) hb).1.1
  have HZ := Lib.hid hz
  have H1 := Lib.hid h1
  have H2 := Lib.hid h2
  clear h1 h2
  clear hz
  have K := fun (v1 : Value) (w1 : World) (hs : SlAt HT 0 w1 v1 d) => mergeT_in v1 d a m b w1 hs ham hmb hb H1.out H2.out hn
  have KH := Lib.hid K
  clear K
  go_enter Try.func71, Try.ntmps71
  go_wp2_with (first
    | (go_at_call 83; refine (In_at v d _ h hn).mono ?_; rintro e w1 ⟨v1, rfl, hs1, hb1⟩)
    | (go_at_call 99; refine (KH.out v1 _ hs1.any).mono ?_; rintro e w2 ⟨v2, rfl, hs2, hb2⟩)
    | (go_at_call 81; refine (Out_at v2 _ _ hs2.any (by rw [HZ.out]; exact hn)).mono ?_; rintro e w3 ⟨v3, rfl, hs3, hb3⟩))
  go_ret
  have hb12 := hb1.trans (hb2.mono hb1.size)
  exact ⟨v3, rfl, hs3.mono hb12.size, hb12.trans (hb3.mono hb12.size)⟩

end Go.Proofs.Ytcamaikogengoaa
