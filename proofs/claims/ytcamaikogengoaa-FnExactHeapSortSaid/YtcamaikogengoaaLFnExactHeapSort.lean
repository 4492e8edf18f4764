/- The law FnExactHeapSort is proved: by a heap a range is sorted, and nothing else is changed. It holds for every input, with no condition. -/
import Derived.Test.YtcamaikogengoaaClosed
import Derived.Test.YtcamaikogengoaaIntEqual
import Derived.Test.YtcamaikogengoaaIntClone
import Derived.Test.YtcamaikogengoaaIntSorted
import Derived.Test.YtcamaikogengoaaAHeapSort
namespace Go.Proofs.Ytcamaikogengoaa.fnExactHeapSort
set_option linter.unusedVariables false
set_option linter.unusedSimpArgs false
set_option linter.unusedSectionVars false
open Go.ChangeShapes Go.WideShapes Go.ChangeAt Go.RowKit

open Go.Sort
set_option maxHeartbeats 400000 in
theorem law (v : Value) (D : Array Int) (a b : Int) (w : World) (h : SlAt HI 0 w v D) (_hm : D.size ≤ maxLen) (_wa : (Lit.int .i64 a).wf = true) (_wb : (Lit.int .i64 b).wf = true) :
    Calls Try.prog 19 #[v, .int .i64 a, .int .i64 b] w fun e w' => e = .returned (.bool true) ∧ RowKit.Below w.heap.size w w' := by
  have h' := h
  obtain ⟨A, cap, rfl, hcp, hh⟩ := h
  clear hh
  by_cases hbig : D.size ≤ 2147483647
  · have hbz : (D.size : Int) ≤ 2147483647 := by omega
    by_cases hr : InRange D.size a b
    · obtain ⟨h0, h1, h2, h3⟩ := hr
      obtain ⟨a, rfl⟩ := Int.eq_ofNat_of_zero_le h0
      obtain ⟨b, rfl⟩ := Int.eq_ofNat_of_zero_le (Int.le_trans h0 h1)
      have q1 : a ≤ b := by omega
      have q2 : b ≤ D.size := by omega
      have hp := heapSort_holds swo_ltInt D a b q1 q2
      have he : heapSort ltInt D a b = insertionSort ltInt D a b := eq_insertionSort swo_ltInt anti_int q1 q2 hp.1 hp.2
      have heq : eqB (heapSort ltInt D a b) (insertionSort ltInt D a b) = true := by unfold eqB; rw [he]; simp
      have hz2 := hp.1.1
      have HZ2 : Hid _ := hz2
      have hz := (insertionSort_holds swo_ltInt D a b q1 q2).1.1
      have HZ : Hid _ := hz
      have HEQ : Hid _ := heq
      clear hz heq hz2 hp he
      go_enter Try.func19, Try.ntmps19
      go_wp2_with (first
        | (go_at_call 33; refine (range_yes A D.size cap a b _ h0 h1 h2 h3).mono ?_; rintro e w1 ⟨rfl, rfl⟩)
        | (go_at_call 37; refine (HeapSort_impl _ D a b _ h' q1 q2 hbig).mono ?_; rintro e w1 ⟨v1, rfl, hs1, hb1⟩)
        | (go_at_call 50; refine (Sorted_at _ D a b _ (keepI h' hb1) q1 q2 hbig).mono ?_; rintro e w2 ⟨v2, rfl, hs2, hb2⟩)
        | (go_at_call 36; refine (equal_at v1 v2 _ _ _ (keepI hs1 hb2) hs2.any (by rw [HZ2.out]; exact hbig) (by rw [HZ.out]; exact hbig)).mono ?_; rw [HEQ.out]; rintro e w3 ⟨rfl, n, rfl⟩))
      go_ret
      exact ⟨rfl, below_drewN (hb1.trans (hb2.mono hb1.size)) n⟩
    · go_enter Try.func19, Try.ntmps19
      go_wp2_with (first | (go_at_call 33; refine (range_no A D.size cap a b _ hr).mono ?_; rintro e w1 ⟨rfl, rfl⟩))
      go_ret
      exact ⟨rfl, RowKit.Below.refl _ _⟩
  · go_enter Try.func19, Try.ntmps19
    go_wp2
    go_ret
    exact ⟨rfl, RowKit.Below.refl _ _⟩

set_option maxRecDepth 100000 in
theorem lifted (os : Os) (started : os.Started) (H : Type) (enc : TypeId × Value → H) :
    ReturnsInHanded {} Try.checked os 19 .any (Rows.fnExactHeapSortSpec.pre6 enc Try.prog Try.f19 Rows.fnExactHeapSortRow.domain false) (Rows.fnExactHeapSortSpec.post enc Try.prog Try.f19 false true false false) := by
  refine returnsInHanded_of_change (C := Try.checked) own started (by kernel_rfl) Try.func19
    (ChangeSpec.witness6 (enc := enc) (C := Try.checked) false ⟨#[], #[.slice none 0 0, .int .i64 0, .int .i64 0], []⟩ 8 (by kernel_rfl) (by kernel_rfl) (by kernel_rfl) (by kernel_rfl)) ?_
  intro W base args ds gs before hval0 hW _ _
  have hval : ∀ (j : Nat) t v, Try.f19.params[j]? = some t → args[j]? = some v → Value.okWide Try.prog W .any base t v := hval0
  have hW' := hW
  obtain ⟨p, q, hA0, hV, rfl, hfz, _⟩ := hW
  have hA : DataW.TrodAll enc Try.prog W 0 (fun _ => true) true Try.f19.params.toList args.toList ds p := hA0
  rw [Try.params19] at hA hval
  obtain ⟨rfl, rfl⟩ := trodVars_none hV
  have hlt := hW'.lt
  simp only [List.append_nil] at hfz hlt
  have hA1 := hA
  obtain ⟨v0, vs0, d0, ds0, p0, q0, hargs, rfl, rfl, h0, r0⟩ := trodAll_cons hA1
  obtain ⟨v1, vs1, d1, ds1, p1, q1, rfl, rfl, rfl, h1, r1⟩ := trodAll_cons r0
  obtain ⟨v2, vs2, d2, ds2, p2, q2, rfl, rfl, rfl, h2, r2⟩ := trodAll_cons r1
  obtain ⟨rfl, rfl, rfl⟩ := trodAll_nil r2
  obtain rfl : args = #[v0, v1, v2] := by cases args; simp_all
  clear hA0 hval0 hA1
  obtain ⟨D0, s0, m0⟩ := ints_open (hval 0 27 v0 rfl rfl) h0 (fun x hx => hlt x (by simp [hx])) (fun b off hx => hfz b off (by simp [hx]))
  obtain ⟨x1, rfl, rfl, rfl, w1⟩ := open_int Try.underlying3 (hval 1 3 v1 rfl rfl) h1
  obtain ⟨x2, rfl, rfl, rfl, w2⟩ := open_int Try.underlying3 (hval 2 3 v2 rfl rfl) h2
  refine (law v0 D0 x1 x2 W s0 m0 w1 w2).mono fun e W' ⟨he, hb⟩ => ?_
  subst he
  exact ⟨_, rfl, post_of_below (pv := []) hW' (fun _ _ _ => trodAll_cons_mk (shut_bool Try.underlying4 _) trodAll_mk0)
    (fun sp hs => trodAll_stays hb (readable_all (by simp)) hA hlt sp (fun x hx => hs x (List.mem_append_left _ hx))) (fun _ _ => rfl) rfl hb (ok_one (by kernel_rfl) rfl (okWide_bool_mk Try.underlying4 _))⟩

/-- The statement. -/
theorem proved : Rows.FnExactHeapSortSaid :=
  OpenClaim.holds_of_wide 19 Try.f19 rfl rfl rfl rfl rfl rfl rfl ⟨rfl, rfl, rfl, rfl, rfl⟩ rfl rfl rfl rfl rfl (by as_aux_lemma => kernel_rfl) Try.func19
    (closed_mk (P := Try.prog) (by as_aux_lemma => kernel_rfl) all_laid all_rowed (by as_aux_lemma => kernel_rfl) rfl rfl all_stops rfl all_knobs
      (by as_aux_lemma => kernel_rfl) (by as_aux_lemma => kernel_rfl) (by as_aux_lemma => kernel_rfl) (by as_aux_lemma => kernel_rfl)
      (by as_aux_lemma => kernel_rfl) (by as_aux_lemma => kernel_rfl) (by as_aux_lemma => kernel_rfl) (by as_aux_lemma => kernel_rfl) (by as_aux_lemma => kernel_rfl)
      rfl (by as_aux_lemma => kernel_rfl) (by as_aux_lemma => kernel_rfl) (by as_aux_lemma => kernel_rfl)
      (by as_aux_lemma => kernel_rfl) rfl all_heard may_enter rfl lifts_final rfl make_cut rfl rfl rfl (by as_aux_lemma => kernel_rfl) (by as_aux_lemma => kernel_rfl))
    (of_decide_eq_true (by as_aux_lemma => kernel_rfl)) (by as_aux_lemma => (unfold Func.isWrapper; first | (rw [if_pos (by decide +kernel)]; kernel_rfl) | (rw [if_neg (by decide +kernel)]; exact ⟨rfl, rfl⟩)))
    (fun os started H enc _ => lifted os started H enc)
end Go.Proofs.Ytcamaikogengoaa.fnExactHeapSort
