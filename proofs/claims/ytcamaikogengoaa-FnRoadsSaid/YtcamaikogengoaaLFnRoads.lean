/- The law FnRoads is proved: by each of the ways a range ahead of which nothing is greater is sorted to the same. It holds for every input, with no condition. -/
import Derived.Test.YtcamaikogengoaaClosed
import Derived.Test.YtcamaikogengoaaIntEqual
import Derived.Test.YtcamaikogengoaaIntClone
import Derived.Test.YtcamaikogengoaaIntSorted
import Derived.Test.YtcamaikogengoaaIntAhead
import Derived.Test.YtcamaikogengoaaAPDQSort
import Derived.Test.YtcamaikogengoaaAHeapSort
namespace Go.Proofs.Ytcamaikogengoaa.fnRoads
set_option linter.unusedVariables false
set_option linter.unusedSimpArgs false
set_option linter.unusedSectionVars false
open Go.ChangeShapes Go.WideShapes Go.ChangeAt Go.RowKit

open Go.Sort
set_option maxHeartbeats 1000000 in
theorem law (v : Value) (D : Array Int) (a b limit : Int) (w : World) (h : SlAt HI 0 w v D) (_hm : D.size ≤ maxLen) (_wa : (Lit.int .i64 a).wf = true) (_wb : (Lit.int .i64 b).wf = true) (_wl : (Lit.int .i64 limit).wf = true) :
    Calls Try.prog 5 #[v, .int .i64 a, .int .i64 b, .int .i64 limit] w fun e w' => e = .returned (.bool true) ∧ RowKit.Below w.heap.size w w' := by
  have h' := h
  obtain ⟨A, cap, rfl, hcp, hh⟩ := h
  clear hh hcp
  by_cases hbig : D.size ≤ 2147483647
  · have hbz : (D.size : Int) ≤ 2147483647 := by omega
    by_cases hr : InRange D.size a b
    · obtain ⟨h0, h1, h2, h3⟩ := hr
      obtain ⟨a, rfl⟩ := Int.eq_ofNat_of_zero_le h0
      obtain ⟨b, rfl⟩ := Int.eq_ofNat_of_zero_le (Int.le_trans h0 h1)
      have q1 : a ≤ b := by omega
      have q2 : b ≤ D.size := by omega
      by_cases hl0 : limit < 0
      · go_enter Try.func5, Try.ntmps5
        go_wp2_with (first | (go_at_call 33; refine (range_yes A D.size cap a b _ h0 h1 h2 h3).mono ?_; rintro e w1 ⟨rfl, rfl⟩))
        go_ret
        exact ⟨rfl, RowKit.Below.refl _ _⟩
      · by_cases hl1 : limit > 1000
        · have hl0' : 0 ≤ limit := by omega
          go_enter Try.func5, Try.ntmps5
          go_wp2_with (first | (go_at_call 33; refine (range_yes A D.size cap a b _ h0 h1 h2 h3).mono ?_; rintro e w1 ⟨rfl, rfl⟩))
          go_ret
          exact ⟨rfl, RowKit.Below.refl _ _⟩
        · obtain ⟨limit, rfl⟩ := Int.eq_ofNat_of_zero_le (show 0 ≤ limit by omega)
          have hl2 : (limit : Int) ≤ 1000 := by omega
          have hl3 : ¬ (limit : Int) < 0 := by omega
          have q3 : limit < 4611686018427387904 := by omega
          cases hA : aheadB D a b with
          | false =>
            have HA : Hid _ := hA
            clear hA
            go_enter Try.func5, Try.ntmps5
            go_wp2_with (first
              | (go_at_call 33; refine (range_yes A D.size cap a b _ h0 h1 h2 h3).mono ?_; rintro e w1 ⟨rfl, rfl⟩)
              | (go_at_call 34; refine (Ahead_at _ D a b _ h' q1 q2 hbig).mono ?_; rw [HA.out]; rintro e w1 ⟨rfl, rfl⟩))
            go_ret
            exact ⟨rfl, RowKit.Below.refl _ _⟩
          | true =>
            have HA : Hid (aheadB D a b = true) := hA
            have hB0 := ahead_below (aheadB_iff.1 hA)
            have hp := pdq_sorts _ swo_ltInt D a b limit true true q1 q2 hB0
            have hq := heapSort_holds swo_ltInt D a b q1 q2
            have hi := insertionSort_holds swo_ltInt D a b q1 q2
            have e1 : pdq ltInt D a b limit true true = insertionSort ltInt D a b := eq_insertionSort swo_ltInt anti_int q1 q2 hp.1 hp.2
            have e2 : heapSort ltInt D a b = insertionSort ltInt D a b := eq_insertionSort swo_ltInt anti_int q1 q2 hq.1 hq.2
            have zR : (insertionSort ltInt D a b).size = D.size := hi.1.1
            have hBR : Sort.Below ltInt a b (insertionSort ltInt D a b) := hB0.perm q2 hi.1
            have hp2 := pdq_sorts _ swo_ltInt (insertionSort ltInt D a b) a b limit true true q1 (by rw [zR]; exact q2) hBR
            have e3 : pdq ltInt (insertionSort ltInt D a b) a b limit true true = insertionSort ltInt D a b :=
              (eq_insertionSort swo_ltInt anti_int q1 (by rw [zR]; exact q2) hp2.1 hp2.2).trans (insertionSort_sorted swo_ltInt anti_int q1 (by rw [zR]; exact q2) hi.2)
            have heq : eqB (insertionSort ltInt D a b) (insertionSort ltInt D a b) = true := by unfold eqB; simp
            have c1 := fun W hW => Pdq_impl (.slice A D.size cap) D a b limit W hW q1 q2 q3 hB0 hbig
            have c2 := fun W hW => HeapSort_impl (.slice A D.size cap) D a b W hW q1 q2 hbig
            have c3 := fun W hW => Insertion_at (.slice A D.size cap) D a b W hW q1 q2 hbig
            have c4 := fun v1 W hW => Pdq_impl v1 (insertionSort ltInt D a b) a b limit W hW q1 (by rw [zR]; exact q2) q3 hBR (by rw [zR]; exact hbig)
            rw [e1] at c1
            rw [e2] at c2
            rw [e3] at c4
            have c5 := fun v1 v2 W h1 h2 => equal_at v1 v2 (insertionSort ltInt D a b) (insertionSort ltInt D a b) W h1 h2 (by rw [zR]; exact hbig) (by rw [zR]; exact hbig)
            rw [heq] at c5
            clear hp hq hi e1 e2 hBR hp2 e3 heq hA hB0
            obtain ⟨R, hR⟩ : ∃ R, insertionSort ltInt D a b = R := ⟨_, rfl⟩
            rw [hR] at c1 c2 c3 c4 c5 zR
            have hlen : ((R.size : Int) == (D.size : Int)) = true := by simp [zR]
            have C1 := Lib.hid c1
            have C2 := Lib.hid c2
            have C3 := Lib.hid c3
            have C4 := Lib.hid c4
            have C5 := Lib.hid c5
            have ZR : Hid (R.size = D.size) := zR
            clear c1 c2 c3 c4 c5 zR hR
            go_enter Try.func5, Try.ntmps5
            go_wp2_with (first
              | (go_at_call 33; refine (range_yes A D.size cap a b _ h0 h1 h2 h3).mono ?_; rintro e w1 ⟨rfl, rfl⟩)
              | (go_at_call 34; refine (Ahead_at _ D a b _ h' q1 q2 hbig).mono ?_; rw [HA.out]; rintro e w1 ⟨rfl, rfl⟩)
              | (go_at_call 35; refine (C1.out _ h').mono ?_; rintro e w1 ⟨v1, rfl, hs1, hb1⟩; have hs1' := hs1; obtain ⟨A1, cap1, rfl, hx1, hx2⟩ := hs1; clear hx1 hx2)
              | (go_at_call 37; refine (C2.out _ (keepI h' hb1)).mono ?_; rintro e w2 ⟨v2, rfl, hs2, hb2⟩))
            refine (C5.out _ _ _ (keepI hs1' hb2) hs2.any).mono ?_
            rintro e w3 ⟨rfl, n3, rfl⟩
            have hb3 : RowKit.Below w2.heap.size w2 (w2.drewN n3) := below_drewN (RowKit.Below.refl _ _) n3
            have hb12 : RowKit.Below w.heap.size w w2 := hb1.trans (hb2.mono hb1.size)
            have hb13 : RowKit.Below w.heap.size w (w2.drewN n3) := below_drewN hb12 n3
            have hs13 : SlAt HI 0 (w2.drewN n3) (.slice A1 R.size cap1) R := keepI (keepI hs1' hb2) hb3
            obtain ⟨w3, hw3⟩ : ∃ w3, w3 = w2.drewN n3 := ⟨_, rfl⟩
            rw [← hw3] at hb13 hs13 ⊢
            clear hw3 hb3 hb12
            go_wp2_with fail
            refine (C3.out _ (keepI h' hb13)).mono ?_
            rintro e w4 ⟨v4, rfl, hs4, hb4⟩
            go_wp2_with fail
            refine (C5.out _ _ _ (keepI hs13 hb4) hs4.any).mono ?_
            rintro e w5 ⟨rfl, n5, rfl⟩
            have hb14 : RowKit.Below w.heap.size w (w4.drewN n5) := below_drewN (hb13.trans (hb4.mono hb13.size)) n5
            have hs15 : SlAt HI 0 (w4.drewN n5) (.slice A1 R.size cap1) R := keepI (keepI hs13 hb4) (below_drewN (RowKit.Below.refl _ _) n5)
            obtain ⟨w5, hw5⟩ : ∃ w5, w5 = w4.drewN n5 := ⟨_, rfl⟩
            rw [← hw5] at hb14 hs15 ⊢
            clear hw5
            go_wp2_with fail
            refine (C4.out _ _ hs15).mono ?_
            rintro e w6 ⟨v6, rfl, hs6, hb6⟩
            go_wp2_with fail
            refine (C5.out _ _ _ (keepI hs15 hb6) hs6.any).mono ?_
            rintro e w7 ⟨rfl, n7, rfl⟩
            go_wp2
            go_ret
            exact ⟨rfl, below_drewN (hb14.trans (hb6.mono hb14.size)) n7⟩
    · go_enter Try.func5, Try.ntmps5
      go_wp2_with (first | (go_at_call 33; refine (range_no A D.size cap a b _ hr).mono ?_; rintro e w1 ⟨rfl, rfl⟩))
      go_ret
      exact ⟨rfl, RowKit.Below.refl _ _⟩
  · go_enter Try.func5, Try.ntmps5
    go_wp2
    go_ret
    exact ⟨rfl, RowKit.Below.refl _ _⟩

set_option maxRecDepth 100000 in
theorem lifted (os : Os) (started : os.Started) (H : Type) (enc : TypeId × Value → H) :
    ReturnsInHanded {} Try.checked os 5 .any (Rows.fnRoadsSpec.pre6 enc Try.prog Try.f5 Rows.fnRoadsRow.domain false) (Rows.fnRoadsSpec.post enc Try.prog Try.f5 false true false false) := by
  refine returnsInHanded_of_change (C := Try.checked) own started (by kernel_rfl) Try.func5
    (ChangeSpec.witness6 (enc := enc) (C := Try.checked) false ⟨#[], #[.slice none 0 0, .int .i64 0, .int .i64 0, .int .i64 0], []⟩ 8 (by kernel_rfl) (by kernel_rfl) (by kernel_rfl) (by kernel_rfl)) ?_
  intro W base args ds gs before hval0 hW _ _
  have hval : ∀ (j : Nat) t v, Try.f5.params[j]? = some t → args[j]? = some v → Value.okWide Try.prog W .any base t v := hval0
  have hW' := hW
  obtain ⟨p, q, hA0, hV, rfl, hfz, _⟩ := hW
  have hA : DataW.TrodAll enc Try.prog W 0 (fun _ => true) true Try.f5.params.toList args.toList ds p := hA0
  rw [Try.params5] at hA hval
  obtain ⟨rfl, rfl⟩ := trodVars_none hV
  have hlt := hW'.lt
  simp only [List.append_nil] at hfz hlt
  have hA1 := hA
  obtain ⟨v0, vs0, d0, ds0, p0, q0, hargs, rfl, rfl, h0, r0⟩ := trodAll_cons hA1
  obtain ⟨v1, vs1, d1, ds1, p1, q1, rfl, rfl, rfl, h1, r1⟩ := trodAll_cons r0
  obtain ⟨v2, vs2, d2, ds2, p2, q2, rfl, rfl, rfl, h2, r2⟩ := trodAll_cons r1
  obtain ⟨v3, vs3, d3, ds3, p3, q3, rfl, rfl, rfl, h3, r3⟩ := trodAll_cons r2
  obtain ⟨rfl, rfl, rfl⟩ := trodAll_nil r3
  obtain rfl : args = #[v0, v1, v2, v3] := by cases args; simp_all
  clear hA0 hval0 hA1
  obtain ⟨D0, s0, m0⟩ := ints_open (hval 0 27 v0 rfl rfl) h0 (fun x hx => hlt x (by simp [hx])) (fun b off hx => hfz b off (by simp [hx]))
  obtain ⟨x1, rfl, rfl, rfl, w1⟩ := open_int Try.underlying3 (hval 1 3 v1 rfl rfl) h1
  obtain ⟨x2, rfl, rfl, rfl, w2⟩ := open_int Try.underlying3 (hval 2 3 v2 rfl rfl) h2
  obtain ⟨x3, rfl, rfl, rfl, w3⟩ := open_int Try.underlying3 (hval 3 3 v3 rfl rfl) h3
  refine (law v0 D0 x1 x2 x3 W s0 m0 w1 w2 w3).mono fun e W' ⟨he, hb⟩ => ?_
  subst he
  exact ⟨_, rfl, post_of_below (pv := []) hW' (fun _ _ _ => trodAll_cons_mk (shut_bool Try.underlying4 _) trodAll_mk0)
    (fun sp hs => trodAll_stays hb (readable_all (by simp)) hA hlt sp (fun x hx => hs x (List.mem_append_left _ hx))) (fun _ _ => rfl) rfl hb (ok_one (by kernel_rfl) rfl (okWide_bool_mk Try.underlying4 _))⟩

/-- The statement. -/
theorem proved : Rows.FnRoadsSaid :=
  OpenClaim.holds_of_wide 5 Try.f5 rfl rfl rfl rfl rfl rfl rfl ⟨rfl, rfl, rfl, rfl, rfl⟩ rfl rfl rfl rfl rfl (by as_aux_lemma => kernel_rfl) Try.func5
    (closed_mk (P := Try.prog) (by as_aux_lemma => kernel_rfl) all_laid all_rowed (by as_aux_lemma => kernel_rfl) rfl rfl all_stops rfl all_knobs
      (by as_aux_lemma => kernel_rfl) (by as_aux_lemma => kernel_rfl) (by as_aux_lemma => kernel_rfl) (by as_aux_lemma => kernel_rfl)
      (by as_aux_lemma => kernel_rfl) (by as_aux_lemma => kernel_rfl) (by as_aux_lemma => kernel_rfl) (by as_aux_lemma => kernel_rfl) (by as_aux_lemma => kernel_rfl)
      rfl (by as_aux_lemma => kernel_rfl) (by as_aux_lemma => kernel_rfl) (by as_aux_lemma => kernel_rfl)
      (by as_aux_lemma => kernel_rfl) rfl all_heard may_enter rfl lifts_final rfl make_cut rfl rfl rfl (by as_aux_lemma => kernel_rfl) (by as_aux_lemma => kernel_rfl))
    (of_decide_eq_true (by as_aux_lemma => kernel_rfl)) (by as_aux_lemma => (unfold Func.isWrapper; first | (rw [if_pos (by decide +kernel)]; kernel_rfl) | (rw [if_neg (by decide +kernel)]; exact ⟨rfl, rfl⟩)))
    (fun os started H enc _ => lifted os started H enc)
end Go.Proofs.Ytcamaikogengoaa.fnRoads
