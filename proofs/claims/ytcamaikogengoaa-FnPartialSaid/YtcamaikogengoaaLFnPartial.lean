/- The law FnPartial is proved: a range ahead of which nothing is greater, and that is partly sorted, has the same numbers, and is sorted if that is told, which it is of what is sorted. It holds for every input, with no condition. -/
import Derived.Test.YtcamaikogengoaaClosed
import Derived.Test.YtcamaikogengoaaIntClone
import Derived.Test.YtcamaikogengoaaIntSame
import Derived.Test.YtcamaikogengoaaIntAhead
import Derived.Test.YtcamaikogengoaaIntIsSorted
import Derived.Test.YtcamaikogengoaaAPartial
import Derived.Test.YtcamaikogengoaaPlainPart
namespace Go.Proofs.Ytcamaikogengoaa.fnPartial
set_option linter.unusedVariables false
set_option linter.unusedSimpArgs false
set_option linter.unusedSectionVars false
open Go.ChangeShapes Go.WideShapes Go.ChangeAt Go.RowKit

open Go.Sort
set_option maxRecDepth 100000 in
set_option maxHeartbeats 4000000 in
theorem law (v : Value) (D : Array Int) (a b : Int) (w : World) (h : SlAt HI 0 w v D) (_hm : D.size ≤ maxLen) (_wa : (Lit.int .i64 a).wf = true) (_wb : (Lit.int .i64 b).wf = true) :
    Calls Try.prog 22 #[v, .int .i64 a, .int .i64 b] w fun e w' => e = .returned (.bool true) ∧ RowKit.Below w.heap.size w w' := by
  have h' := h
  obtain ⟨A, cap, rfl, hcp, hh⟩ := h
  clear hh
  by_cases hbig : D.size ≤ 2147483647
  · have hbz : (D.size : Int) ≤ 2147483647 := by omega
    by_cases hr : InRange D.size a b
    · obtain ⟨h0, h1, h2, h3⟩ := hr
      by_cases he : a = b
      · subst he
        have heb : (a == a) = true := by simp
        go_enter Try.func22, Try.ntmps22
        go_wp2_with (first | (go_at_call 33; refine (range_yes A D.size cap a a _ h0 h1 h2 h3).mono ?_; rintro e w0 ⟨rfl, rfl⟩))
        go_ret
        exact ⟨rfl, RowKit.Below.refl _ _⟩
      obtain ⟨a, rfl⟩ := Int.eq_ofNat_of_zero_le h0
      obtain ⟨b, rfl⟩ := Int.eq_ofNat_of_zero_le (Int.le_trans h0 h1)
      have q1 : a ≤ b := by omega
      have q1' : a < b := by omega
      have q3 : b ≤ D.size := by omega
      have ne1 : (a == b) = false := by simp; omega
      have ne2 : ((a : Int) == (b : Int)) = false := by simp; omega
      cases hA : aheadB D a b with
      | false =>
        have HA : Hid (aheadB D a b = false) := hA
        clear hA
        go_enter Try.func22, Try.ntmps22
        go_wp2_with (first
          | (go_at_call 33; refine (range_yes A D.size cap a b _ h0 h1 h2 h3).mono ?_; rintro e w0 ⟨rfl, rfl⟩)
          | (go_at_call 34; refine (Ahead_at _ D a b _ h' q1 q3 hbig).mono ?_; rw [HA.out]; rintro e w1 ⟨rfl, rfl⟩))
        go_ret
        exact ⟨rfl, RowKit.Below.refl _ _⟩
      | true =>
        have HA : Hid (aheadB D a b = true) := hA
        have hB0 := ahead_below (aheadB_iff.1 hA)
        clear hA
        have c1 := fun W hW => Partial_impl (.slice A D.size cap) D a b W hW q1' q3 hB0 hbig
        obtain ⟨p1, p2⟩ := partialInsertionSort_holds swo_ltInt D a b q1' q3 hB0
        have p3 := partial_sorted (lt := ltInt) D a b q1'
        obtain ⟨R, hR⟩ : ∃ R, (Sort.partialInsertionSort ltInt D a b).1 = R := ⟨_, rfl⟩
        obtain ⟨y, hy⟩ : ∃ y, (Sort.partialInsertionSort ltInt D a b).2 = y := ⟨_, rfl⟩
        rw [hR, hy] at p2 c1
        rw [hR] at p1
        rw [hy] at p3
        clear hR hy
        have hRz : R.size = D.size := p1.1
        have c4 := fun v1 W h1 h2 => Same_at v1 (.slice A D.size cap) R D a b W h1 h2 q1 q3 hbig p1
        have C1 := Lib.hid c1
        have C4 := Lib.hid c4
        have zc : b ≤ cap := by omega
        have ab0 : (a : Int) ≤ (b : Int) := by omega
        cases y with
        | true =>
          have had : Adj (R.extract a b) := fun t h1 h2 => by
            rw [part_size R (by omega)] at h2
            rw [part_at R (by omega) h2, part_at R (by omega) (by omega)]
            exact p2 rfl (a + (t - 1)) (a + t) (by omega) (by omega) (by omega)
          have HAD := Lib.hid had
          clear c1 c4 p1 p2 p3 had hB0
          go_enter Try.func22, Try.ntmps22
          go_wp2_with fail
          refine (range_yes A D.size cap a b _ h0 h1 h2 h3).mono ?_
          rintro e w0 ⟨rfl, rfl⟩
          go_wp2_with fail
          refine (Ahead_at _ D a b _ h' q1 q3 hbig).mono ?_
          rw [HA.out]
          rintro e w1 ⟨rfl, rfl⟩
          go_wp2_with fail
          refine (C1.out _ h').mono ?_
          rintro e w1 ⟨v1, rfl, hs1, hb1⟩
          have hs1' := hs1
          obtain ⟨A1, cap1, rfl, hcp1, hh1⟩ := hs1
          clear hh1
          rw [hRz] at hcp1
          have zc1 : b ≤ cap1 := by omega
          have hbd : RowKit.Below w1.heap.size w1 w1.drew := below_drewN (RowKit.Below.refl _ _) 1
          have g1 := fun W => run_cut_lh Try.underlying27 Try.sizeOf3 A1 R.size cap1 a b q1 zc1 W
          have g2 := fun W => run_cut_lh Try.underlying27 Try.sizeOf3 A D.size cap a b q1 zc W
          have S5 := Lib.hid (fun W (hW : RowKit.Below w1.heap.size w1 W) => IsSorted_yes _ _ W ((keepI hs1' hW).any.part q1 (by omega)) (by rw [part_size R (by omega)]; omega) HAD.out)
          rw [hRz] at hs1' g1
          rw [hRz]
          have S4 := Lib.hid (fun W (hW : RowKit.Below w1.heap.size w1 W) => C4.out _ W (keepI hs1' hW).any (keepI h' (hb1.trans (hW.mono hb1.size))))
          clear hs1' hcp1 hcp
          go_wp2_with fail
          refine (S4.out _ (RowKit.Below.refl _ _)).mono ?_
          rintro e w2 ⟨rfl, hb2⟩
          go_wp2_with fail
          refine (S5.out _ hb2).mono ?_
          rintro e w3 ⟨rfl, hb3⟩
          go_wp2
          go_ret
          exact ⟨rfl, hb1.trans ((hb2.trans (hb3.mono hb2.size)).mono hb1.size)⟩
        | false =>
          have had : ¬ Adj (D.extract a b) := fun h => by
            have e := p3 fun t h1 h2 => by
              have := h (t - a) (by omega) (by rw [part_size D q3]; omega)
              rw [part_at D q3 (by omega), part_at D q3 (by omega), show a + (t - a) = t from by omega, show a + (t - a - 1) = t - 1 from by omega] at this
              exact this
            cases e
          have HAD := Lib.hid had
          clear c1 c4 p1 p2 p3 had hB0
          go_enter Try.func22, Try.ntmps22
          go_wp2_with fail
          refine (range_yes A D.size cap a b _ h0 h1 h2 h3).mono ?_
          rintro e w0 ⟨rfl, rfl⟩
          go_wp2_with fail
          refine (Ahead_at _ D a b _ h' q1 q3 hbig).mono ?_
          rw [HA.out]
          rintro e w1 ⟨rfl, rfl⟩
          go_wp2_with fail
          refine (C1.out _ h').mono ?_
          rintro e w1 ⟨v1, rfl, hs1, hb1⟩
          have hs1' := hs1
          obtain ⟨A1, cap1, rfl, hcp1, hh1⟩ := hs1
          clear hh1
          rw [hRz] at hcp1
          have zc1 : b ≤ cap1 := by omega
          have hbd : RowKit.Below w1.heap.size w1 w1.drew := below_drewN (RowKit.Below.refl _ _) 1
          have g1 := fun W => run_cut_lh Try.underlying27 Try.sizeOf3 A1 R.size cap1 a b q1 zc1 W
          have g2 := fun W => run_cut_lh Try.underlying27 Try.sizeOf3 A D.size cap a b q1 zc W
          have S5 := Lib.hid (fun W (hW : RowKit.Below w1.heap.size w1 W) => IsSorted_no _ _ W ((keepI h' (hb1.trans (hW.mono hb1.size))).part q1 q3) (by rw [part_size D q3]; omega) HAD.out)
          rw [hRz] at hs1' g1
          rw [hRz]
          have S4 := Lib.hid (fun W (hW : RowKit.Below w1.heap.size w1 W) => C4.out _ W (keepI hs1' hW).any (keepI h' (hb1.trans (hW.mono hb1.size))))
          clear hs1' hcp1 hcp
          go_wp2_with fail
          refine (S4.out _ (RowKit.Below.refl _ _)).mono ?_
          rintro e w2 ⟨rfl, hb2⟩
          go_wp2_with fail
          refine (S5.out _ hb2).mono ?_
          rintro e w3 ⟨rfl, hb3⟩
          go_wp2
          go_ret
          exact ⟨rfl, hb1.trans ((hb2.trans (hb3.mono hb2.size)).mono hb1.size)⟩
    · go_enter Try.func22, Try.ntmps22
      go_wp2_with (first | (go_at_call 33; refine (range_no A D.size cap a b _ hr).mono ?_; rintro e w1 ⟨rfl, rfl⟩))
      go_ret
      exact ⟨rfl, RowKit.Below.refl _ _⟩
  · go_enter Try.func22, Try.ntmps22
    go_wp2
    go_ret
    exact ⟨rfl, RowKit.Below.refl _ _⟩

set_option maxRecDepth 100000 in
theorem lifted (os : Os) (started : os.Started) (H : Type) (enc : TypeId × Value → H) :
    ReturnsInHanded {} Try.checked os 22 .any (Rows.fnPartialSpec.pre6 enc Try.prog Try.f22 Rows.fnPartialRow.domain false) (Rows.fnPartialSpec.post enc Try.prog Try.f22 false true false false) := by
  refine returnsInHanded_of_change (C := Try.checked) own started (by kernel_rfl) Try.func22
    (ChangeSpec.witness6 (enc := enc) (C := Try.checked) false ⟨#[], #[.slice none 0 0, .int .i64 0, .int .i64 0], []⟩ 8 (by kernel_rfl) (by kernel_rfl) (by kernel_rfl) (by kernel_rfl)) ?_
  intro W base args ds gs before hval0 hW _ _
  have hval : ∀ (j : Nat) t v, Try.f22.params[j]? = some t → args[j]? = some v → Value.okWide Try.prog W .any base t v := hval0
  have hW' := hW
  obtain ⟨p, q, hA0, hV, rfl, hfz, _⟩ := hW
  have hA : DataW.TrodAll enc Try.prog W 0 (fun _ => true) true Try.f22.params.toList args.toList ds p := hA0
  rw [Try.params22] at hA hval
  obtain ⟨rfl, rfl⟩ := trodVars_none hV
  have hlt := hW'.lt
  simp only [List.append_nil] at hfz hlt
  have hA1 := hA
  obtain ⟨v0, vs0, d0, ds0, p0, q0, hargs, rfl, rfl, h0, r0⟩ := trodAll_cons hA1
  obtain ⟨v1, vs1, d1, ds1, p1, q1, rfl, rfl, rfl, h1, r1⟩ := trodAll_cons r0
  obtain ⟨v2, vs2, d2, ds2, p2, q2, rfl, rfl, rfl, h2, r2⟩ := trodAll_cons r1
  obtain ⟨rfl, rfl, rfl⟩ := trodAll_nil r2
  obtain rfl : args = #[v0, v1, v2] := by cases args; simp_all
  clear hA0 hval0 hA1
  obtain ⟨D0, s0, m0⟩ := ints_open (hval 0 27 v0 rfl rfl) h0 (fun x hx => hlt x (by simp [hx])) (fun b off hx => hfz b off (by simp [hx]))
  obtain ⟨x1, rfl, rfl, rfl, w1⟩ := open_int Try.underlying3 (hval 1 3 v1 rfl rfl) h1
  obtain ⟨x2, rfl, rfl, rfl, w2⟩ := open_int Try.underlying3 (hval 2 3 v2 rfl rfl) h2
  refine (law v0 D0 x1 x2 W s0 m0 w1 w2).mono fun e W' ⟨he, hb⟩ => ?_
  subst he
  exact ⟨_, rfl, post_of_below (pv := []) hW' (fun _ _ _ => trodAll_cons_mk (shut_bool Try.underlying4 _) trodAll_mk0)
    (fun sp hs => trodAll_stays hb (readable_all (by simp)) hA hlt sp (fun x hx => hs x (List.mem_append_left _ hx))) (fun _ _ => rfl) rfl hb (ok_one (by kernel_rfl) rfl (okWide_bool_mk Try.underlying4 _))⟩

/-- The statement. -/
theorem proved : Rows.FnPartialSaid :=
  OpenClaim.holds_of_wide 22 Try.f22 rfl rfl rfl rfl rfl rfl rfl ⟨rfl, rfl, rfl, rfl, rfl⟩ rfl rfl rfl rfl rfl (by as_aux_lemma => kernel_rfl) Try.func22
    (closed_mk (P := Try.prog) (by as_aux_lemma => kernel_rfl) all_laid all_rowed (by as_aux_lemma => kernel_rfl) rfl rfl all_stops rfl all_knobs
      (by as_aux_lemma => kernel_rfl) (by as_aux_lemma => kernel_rfl) (by as_aux_lemma => kernel_rfl) (by as_aux_lemma => kernel_rfl)
      (by as_aux_lemma => kernel_rfl) (by as_aux_lemma => kernel_rfl) (by as_aux_lemma => kernel_rfl) (by as_aux_lemma => kernel_rfl) (by as_aux_lemma => kernel_rfl)
      rfl (by as_aux_lemma => kernel_rfl) (by as_aux_lemma => kernel_rfl) (by as_aux_lemma => kernel_rfl)
      (by as_aux_lemma => kernel_rfl) rfl all_heard may_enter rfl lifts_final rfl make_cut rfl rfl rfl (by as_aux_lemma => kernel_rfl) (by as_aux_lemma => kernel_rfl))
    (of_decide_eq_true (by as_aux_lemma => kernel_rfl)) (by as_aux_lemma => (unfold Func.isWrapper; first | (rw [if_pos (by decide +kernel)]; kernel_rfl) | (rw [if_neg (by decide +kernel)]; exact ⟨rfl, rfl⟩)))
    (fun os started H enc _ => lifted os started H enc)
end Go.Proofs.Ytcamaikogengoaa.fnPartial
