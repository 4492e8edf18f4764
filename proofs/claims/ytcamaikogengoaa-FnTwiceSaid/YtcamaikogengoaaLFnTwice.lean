/- The law FnTwice is proved: exchanged twice, and turned round twice, a range is as before, and by three turns two parts are exchanged. It holds for every input, with no condition. -/
import Derived.Test.YtcamaikogengoaaClosed
import Derived.Test.YtcamaikogengoaaIntEqual
import Derived.Test.YtcamaikogengoaaIntClone
import Derived.Test.YtcamaikogengoaaARotate
import Derived.Test.YtcamaikogengoaaAReverseRange
namespace Go.Proofs.Ytcamaikogengoaa.fnTwice
set_option linter.unusedVariables false
set_option linter.unusedSimpArgs false
set_option linter.unusedSectionVars false
open Go.ChangeShapes Go.WideShapes Go.ChangeAt Go.RowKit

open Go.Sort
set_option maxHeartbeats 1000000 in
theorem law (v : Value) (D : Array Int) (a m b : Int) (w : World) (h : SlAt HI 0 w v D) (_hm : D.size ≤ maxLen) (_wa : (Lit.int .i64 a).wf = true) (_wb : (Lit.int .i64 m).wf = true) (_wl : (Lit.int .i64 b).wf = true) :
    Calls Try.prog 14 #[v, .int .i64 a, .int .i64 m, .int .i64 b] w fun e w' => e = .returned (.bool true) ∧ RowKit.Below w.heap.size w w' := by
  have h' := h
  obtain ⟨A, cap, rfl, hcp, hh⟩ := h
  clear hh hcp
  by_cases hbig : D.size ≤ 2147483647
  · have hbz : (D.size : Int) ≤ 2147483647 := by omega
    by_cases hr : InRange D.size a b
    · obtain ⟨h0, h1, h2, h3⟩ := hr
      by_cases ham : a < m
      · by_cases hmb : m < b
        · obtain ⟨a, rfl⟩ := Int.eq_ofNat_of_zero_le h0
          obtain ⟨m, rfl⟩ := Int.eq_ofNat_of_zero_le (show 0 ≤ m by omega)
          obtain ⟨b, rfl⟩ := Int.eq_ofNat_of_zero_le (Int.le_trans h0 h1)
          have q1 : a < m := by omega
          have q2 : m < b := by omega
          have q3 : b ≤ D.size := by omega
          have zR : (rotate D a m b).size = D.size := (rotate_spec q1 q2 q3).size
          have zQ : (reverseRange D a b).size = D.size := (reverseRange_spec (by omega) q3).1
          have z5 : (reverseRange D a m).size = D.size := (reverseRange_spec (by omega) (by omega)).1
          have z6 : (reverseRange (reverseRange D a m) m b).size = D.size := ((reverseRange_spec (by omega) (by omega)).1).trans z5
          have c1 := fun W hW => Rotate_impl (.slice A D.size cap) D a m b W hW q1 q2 q3 hbig
          have c2 := fun v W hW => Rotate_impl v (rotate D a m b) a (a + (b - m)) b W hW (by omega) (by omega) (by omega) (by omega)
          rw [rotate_twice q1 q2 q3, show ((a + (b - m) : Nat) : Int) = (a : Int) + (b : Int) - (m : Int) from by omega] at c2
          have c3 := fun W hW => Reverse_impl (.slice A D.size cap) D a b W hW (by omega) q3 hbig
          have c4 := fun v W hW => Reverse_impl v (reverseRange D a b) a b W hW (by omega) (by omega) (by omega)
          rw [reverse_twice (by omega) q3] at c4
          have c5 := fun W hW => Reverse_impl (.slice A D.size cap) D a m W hW (by omega) (by omega) hbig
          have c6 := fun v W hW => Reverse_impl v (reverseRange D a m) m b W hW (by omega) (by omega) (by omega)
          have c7 := fun v W hW => Reverse_impl v (reverseRange (reverseRange D a m) m b) a b W hW (by omega) (by omega) (by omega)
          rw [three_turns q1 q2 q3] at c7
          have e1 := fun v1 v2 W h1 h2 => equal_yes v1 v2 D W h1 h2 hbig
          have e2 := fun v1 v2 W h1 h2 => equal_yes v1 v2 (rotate D a m b) W h1 h2 (by omega)
          have C1 := Lib.hid c1; have C2 := Lib.hid c2; have C3 := Lib.hid c3; have C4 := Lib.hid c4; have C5 := Lib.hid c5; have C6 := Lib.hid c6; have C7 := Lib.hid c7; have E1 := Lib.hid e1; have E2 := Lib.hid e2
          clear c1 c2 c3 c4 c5 c6 c7 e1 e2 zR zQ z5 z6
          go_enter Try.func14, Try.ntmps14
          go_wp2_with fail
          refine (range_yes A D.size cap a b _ h0 h1 h2 h3).mono ?_
          rintro e w0 ⟨rfl, rfl⟩
          go_wp2_with fail
          refine (C1.out _ h').mono ?_
          rintro e w1 ⟨v1, rfl, hs1, hb1⟩
          go_wp2_with fail
          refine (C2.out _ _ hs1.any).mono ?_
          rintro e w2 ⟨v2, rfl, hs2, hb2⟩
          have k2 := hb1.trans (hb2.mono hb1.size)
          have s1 := keepI hs1 hb2
          go_wp2_with fail
          refine (E1.out _ _ _ hs2.any (keepI h' k2)).mono ?_
          rintro e w3 ⟨rfl, hb3⟩
          have k3 := k2.trans (hb3.mono k2.size)
          have s1 := keepI s1 hb3
          clear hs1 hs2 hb1 hb2 k2
          go_wp2_with fail
          refine (C3.out _ (keepI h' k3)).mono ?_
          rintro e w4 ⟨v4, rfl, hs4, hb4⟩
          have k4 := k3.trans (hb4.mono k3.size)
          have s1 := keepI s1 hb4
          go_wp2_with fail
          refine (C4.out _ _ hs4.any).mono ?_
          rintro e w5 ⟨v5, rfl, hs5, hb5⟩
          have k5 := k4.trans (hb5.mono k4.size)
          have s1 := keepI s1 hb5
          go_wp2_with fail
          refine (E1.out _ _ _ hs5.any (keepI h' k5)).mono ?_
          rintro e w6 ⟨rfl, hb6⟩
          have k6 := k5.trans (hb6.mono k5.size)
          have s1 := keepI s1 hb6
          clear hs4 hs5 hb3 hb4 hb5 hb6 k3 k4 k5
          go_wp2_with fail
          refine (C5.out _ (keepI h' k6)).mono ?_
          rintro e w7 ⟨v7, rfl, hs7, hb7⟩
          have k7 := k6.trans (hb7.mono k6.size)
          have s1 := keepI s1 hb7
          go_wp2_with fail
          refine (C6.out _ _ hs7.any).mono ?_
          rintro e w8 ⟨v8, rfl, hs8, hb8⟩
          have k8 := k7.trans (hb8.mono k7.size)
          have s1 := keepI s1 hb8
          go_wp2_with fail
          refine (C7.out _ _ hs8.any).mono ?_
          rintro e w9 ⟨v9, rfl, hs9, hb9⟩
          have k9 := k8.trans (hb9.mono k8.size)
          have s1 := keepI s1 hb9
          go_wp2_with fail
          refine (E2.out _ _ _ hs9.any s1).mono ?_
          rintro e w10 ⟨rfl, hb10⟩
          have k10 := k9.trans (hb10.mono k9.size)
          go_wp2
          go_ret
          exact ⟨rfl, k10⟩
        · obtain ⟨a, rfl⟩ := Int.eq_ofNat_of_zero_le h0
          obtain ⟨b, rfl⟩ := Int.eq_ofNat_of_zero_le (Int.le_trans h0 h1)
          have hmb' : (b : Int) ≤ m := by omega
          go_enter Try.func14, Try.ntmps14
          go_wp2_with (first | (go_at_call 33; refine (range_yes A D.size cap a b _ h0 h1 h2 h3).mono ?_; rintro e w1 ⟨rfl, rfl⟩))
          go_ret
          exact ⟨rfl, RowKit.Below.refl _ _⟩
      · obtain ⟨a, rfl⟩ := Int.eq_ofNat_of_zero_le h0
        obtain ⟨b, rfl⟩ := Int.eq_ofNat_of_zero_le (Int.le_trans h0 h1)
        have ham' : m ≤ (a : Int) := by omega
        go_enter Try.func14, Try.ntmps14
        go_wp2_with (first | (go_at_call 33; refine (range_yes A D.size cap a b _ h0 h1 h2 h3).mono ?_; rintro e w1 ⟨rfl, rfl⟩))
        go_ret
        exact ⟨rfl, RowKit.Below.refl _ _⟩
    · go_enter Try.func14, Try.ntmps14
      go_wp2_with (first | (go_at_call 33; refine (range_no A D.size cap a b _ hr).mono ?_; rintro e w1 ⟨rfl, rfl⟩))
      go_ret
      exact ⟨rfl, RowKit.Below.refl _ _⟩
  · go_enter Try.func14, Try.ntmps14
    go_wp2
    go_ret
    exact ⟨rfl, RowKit.Below.refl _ _⟩

set_option maxRecDepth 100000 in
theorem lifted (os : Os) (started : os.Started) (H : Type) (enc : TypeId × Value → H) :
    ReturnsInHanded {} Try.checked os 14 .any (Rows.fnTwiceSpec.pre6 enc Try.prog Try.f14 Rows.fnTwiceRow.domain false) (Rows.fnTwiceSpec.post enc Try.prog Try.f14 false true false false) := by
  refine returnsInHanded_of_change (C := Try.checked) own started (by kernel_rfl) Try.func14
    (ChangeSpec.witness6 (enc := enc) (C := Try.checked) false ⟨#[], #[.slice none 0 0, .int .i64 0, .int .i64 0, .int .i64 0], []⟩ 8 (by kernel_rfl) (by kernel_rfl) (by kernel_rfl) (by kernel_rfl)) ?_
  intro W base args ds gs before hval0 hW _ _
  have hval : ∀ (j : Nat) t v, Try.f14.params[j]? = some t → args[j]? = some v → Value.okWide Try.prog W .any base t v := hval0
  have hW' := hW
  obtain ⟨p, q, hA0, hV, rfl, hfz, _⟩ := hW
  have hA : DataW.TrodAll enc Try.prog W 0 (fun _ => true) true Try.f14.params.toList args.toList ds p := hA0
  rw [Try.params14] at hA hval
  obtain ⟨rfl, rfl⟩ := trodVars_none hV
  have hlt := hW'.lt
  simp only [List.append_nil] at hfz hlt
  have hA1 := hA
  obtain ⟨v0, vs0, d0, ds0, p0, q0, hargs, rfl, rfl, h0, r0⟩ := trodAll_cons hA1
  obtain ⟨v1, vs1, d1, ds1, p1, q1, rfl, rfl, rfl, h1, r1⟩ := trodAll_cons r0
  obtain ⟨v2, vs2, d2, ds2, p2, q2, rfl, rfl, rfl, h2, r2⟩ := trodAll_cons r1
  obtain ⟨v3, vs3, d3, ds3, p3, q3, rfl, rfl, rfl, h3, r3⟩ := trodAll_cons r2
  obtain ⟨rfl, rfl, rfl⟩ := trodAll_nil r3
  obtain rfl : args = #[v0, v1, v2, v3] := by cases args; simp_all
  clear hA0 hval0 hA1
  obtain ⟨D0, s0, m0⟩ := ints_open (hval 0 27 v0 rfl rfl) h0 (fun x hx => hlt x (by simp [hx])) (fun b off hx => hfz b off (by simp [hx]))
  obtain ⟨x1, rfl, rfl, rfl, w1⟩ := open_int Try.underlying3 (hval 1 3 v1 rfl rfl) h1
  obtain ⟨x2, rfl, rfl, rfl, w2⟩ := open_int Try.underlying3 (hval 2 3 v2 rfl rfl) h2
  obtain ⟨x3, rfl, rfl, rfl, w3⟩ := open_int Try.underlying3 (hval 3 3 v3 rfl rfl) h3
  refine (law v0 D0 x1 x2 x3 W s0 m0 w1 w2 w3).mono fun e W' ⟨he, hb⟩ => ?_
  subst he
  exact ⟨_, rfl, post_of_below (pv := []) hW' (fun _ _ _ => trodAll_cons_mk (shut_bool Try.underlying4 _) trodAll_mk0)
    (fun sp hs => trodAll_stays hb (readable_all (by simp)) hA hlt sp (fun x hx => hs x (List.mem_append_left _ hx))) (fun _ _ => rfl) rfl hb (ok_one (by kernel_rfl) rfl (okWide_bool_mk Try.underlying4 _))⟩

/-- The statement. -/
theorem proved : Rows.FnTwiceSaid :=
  OpenClaim.holds_of_wide 14 Try.f14 rfl rfl rfl rfl rfl rfl rfl ⟨rfl, rfl, rfl, rfl, rfl⟩ rfl rfl rfl rfl rfl (by as_aux_lemma => kernel_rfl) Try.func14
    (closed_mk (P := Try.prog) (by as_aux_lemma => kernel_rfl) all_laid all_rowed (by as_aux_lemma => kernel_rfl) rfl rfl all_stops rfl all_knobs
      (by as_aux_lemma => kernel_rfl) (by as_aux_lemma => kernel_rfl) (by as_aux_lemma => kernel_rfl) (by as_aux_lemma => kernel_rfl)
      (by as_aux_lemma => kernel_rfl) (by as_aux_lemma => kernel_rfl) (by as_aux_lemma => kernel_rfl) (by as_aux_lemma => kernel_rfl) (by as_aux_lemma => kernel_rfl)
      rfl (by as_aux_lemma => kernel_rfl) (by as_aux_lemma => kernel_rfl) (by as_aux_lemma => kernel_rfl)
      (by as_aux_lemma => kernel_rfl) rfl all_heard may_enter rfl lifts_final rfl make_cut rfl rfl rfl (by as_aux_lemma => kernel_rfl) (by as_aux_lemma => kernel_rfl))
    (of_decide_eq_true (by as_aux_lemma => kernel_rfl)) (by as_aux_lemma => (unfold Func.isWrapper; first | (rw [if_pos (by decide +kernel)]; kernel_rfl) | (rw [if_neg (by decide +kernel)]; exact ⟨rfl, rfl⟩)))
    (fun os started H enc _ => lifted os started H enc)
end Go.Proofs.Ytcamaikogengoaa.fnTwice
