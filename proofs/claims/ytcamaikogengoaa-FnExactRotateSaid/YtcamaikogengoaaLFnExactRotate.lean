/- The law FnExactRotate is proved: two parts of a range are exchanged. It holds for every input, with no condition. -/
import Derived.Test.YtcamaikogengoaaClosed
import Derived.Test.YtcamaikogengoaaIntEqual
import Derived.Test.YtcamaikogengoaaIntClone
import Derived.Test.YtcamaikogengoaaIntRotated
import Derived.Test.YtcamaikogengoaaARotate
namespace Go.Proofs.Ytcamaikogengoaa.fnExactRotate
set_option linter.unusedVariables false
set_option linter.unusedSimpArgs false
set_option linter.unusedSectionVars false
open Go.ChangeShapes Go.WideShapes Go.ChangeAt Go.RowKit

open Go.Sort
set_option maxHeartbeats 1000000 in
theorem law (v : Value) (D : Array Int) (a m b : Int) (w : World) (h : SlAt HI 0 w v D) (_hm : D.size ≤ maxLen) (_wa : (Lit.int .i64 a).wf = true) (_wm : (Lit.int .i64 m).wf = true) (_wb : (Lit.int .i64 b).wf = true) :
    Calls Try.prog 18 #[v, .int .i64 a, .int .i64 m, .int .i64 b] w fun e w' => e = .returned (.bool true) ∧ RowKit.Below w.heap.size w w' := by
  have h' := h
  obtain ⟨A, cap, rfl, hcp, hh⟩ := h
  clear hh
  by_cases hbig : D.size ≤ 2147483647
  · have hbz : (D.size : Int) ≤ 2147483647 := by omega
    by_cases hr : InRange D.size a b
    · obtain ⟨h0, h1, h2, h3⟩ := hr
      by_cases ham : a ≥ m
      · go_enter Try.func18, Try.ntmps18
        go_wp2_with (first | (go_at_call 33; refine (range_yes A D.size cap a b _ h0 h1 h2 h3).mono ?_; rintro e w1 ⟨rfl, rfl⟩))
        go_ret
        exact ⟨rfl, RowKit.Below.refl _ _⟩
      · by_cases hmb : m ≥ b
        · have hamz : a < m := by omega
          go_enter Try.func18, Try.ntmps18
          go_wp2_with (first | (go_at_call 33; refine (range_yes A D.size cap a b _ h0 h1 h2 h3).mono ?_; rintro e w1 ⟨rfl, rfl⟩))
          go_ret
          exact ⟨rfl, RowKit.Below.refl _ _⟩
        · obtain ⟨a, rfl⟩ := Int.eq_ofNat_of_zero_le h0
          obtain ⟨b, rfl⟩ := Int.eq_ofNat_of_zero_le (Int.le_trans h0 h1)
          obtain ⟨m, rfl⟩ := Int.eq_ofNat_of_zero_le (show 0 ≤ m by omega)
          have q1 : a < m := by omega
          have q2 : m < b := by omega
          have q3 : b ≤ D.size := by omega
          have e1 : decide ((a : Int) ≥ (m : Int)) = false := decide_eq_false ham
          have e2 : decide ((m : Int) ≥ (b : Int)) = false := decide_eq_false hmb
          have e3 : decide (m ≤ a) = false := decide_eq_false (by omega)
          have e4 : decide (b ≤ m) = false := decide_eq_false (by omega)
          have e5 : (a : Int) < (m : Int) := by omega
          have e6 : (m : Int) < (b : Int) := by omega
          have hz := (rotate_spec q1 q2 q3).size
          have HZ := Lib.hid hz
          clear hz
          go_enter Try.func18, Try.ntmps18
          go_wp2_with (first
            | (go_at_call 33; refine (range_yes A D.size cap a b _ h0 h1 h2 h3).mono ?_; rintro e w1 ⟨rfl, rfl⟩)
            | (go_at_call 58; refine (Rotate_impl _ D a m b _ h' q1 q2 q3 hbig).mono ?_; rintro e w1 ⟨v1, rfl, hs1, hb1⟩)
            | (go_at_call 64; refine (Rotated_at _ D a m b _ (keepI h' hb1) q1 q2 q3 hbig).mono ?_; rintro e w2 ⟨v2, rfl, hs2, hb2⟩)
            | (go_at_call 36; refine (equal_yes v1 v2 _ _ (keepI hs1 hb2) hs2.any (by rw [HZ.out]; exact hbig)).mono ?_; rintro e w3 ⟨rfl, hb3⟩))
          go_ret
          have hb12 := hb1.trans (hb2.mono hb1.size)
          exact ⟨rfl, hb12.trans (hb3.mono hb12.size)⟩
    · go_enter Try.func18, Try.ntmps18
      go_wp2_with (first | (go_at_call 33; refine (range_no A D.size cap a b _ hr).mono ?_; rintro e w1 ⟨rfl, rfl⟩))
      go_ret
      exact ⟨rfl, RowKit.Below.refl _ _⟩
  · go_enter Try.func18, Try.ntmps18
    go_wp2
    go_ret
    exact ⟨rfl, RowKit.Below.refl _ _⟩

set_option maxRecDepth 100000 in
theorem lifted (os : Os) (started : os.Started) (H : Type) (enc : TypeId × Value → H) :
    ReturnsInHanded {} Try.checked os 18 .any (Rows.fnExactRotateSpec.pre6 enc Try.prog Try.f18 Rows.fnExactRotateRow.domain false) (Rows.fnExactRotateSpec.post enc Try.prog Try.f18 false true false false) := by
  refine returnsInHanded_of_change (C := Try.checked) own started (by kernel_rfl) Try.func18
    (ChangeSpec.witness6 (enc := enc) (C := Try.checked) false ⟨#[], #[.slice none 0 0, .int .i64 0, .int .i64 0, .int .i64 0], []⟩ 8 (by kernel_rfl) (by kernel_rfl) (by kernel_rfl) (by kernel_rfl)) ?_
  intro W base args ds gs before hval0 hW _ _
  have hval : ∀ (j : Nat) t v, Try.f18.params[j]? = some t → args[j]? = some v → Value.okWide Try.prog W .any base t v := hval0
  have hW' := hW
  obtain ⟨p, q, hA0, hV, rfl, hfz, _⟩ := hW
  have hA : DataW.TrodAll enc Try.prog W 0 (fun _ => true) true Try.f18.params.toList args.toList ds p := hA0
  rw [Try.params18] at hA hval
  obtain ⟨rfl, rfl⟩ := trodVars_none hV
  have hlt := hW'.lt
  simp only [List.append_nil] at hfz hlt
  have hA1 := hA
  obtain ⟨v0, vs0, d0, ds0, p0, q0, hargs, rfl, rfl, h0, r0⟩ := trodAll_cons hA1
  obtain ⟨v1, vs1, d1, ds1, p1, q1, rfl, rfl, rfl, h1, r1⟩ := trodAll_cons r0
  obtain ⟨v2, vs2, d2, ds2, p2, q2, rfl, rfl, rfl, h2, r2⟩ := trodAll_cons r1
  obtain ⟨v3, vs3, d3, ds3, p3, q3, rfl, rfl, rfl, h3, r3⟩ := trodAll_cons r2
  obtain ⟨rfl, rfl, rfl⟩ := trodAll_nil r3
  obtain rfl : args = #[v0, v1, v2, v3] := by cases args; simp_all
  clear hA0 hval0 hA1
  obtain ⟨D0, s0, m0⟩ := ints_open (hval 0 27 v0 rfl rfl) h0 (fun x hx => hlt x (by simp [hx])) (fun b off hx => hfz b off (by simp [hx]))
  obtain ⟨x1, rfl, rfl, rfl, w1⟩ := open_int Try.underlying3 (hval 1 3 v1 rfl rfl) h1
  obtain ⟨x2, rfl, rfl, rfl, w2⟩ := open_int Try.underlying3 (hval 2 3 v2 rfl rfl) h2
  obtain ⟨x3, rfl, rfl, rfl, w3⟩ := open_int Try.underlying3 (hval 3 3 v3 rfl rfl) h3
  refine (law v0 D0 x1 x2 x3 W s0 m0 w1 w2 w3).mono fun e W' ⟨he, hb⟩ => ?_
  subst he
  exact ⟨_, rfl, post_of_below (pv := []) hW' (fun _ _ _ => trodAll_cons_mk (shut_bool Try.underlying4 _) trodAll_mk0)
    (fun sp hs => trodAll_stays hb (readable_all (by simp)) hA hlt sp (fun x hx => hs x (List.mem_append_left _ hx))) (fun _ _ => rfl) rfl hb (ok_one (by kernel_rfl) rfl (okWide_bool_mk Try.underlying4 _))⟩

/-- The statement. -/
theorem proved : Rows.FnExactRotateSaid :=
  OpenClaim.holds_of_wide 18 Try.f18 rfl rfl rfl rfl rfl rfl rfl ⟨rfl, rfl, rfl, rfl, rfl⟩ rfl rfl rfl rfl rfl (by as_aux_lemma => kernel_rfl) Try.func18
    (closed_mk (P := Try.prog) (by as_aux_lemma => kernel_rfl) all_laid all_rowed (by as_aux_lemma => kernel_rfl) rfl rfl all_stops rfl all_knobs
      (by as_aux_lemma => kernel_rfl) (by as_aux_lemma => kernel_rfl) (by as_aux_lemma => kernel_rfl) (by as_aux_lemma => kernel_rfl)
      (by as_aux_lemma => kernel_rfl) (by as_aux_lemma => kernel_rfl) (by as_aux_lemma => kernel_rfl) (by as_aux_lemma => kernel_rfl) (by as_aux_lemma => kernel_rfl)
      rfl (by as_aux_lemma => kernel_rfl) (by as_aux_lemma => kernel_rfl) (by as_aux_lemma => kernel_rfl)
      (by as_aux_lemma => kernel_rfl) rfl all_heard may_enter rfl lifts_final rfl make_cut rfl rfl rfl (by as_aux_lemma => kernel_rfl) (by as_aux_lemma => kernel_rfl))
    (of_decide_eq_true (by as_aux_lemma => kernel_rfl)) (by as_aux_lemma => (unfold Func.isWrapper; first | (rw [if_pos (by decide +kernel)]; kernel_rfl) | (rw [if_neg (by decide +kernel)]; exact ⟨rfl, rfl⟩)))
    (fun os started H enc _ => lifted os started H enc)
end Go.Proofs.Ytcamaikogengoaa.fnExactRotate
