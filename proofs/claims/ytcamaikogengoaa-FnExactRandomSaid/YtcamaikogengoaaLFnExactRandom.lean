/- The law FnExactRandom is proved: the random numbers are those of a shift register by 13, 7 and 17 bits. It holds for every input, with no condition. -/
import Derived.Test.YtcamaikogengoaaClosed
import Derived.Test.YtcamaikogengoaaRand
namespace Go.Proofs.Ytcamaikogengoaa.fnExactRandom
set_option linter.unusedVariables false
set_option linter.unusedSimpArgs false
set_option linter.unusedSectionVars false
open Go.ChangeShapes Go.WideShapes Go.ChangeAt Go.RowKit

open Go.Sort
set_option maxHeartbeats 400000 in
theorem law (x n : Int) (w : World) (wx : (Lit.int .u64 x).wf = true) (_wn : (Lit.int .i64 n).wf = true) :
    Calls Try.prog 3 #[.int .u64 x, .int .i64 n] w fun e w' => e = .returned (.bool true) ∧ RowKit.Below w.heap.size w w' := by
  obtain ⟨x0, x1⟩ := Go.bounds_u64 wx
  clear wx
  by_cases h0 : n < 0
  · have d0 : decide (n < 0) = true := decide_eq_true h0
    go_enter Try.func3, Try.ntmps3
    go_wp2
    go_ret
    exact ⟨rfl, RowKit.Below.refl _ _⟩
  · have d0 : decide (n < 0) = false := decide_eq_false h0
    by_cases h1 : n > 10000
    · have d1 : decide (n > 10000) = true := decide_eq_true h1
      have hp : 0 ≤ n := by omega
      go_enter Try.func3, Try.ntmps3
      go_wp2
      go_ret
      exact ⟨rfl, RowKit.Below.refl _ _⟩
    · obtain ⟨n, rfl⟩ := Int.eq_ofNat_of_zero_le (show 0 ≤ n by omega)
      obtain ⟨x, rfl⟩ := Int.eq_ofNat_of_zero_le x0
      have h2 : (n : Int) ≤ 10000 := by omega
      have q1 : x < 18446744073709551616 := by omega
      have q2 : n ≤ 10000 := by omega
      have HZ := Lib.hid (nums_size x n)
      have K1 := Lib.hid (fun W => Random_impl x n W q1 q2)
      have K2 := Lib.hid (fun W => Random_spec x n W q1 q2)
      clear x0 x1 q1
      go_enter Try.func3, Try.ntmps3
      go_wp2_with (first
        | (go_at_call 30; refine (K1.out _).mono ?_; rintro e w1 ⟨v1, rfl, hs1, hb1⟩)
        | (go_at_call 31; refine (K2.out _).mono ?_; rintro e w2 ⟨v2, rfl, hs2, hb2⟩)
        | (go_at_call 29; refine (equalU_yes v1 v2 _ _ (keepU hs1 hb2) hs2.any (by rw [HZ.out]; omega)).mono ?_; rintro e w3 ⟨rfl, n, rfl⟩))
      go_ret
      exact ⟨rfl, below_drewN (hb1.trans (hb2.mono hb1.size)) _⟩

set_option maxRecDepth 100000 in
theorem lifted (os : Os) (started : os.Started) (H : Type) (enc : TypeId × Value → H) :
    ReturnsInHanded {} Try.checked os 3 .any (Rows.fnExactRandomSpec.pre6 enc Try.prog Try.f3 Rows.fnExactRandomRow.domain false) (Rows.fnExactRandomSpec.post enc Try.prog Try.f3 false true false false) := by
  refine returnsInHanded_of_change (C := Try.checked) own started (by kernel_rfl) Try.func3
    (ChangeSpec.witness6 (enc := enc) (C := Try.checked) false ⟨#[], #[.int .u64 0, .int .i64 0], []⟩ 8 (by kernel_rfl) (by kernel_rfl) (by kernel_rfl) (by kernel_rfl)) ?_
  intro W base args ds gs before hval0 hW _ _
  have hval : ∀ (j : Nat) t v, Try.f3.params[j]? = some t → args[j]? = some v → Value.okWide Try.prog W .any base t v := hval0
  have hW' := hW
  obtain ⟨p, q, hA0, hV, rfl, hfz, _⟩ := hW
  have hA : DataW.TrodAll enc Try.prog W 0 (fun _ => true) true Try.f3.params.toList args.toList ds p := hA0
  rw [Try.params3] at hA hval
  obtain ⟨rfl, rfl⟩ := trodVars_none hV
  have hlt := hW'.lt
  simp only [List.append_nil] at hfz hlt
  have hA1 := hA
  obtain ⟨v0, vs0, d0, ds0, p0, q0, hargs, rfl, rfl, h0, r0⟩ := trodAll_cons hA1
  obtain ⟨v1, vs1, d1, ds1, p1, q1, rfl, rfl, rfl, h1, r1⟩ := trodAll_cons r0
  obtain ⟨rfl, rfl, rfl⟩ := trodAll_nil r1
  obtain rfl : args = #[v0, v1] := by cases args; simp_all
  clear hA0 hval0 hA1
  obtain ⟨x0, rfl, rfl, rfl, w0⟩ := open_int Try.underlying22 (hval 0 22 v0 rfl rfl) h0
  obtain ⟨x1, rfl, rfl, rfl, w1⟩ := open_int Try.underlying3 (hval 1 3 v1 rfl rfl) h1
  refine (law x0 x1 W w0 w1).mono fun e W' ⟨he, hb⟩ => ?_
  subst he
  exact ⟨_, rfl, post_of_below (pv := []) hW' (fun _ _ _ => trodAll_cons_mk (shut_bool Try.underlying4 _) trodAll_mk0)
    (fun sp hs => trodAll_stays hb (readable_all (by simp)) hA hlt sp (fun x hx => hs x (List.mem_append_left _ hx))) (fun _ _ => rfl) rfl hb (ok_one (by kernel_rfl) rfl (okWide_bool_mk Try.underlying4 _))⟩

/-- The statement. -/
theorem proved : Rows.FnExactRandomSaid :=
  OpenClaim.holds_of_wide 3 Try.f3 rfl rfl rfl rfl rfl rfl rfl ⟨rfl, rfl, rfl, rfl, rfl⟩ rfl rfl rfl rfl rfl (by as_aux_lemma => kernel_rfl) Try.func3
    (closed_mk (P := Try.prog) (by as_aux_lemma => kernel_rfl) all_laid all_rowed (by as_aux_lemma => kernel_rfl) rfl rfl all_stops rfl all_knobs
      (by as_aux_lemma => kernel_rfl) (by as_aux_lemma => kernel_rfl) (by as_aux_lemma => kernel_rfl) (by as_aux_lemma => kernel_rfl)
      (by as_aux_lemma => kernel_rfl) (by as_aux_lemma => kernel_rfl) (by as_aux_lemma => kernel_rfl) (by as_aux_lemma => kernel_rfl) (by as_aux_lemma => kernel_rfl)
      rfl (by as_aux_lemma => kernel_rfl) (by as_aux_lemma => kernel_rfl) (by as_aux_lemma => kernel_rfl)
      (by as_aux_lemma => kernel_rfl) rfl all_heard may_enter rfl lifts_final rfl make_cut rfl rfl rfl (by as_aux_lemma => kernel_rfl) (by as_aux_lemma => kernel_rfl))
    (of_decide_eq_true (by as_aux_lemma => kernel_rfl)) (by as_aux_lemma => (unfold Func.isWrapper; first | (rw [if_pos (by decide +kernel)]; kernel_rfl) | (rw [if_neg (by decide +kernel)]; exact ⟨rfl, rfl⟩)))
    (fun os started H enc _ => lifted os started H enc)
end Go.Proofs.Ytcamaikogengoaa.fnExactRandom
