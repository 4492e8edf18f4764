/- The law FnSift is proved: a node above two heaps becomes the root of a heap. It holds for every input, with no condition. -/
import Derived.Test.YtcamaikogengoaaClosed
import Derived.Test.YtcamaikogengoaaIntSame
import Derived.Test.YtcamaikogengoaaIntSubtree
import Derived.Test.YtcamaikogengoaaASiftDown
namespace Go.Proofs.Ytcamaikogengoaa.fnSift
set_option linter.unusedVariables false
set_option linter.unusedSimpArgs false
set_option linter.unusedSectionVars false
open Go.ChangeShapes Go.WideShapes Go.ChangeAt Go.RowKit

open Go.Sort
set_option maxHeartbeats 2000000 in
theorem law (v : Value) (D : Array Int) (lo hi first : Int) (w : World) (h : SlAt HI 0 w v D) (_hm : D.size ≤ maxLen) (wa : (Lit.int .i64 lo).wf = true) (wb : (Lit.int .i64 hi).wf = true) (wl : (Lit.int .i64 first).wf = true) :
    Calls Try.prog 11 #[v, .int .i64 lo, .int .i64 hi, .int .i64 first] w fun e w' => e = .returned (.bool true) ∧ RowKit.Below w.heap.size w w' := by
  have h' := h
  obtain ⟨A, cap, rfl, hcp, hh⟩ := h
  clear hh hcp
  by_cases hbig : D.size ≤ 2147483647
  · have hbz : (D.size : Int) ≤ 2147483647 := by omega
    by_cases c1 : lo < 0
    · go_enter Try.func11, Try.ntmps11
      go_wp2
      go_ret
      exact ⟨rfl, RowKit.Below.refl _ _⟩
    have n1 : 0 ≤ lo := by omega
    clear c1
    by_cases c2 : hi ≤ lo
    · go_enter Try.func11, Try.ntmps11
      go_wp2
      go_ret
      exact ⟨rfl, RowKit.Below.refl _ _⟩
    have n2 : lo < hi := by omega
    clear c2
    by_cases c3 : first < 0
    · go_enter Try.func11, Try.ntmps11
      go_wp2
      go_ret
      exact ⟨rfl, RowKit.Below.refl _ _⟩
    have n3 : 0 ≤ first := by omega
    clear c3
    by_cases c4 : (D.size : Int) < hi
    · go_enter Try.func11, Try.ntmps11
      go_wp2
      go_ret
      exact ⟨rfl, RowKit.Below.refl _ _⟩
    have n4 : hi ≤ (D.size : Int) := by omega
    clear c4
    by_cases c5 : (D.size : Int) - hi < first
    · go_enter Try.func11, Try.ntmps11
      go_wp2
      go_ret
      exact ⟨rfl, RowKit.Below.refl _ _⟩
    have n5 : first ≤ (D.size : Int) - hi := by omega
    clear c5
    by_cases c6 : 4096 < (D.size : Int)
    · go_enter Try.func11, Try.ntmps11
      go_wp2
      go_ret
      exact ⟨rfl, RowKit.Below.refl _ _⟩
    have n6 : (D.size : Int) ≤ 4096 := by omega
    clear c6
    obtain ⟨lo, rfl⟩ := Int.eq_ofNat_of_zero_le n1
    obtain ⟨hi, rfl⟩ := Int.eq_ofNat_of_zero_le (show 0 ≤ hi by omega)
    obtain ⟨first, rfl⟩ := Int.eq_ofNat_of_zero_le n3
    have q1 : lo < hi := by omega
    have q2 : first + hi ≤ D.size := by omega
    have d2 : decide (hi ≤ lo) = false := decide_eq_false (by omega)
    have s1 := fun W hW => Subtree_at (.slice A D.size cap) D hi first q2 hbig _ (2 * lo + 1) W (Nat.le_refl _) (by omega) hW
    have s2 := fun W hW => Subtree_at (.slice A D.size cap) D hi first q2 hbig _ (2 * lo + 2) W (Nat.le_refl _) (by omega) hW
    rw [show ((2 * lo + 1 : Nat) : Int) = 2 * (lo : Int) + 1 from by omega] at s1
    rw [show ((2 * lo + 2 : Nat) : Int) = 2 * (lo : Int) + 2 from by omega] at s2
    cases e1 : subtree ltInt D first hi (2 * lo + 1) with
    | false =>
      rw [e1] at s1
      have S1 := Lib.hid s1
      clear s1 s2 e1
      go_enter Try.func11, Try.ntmps11
      go_wp2_with fail
      refine (S1.out _ h').mono ?_
      rintro e w1 ⟨rfl, hb1⟩
      go_wp2
      go_ret
      exact ⟨rfl, hb1⟩
    | true =>
      rw [e1] at s1
      cases e2 : subtree ltInt D first hi (2 * lo + 2) with
      | false =>
        rw [e2] at s2
        have S1 := Lib.hid s1
        have S2 := Lib.hid s2
        clear s1 s2 e1 e2
        go_enter Try.func11, Try.ntmps11
        go_wp2_with fail
        refine (S1.out _ h').mono ?_
        rintro e w1 ⟨rfl, hb1⟩
        go_wp2_with fail
        refine (S2.out _ (keepI h' hb1)).mono ?_
        rintro e w2 ⟨rfl, hb2⟩
        go_wp2
        go_ret
        exact ⟨rfl, hb1.trans (hb2.mono hb1.size)⟩
      | true =>
        rw [e2] at s2
        have hp : PermIn (first + lo) (first + hi) D (siftDown ltInt hi first lo D) := siftDown_perm_from hi first lo _ lo D (Nat.le_refl _) (Nat.le_refl _) q2
        have hst := siftDown_subtree swo_ltInt q2 e1 e2
        have zR := hp.1
        have c3 := fun W hW => SiftDown_impl (.slice A D.size cap) D lo hi first W hW q1 q2 hbig
        have c4 := fun v1 W h1 h2 => Same_at v1 (.slice A D.size cap) (siftDown ltInt hi first lo D) D (first + lo) (first + hi) W h1 h2 (by omega) q2 hbig hp
        rw [show ((first + lo : Nat) : Int) = (first : Int) + (lo : Int) from by omega, show ((first + hi : Nat) : Int) = (first : Int) + (hi : Int) from by omega] at c4
        have c5 := fun v1 W hW => Subtree_at v1 (siftDown ltInt hi first lo D) hi first (by omega) (by omega) _ lo W (Nat.le_refl _) (by omega) hW
        rw [hst] at c5
        have S1 := Lib.hid s1
        have S2 := Lib.hid s2
        have C3 := Lib.hid c3
        have C4 := Lib.hid c4
        have C5 := Lib.hid c5
        clear s1 s2 e1 e2 c3 c4 c5 hst hp zR
        go_enter Try.func11, Try.ntmps11
        go_wp2_with fail
        refine (S1.out _ h').mono ?_
        rintro e w1 ⟨rfl, hb1⟩
        go_wp2_with fail
        refine (S2.out _ (keepI h' hb1)).mono ?_
        rintro e w2 ⟨rfl, hb2⟩
        have k2 := hb1.trans (hb2.mono hb1.size)
        go_wp2_with fail
        refine (C3.out _ (keepI h' k2)).mono ?_
        rintro e w3 ⟨v3, rfl, hs3, hb3⟩
        have k3 := k2.trans (hb3.mono k2.size)
        go_wp2_with fail
        refine (C4.out _ _ hs3.any (keepI h' k3)).mono ?_
        rintro e w4 ⟨rfl, hb4⟩
        have k4 := k3.trans (hb4.mono k3.size)
        go_wp2_with fail
        refine (C5.out _ _ (keepI hs3 hb4)).mono ?_
        rintro e w5 ⟨rfl, hb5⟩
        have k5 := k4.trans (hb5.mono k4.size)
        go_wp2
        go_ret
        exact ⟨rfl, k5⟩
  · go_enter Try.func11, Try.ntmps11
    go_wp2
    go_ret
    exact ⟨rfl, RowKit.Below.refl _ _⟩

set_option maxRecDepth 100000 in
theorem lifted (os : Os) (started : os.Started) (H : Type) (enc : TypeId × Value → H) :
    ReturnsInHanded {} Try.checked os 11 .any (Rows.fnSiftSpec.pre6 enc Try.prog Try.f11 Rows.fnSiftRow.domain false) (Rows.fnSiftSpec.post enc Try.prog Try.f11 false true false false) := by
  refine returnsInHanded_of_change (C := Try.checked) own started (by kernel_rfl) Try.func11
    (ChangeSpec.witness6 (enc := enc) (C := Try.checked) false ⟨#[], #[.slice none 0 0, .int .i64 0, .int .i64 0, .int .i64 0], []⟩ 8 (by kernel_rfl) (by kernel_rfl) (by kernel_rfl) (by kernel_rfl)) ?_
  intro W base args ds gs before hval0 hW _ _
  have hval : ∀ (j : Nat) t v, Try.f11.params[j]? = some t → args[j]? = some v → Value.okWide Try.prog W .any base t v := hval0
  have hW' := hW
  obtain ⟨p, q, hA0, hV, rfl, hfz, _⟩ := hW
  have hA : DataW.TrodAll enc Try.prog W 0 (fun _ => true) true Try.f11.params.toList args.toList ds p := hA0
  rw [Try.params11] at hA hval
  obtain ⟨rfl, rfl⟩ := trodVars_none hV
  have hlt := hW'.lt
  simp only [List.append_nil] at hfz hlt
  have hA1 := hA
  obtain ⟨v0, vs0, d0, ds0, p0, q0, hargs, rfl, rfl, h0, r0⟩ := trodAll_cons hA1
  obtain ⟨v1, vs1, d1, ds1, p1, q1, rfl, rfl, rfl, h1, r1⟩ := trodAll_cons r0
  obtain ⟨v2, vs2, d2, ds2, p2, q2, rfl, rfl, rfl, h2, r2⟩ := trodAll_cons r1
  obtain ⟨v3, vs3, d3, ds3, p3, q3, rfl, rfl, rfl, h3, r3⟩ := trodAll_cons r2
  obtain ⟨rfl, rfl, rfl⟩ := trodAll_nil r3
  obtain rfl : args = #[v0, v1, v2, v3] := by cases args; simp_all
  clear hA0 hval0 hA1
  obtain ⟨D0, s0, m0⟩ := ints_open (hval 0 27 v0 rfl rfl) h0 (fun x hx => hlt x (by simp [hx])) (fun b off hx => hfz b off (by simp [hx]))
  obtain ⟨x1, rfl, rfl, rfl, w1⟩ := open_int Try.underlying3 (hval 1 3 v1 rfl rfl) h1
  obtain ⟨x2, rfl, rfl, rfl, w2⟩ := open_int Try.underlying3 (hval 2 3 v2 rfl rfl) h2
  obtain ⟨x3, rfl, rfl, rfl, w3⟩ := open_int Try.underlying3 (hval 3 3 v3 rfl rfl) h3
  refine (law v0 D0 x1 x2 x3 W s0 m0 w1 w2 w3).mono fun e W' ⟨he, hb⟩ => ?_
  subst he
  exact ⟨_, rfl, post_of_below (pv := []) hW' (fun _ _ _ => trodAll_cons_mk (shut_bool Try.underlying4 _) trodAll_mk0)
    (fun sp hs => trodAll_stays hb (readable_all (by simp)) hA hlt sp (fun x hx => hs x (List.mem_append_left _ hx))) (fun _ _ => rfl) rfl hb (ok_one (by kernel_rfl) rfl (okWide_bool_mk Try.underlying4 _))⟩

/-- The statement. -/
theorem proved : Rows.FnSiftSaid :=
  OpenClaim.holds_of_wide 11 Try.f11 rfl rfl rfl rfl rfl rfl rfl ⟨rfl, rfl, rfl, rfl, rfl⟩ rfl rfl rfl rfl rfl (by as_aux_lemma => kernel_rfl) Try.func11
    (closed_mk (P := Try.prog) (by as_aux_lemma => kernel_rfl) all_laid all_rowed (by as_aux_lemma => kernel_rfl) rfl rfl all_stops rfl all_knobs
      (by as_aux_lemma => kernel_rfl) (by as_aux_lemma => kernel_rfl) (by as_aux_lemma => kernel_rfl) (by as_aux_lemma => kernel_rfl)
      (by as_aux_lemma => kernel_rfl) (by as_aux_lemma => kernel_rfl) (by as_aux_lemma => kernel_rfl) (by as_aux_lemma => kernel_rfl) (by as_aux_lemma => kernel_rfl)
      rfl (by as_aux_lemma => kernel_rfl) (by as_aux_lemma => kernel_rfl) (by as_aux_lemma => kernel_rfl)
      (by as_aux_lemma => kernel_rfl) rfl all_heard may_enter rfl lifts_final rfl make_cut rfl rfl rfl (by as_aux_lemma => kernel_rfl) (by as_aux_lemma => kernel_rfl))
    (of_decide_eq_true (by as_aux_lemma => kernel_rfl)) (by as_aux_lemma => (unfold Func.isWrapper; first | (rw [if_pos (by decide +kernel)]; kernel_rfl) | (rw [if_neg (by decide +kernel)]; exact ⟨rfl, rfl⟩)))
    (fun os started H enc _ => lifted os started H enc)
end Go.Proofs.Ytcamaikogengoaa.fnSift
