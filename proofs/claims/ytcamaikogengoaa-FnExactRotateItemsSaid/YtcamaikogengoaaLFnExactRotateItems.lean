/- The law FnExactRotateItems is proved: two parts of a range of items are exchanged. It holds for every input, with no condition. -/
import Derived.Test.YtcamaikogengoaaClosed
import Derived.Test.YtcamaikogengoaaItEqual
import Derived.Test.YtcamaikogengoaaItRotated
import Derived.Test.YtcamaikogengoaaItRot
namespace Go.Proofs.Ytcamaikogengoaa.fnExactRotateItems
set_option linter.unusedVariables false
set_option linter.unusedSimpArgs false
set_option linter.unusedSectionVars false
open Go.ChangeShapes Go.WideShapes Go.ChangeAt Go.RowKit

open Go.Sort
set_option maxHeartbeats 2000000 in
theorem law (v : Value) (D : Array It) (a m b : Int) (w : World) (h : SlAt HT 0 w v D) (_hm : D.size ≤ maxLen) (_wa : (Lit.int .i64 a).wf = true) (_wm : (Lit.int .i64 m).wf = true) (_wb : (Lit.int .i64 b).wf = true) :
    Calls Try.prog 24 #[v, .int .i64 a, .int .i64 m, .int .i64 b] w fun e w' => e = .returned (.bool true) ∧ RowKit.Below w.heap.size w w' := by
  have h' := h
  obtain ⟨A, cap, rfl, hcp, hh⟩ := h
  clear hh
  by_cases hbig : D.size ≤ 2147483647
  · have hbz : (D.size : Int) ≤ 2147483647 := by omega
    by_cases hr : InRange D.size a b
    · obtain ⟨h0, h1, h2, h3⟩ := hr
      by_cases ham : a ≥ m
      · go_enter Try.func24, Try.ntmps24
        go_wp2_with (first | (go_at_call 45; refine (itemRange_yes A D.size cap a b _ h0 h1 h2 h3).mono ?_; rintro e w1 ⟨rfl, rfl⟩))
        go_ret
        exact ⟨rfl, RowKit.Below.refl _ _⟩
      · by_cases hmb : m ≥ b
        · have hamz : a < m := by omega
          go_enter Try.func24, Try.ntmps24
          go_wp2_with (first | (go_at_call 45; refine (itemRange_yes A D.size cap a b _ h0 h1 h2 h3).mono ?_; rintro e w1 ⟨rfl, rfl⟩))
          go_ret
          exact ⟨rfl, RowKit.Below.refl _ _⟩
        · obtain ⟨a, rfl⟩ := Int.eq_ofNat_of_zero_le h0
          obtain ⟨b, rfl⟩ := Int.eq_ofNat_of_zero_le (Int.le_trans h0 h1)
          obtain ⟨m, rfl⟩ := Int.eq_ofNat_of_zero_le (show 0 ≤ m by omega)
          have q1 : a < m := by omega
          have q2 : m < b := by omega
          have q3 : b ≤ D.size := by omega
          have e1 : decide ((a : Int) ≥ (m : Int)) = false := decide_eq_false ham
          have e2 : decide ((m : Int) ≥ (b : Int)) = false := decide_eq_false hmb
          have e3 : decide (m ≤ a) = false := decide_eq_false (by omega)
          have e4 : decide (b ≤ m) = false := decide_eq_false (by omega)
          have e5 : (a : Int) < (m : Int) := by omega
          have e6 : (m : Int) < (b : Int) := by omega
          have hz := (rotate_spec q1 q2 q3).size
          have K1 : ∀ W, RowKit.Below w.heap.size w W → Calls Try.prog 69 #[.slice A D.size cap, .int .i64 a, .int .i64 m, .int .i64 b] W fun e w' => ∃ v', e = .returned v' ∧ SlAt HT W.heap.size w' v' (rotate D a m b) ∧ RowKit.Below W.heap.size W w' :=
            fun W hW => rotT_impl _ D a m b W (keepT h' hW) q1 q2 q3 hbig
          have K2 := joined_at h' q1 q2 q3 hbig
          have K3 : ∀ W v3 v4, SlAt HT 0 W v3 (rotate D a m b) → SlAt HT 0 W v4 (rotate D a m b) → Calls Try.prog 59 #[v3, v4] W fun e w' => e = .returned (.bool true) ∧ RowKit.Below W.heap.size W w' := fun W v3 v4 g3 g4 =>
            (equalT_yes v3 v4 _ W g3 g4 (by rw [hz]; exact hbig)).mono fun e w' ⟨he, n, hw⟩ => ⟨he, by rw [hw]; exact below_drewN (RowKit.Below.refl _ _) n⟩
          have F1 := Lib.hid K1
          have F2 := Lib.hid K2
          have F3 := Lib.hid K3
          have F4 := Lib.hid (joined_later h' q1 q2 q3 hbig)
          have hbA : RowKit.Below w.heap.size w (w.alloc (.cells #[.slice A a cap, .slice (cutA A cap m 2) (b - m) (cap - m), .slice (cutA A cap a 2) (m - a) (cap - a), .slice (cutA A cap b 2) (D.size - b) (cap - b)] 39)).drew := below_drewN ((RowKit.Below.refl _ _).alloc (Nat.le_refl _) _) 1
          have hb0 : RowKit.Below w.heap.size w w.drew := below_drewN (RowKit.Below.refl _ _) 1
          have g1 := fun W => run_cut_h Try.underlying39 size50 A D.size cap a (by omega) W
          have g2 := fun W => run_cut_lh Try.underlying39 size50 A D.size cap m b (by omega) (by omega) W
          have g3 := fun W => run_cut_lh Try.underlying39 size50 A D.size cap a m (by omega) (by omega) W
          have g4 := fun W => run_cut_l Try.underlying39 size50 A D.size cap b q3 W
          clear K1 K2 K3 hz
          go_enter Try.func24, Try.ntmps24
          go_wp2_with (first | (go_at_call 45; refine (itemRange_yes A D.size cap a b _ h0 h1 h2 h3).mono ?_; rintro e w1 ⟨rfl, rfl⟩))
          go_wp2_with fail
          go_region_held3 (fun _ => True) (trivial) (first
            | (go_at_call 69; (with_reducible refine (F1.out _ hb0).mono ?_); rintro e w1 ⟨v1, rfl, hs1, hb1⟩; have hb1' := hb0.trans (hb1.mono hb0.size))
            | (go_at_call 69; (with_reducible refine (F1.out _ hbA).mono ?_); rintro e w1 ⟨v1, rfl, hs1, hb1⟩; have hb1' := hbA.trans (hb1.mono hbA.size); have K70 := F4.out w1 hb1)
            | (go_at_call 70; (with_reducible refine K70.mono ?_); rintro e w2 ⟨v2, rfl, hs2, hb2⟩; have hb2' := hb1'.trans (hb2.mono hb1'.size))
            | (go_at_call 70; (with_reducible refine (F2.out _ hb1').mono ?_); rintro e w2 ⟨v2, rfl, hs2, hb2⟩; have hb2' := hb1'.trans (hb2.mono hb1'.size))
            | (go_at_call 59; (with_reducible refine (F3.out _ _ _ (keepT hs1 hb2) hs2.any).mono ?_); rintro e w3 ⟨rfl, hb3⟩; have hb3' := hb2'.trans (hb3.mono hb2'.size)))
          all_goals
            go_wp2
            go_ret
            exact ⟨rfl, hb3'⟩
    · go_enter Try.func24, Try.ntmps24
      go_wp2_with (first | (go_at_call 45; refine (itemRange_no A D.size cap a b _ hr).mono ?_; rintro e w1 ⟨rfl, rfl⟩))
      go_ret
      exact ⟨rfl, RowKit.Below.refl _ _⟩
  · go_enter Try.func24, Try.ntmps24
    go_wp2
    go_ret
    exact ⟨rfl, RowKit.Below.refl _ _⟩

set_option maxRecDepth 100000 in
theorem lifted (os : Os) (started : os.Started) (H : Type) (enc : TypeId × Value → H) :
    ReturnsInHanded {} Try.checked os 24 .any (Rows.fnExactRotateItemsSpec.pre6 enc Try.prog Try.f24 Rows.fnExactRotateItemsRow.domain false) (Rows.fnExactRotateItemsSpec.post enc Try.prog Try.f24 false true false false) := by
  refine returnsInHanded_of_change (C := Try.checked) own started (by kernel_rfl) Try.func24
    (ChangeSpec.witness6 (enc := enc) (C := Try.checked) false ⟨#[], #[.slice none 0 0, .int .i64 0, .int .i64 0, .int .i64 0], []⟩ 8 (by kernel_rfl) (by kernel_rfl) (by kernel_rfl) (by kernel_rfl)) ?_
  intro W base args ds gs before hval0 hW _ _
  have hval : ∀ (j : Nat) t v, Try.f24.params[j]? = some t → args[j]? = some v → Value.okWide Try.prog W .any base t v := hval0
  have hW' := hW
  obtain ⟨p, q, hA0, hV, rfl, hfz, _⟩ := hW
  have hA : DataW.TrodAll enc Try.prog W 0 (fun _ => true) true Try.f24.params.toList args.toList ds p := hA0
  rw [Try.params24] at hA hval
  obtain ⟨rfl, rfl⟩ := trodVars_none hV
  have hlt := hW'.lt
  simp only [List.append_nil] at hfz hlt
  have hA1 := hA
  obtain ⟨v0, vs0, d0, ds0, p0, q0, hargs, rfl, rfl, h0, r0⟩ := trodAll_cons hA1
  obtain ⟨v1, vs1, d1, ds1, p1, q1, rfl, rfl, rfl, h1, r1⟩ := trodAll_cons r0
  obtain ⟨v2, vs2, d2, ds2, p2, q2, rfl, rfl, rfl, h2, r2⟩ := trodAll_cons r1
  obtain ⟨v3, vs3, d3, ds3, p3, q3, rfl, rfl, rfl, h3, r3⟩ := trodAll_cons r2
  obtain ⟨rfl, rfl, rfl⟩ := trodAll_nil r3
  obtain rfl : args = #[v0, v1, v2, v3] := by cases args; simp_all
  clear hA0 hval0 hA1
  obtain ⟨D0, s0, m0⟩ := items_open (hval 0 39 v0 rfl rfl) h0 (fun x hx => hlt x (by simp [hx])) (fun b off hx => hfz b off (by simp [hx]))
  obtain ⟨x1, rfl, rfl, rfl, w1⟩ := open_int Try.underlying3 (hval 1 3 v1 rfl rfl) h1
  obtain ⟨x2, rfl, rfl, rfl, w2⟩ := open_int Try.underlying3 (hval 2 3 v2 rfl rfl) h2
  obtain ⟨x3, rfl, rfl, rfl, w3⟩ := open_int Try.underlying3 (hval 3 3 v3 rfl rfl) h3
  refine (law v0 D0 x1 x2 x3 W s0 m0 w1 w2 w3).mono fun e W' ⟨he, hb⟩ => ?_
  subst he
  exact ⟨_, rfl, post_of_below (pv := []) hW' (fun _ _ _ => trodAll_cons_mk (shut_bool Try.underlying4 _) trodAll_mk0)
    (fun sp hs => trodAll_stays hb (readable_all (by simp)) hA hlt sp (fun x hx => hs x (List.mem_append_left _ hx))) (fun _ _ => rfl) rfl hb (ok_one (by kernel_rfl) rfl (okWide_bool_mk Try.underlying4 _))⟩

/-- The statement. -/
theorem proved : Rows.FnExactRotateItemsSaid :=
  OpenClaim.holds_of_wide 24 Try.f24 rfl rfl rfl rfl rfl rfl rfl ⟨rfl, rfl, rfl, rfl, rfl⟩ rfl rfl rfl rfl rfl (by as_aux_lemma => kernel_rfl) Try.func24
    (closed_mk (P := Try.prog) (by as_aux_lemma => kernel_rfl) all_laid all_rowed (by as_aux_lemma => kernel_rfl) rfl rfl all_stops rfl all_knobs
      (by as_aux_lemma => kernel_rfl) (by as_aux_lemma => kernel_rfl) (by as_aux_lemma => kernel_rfl) (by as_aux_lemma => kernel_rfl)
      (by as_aux_lemma => kernel_rfl) (by as_aux_lemma => kernel_rfl) (by as_aux_lemma => kernel_rfl) (by as_aux_lemma => kernel_rfl) (by as_aux_lemma => kernel_rfl)
      rfl (by as_aux_lemma => kernel_rfl) (by as_aux_lemma => kernel_rfl) (by as_aux_lemma => kernel_rfl)
      (by as_aux_lemma => kernel_rfl) rfl all_heard may_enter rfl lifts_final rfl make_cut rfl rfl rfl (by as_aux_lemma => kernel_rfl) (by as_aux_lemma => kernel_rfl))
    (of_decide_eq_true (by as_aux_lemma => kernel_rfl)) (by as_aux_lemma => (unfold Func.isWrapper; first | (rw [if_pos (by decide +kernel)]; kernel_rfl) | (rw [if_neg (by decide +kernel)]; exact ⟨rfl, rfl⟩)))
    (fun os started H enc _ => lifted os started H enc)
end Go.Proofs.Ytcamaikogengoaa.fnExactRotateItems
