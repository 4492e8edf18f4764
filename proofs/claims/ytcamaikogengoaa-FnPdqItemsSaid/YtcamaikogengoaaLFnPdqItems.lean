/- The law FnPdqItems is proved: by quicksort items ahead of which none has a greater key are sorted by their keys. It holds for every input, with no condition. -/
import Derived.Test.YtcamaikogengoaaClosed
import Derived.Test.YtcamaikogengoaaItSame
import Derived.Test.YtcamaikogengoaaItSome
namespace Go.Proofs.Ytcamaikogengoaa.fnPdqItems
set_option linter.unusedVariables false
set_option linter.unusedSimpArgs false
set_option linter.unusedSectionVars false
open Go.ChangeShapes Go.WideShapes Go.ChangeAt Go.RowKit

open Go.Sort
set_option maxHeartbeats 1000000 in
theorem law (v : Value) (D : Array It) (a b limit : Int) (w : World) (h : SlAt HT 0 w v D) (_hm : D.size ≤ maxLen) (_wa : (Lit.int .i64 a).wf = true) (_wb : (Lit.int .i64 b).wf = true) (_wl : (Lit.int .i64 limit).wf = true) :
    Calls Try.prog 9 #[v, .int .i64 a, .int .i64 b, .int .i64 limit] w fun e w' => e = .returned (.bool true) ∧ RowKit.Below w.heap.size w w' := by
  have h' := h
  obtain ⟨A, cap, rfl, hcp, hh⟩ := h
  clear hh hcp
  by_cases hbig : D.size ≤ 2147483647
  · have hbz : (D.size : Int) ≤ 2147483647 := by omega
    by_cases hr : InRange D.size a b
    · obtain ⟨h0, h1, h2, h3⟩ := hr
      obtain ⟨a, rfl⟩ := Int.eq_ofNat_of_zero_le h0
      obtain ⟨b, rfl⟩ := Int.eq_ofNat_of_zero_le (Int.le_trans h0 h1)
      have q1 : a ≤ b := by omega
      have q2 : b ≤ D.size := by omega
      by_cases hl0 : limit < 0
      · go_enter Try.func9, Try.ntmps9
        go_wp2_with (first | (go_at_call 45; refine (itemRange_yes A D.size cap a b _ h0 h1 h2 h3).mono ?_; rintro e w1 ⟨rfl, rfl⟩))
        go_ret
        exact ⟨rfl, RowKit.Below.refl _ _⟩
      · by_cases hl1 : limit > 1000
        · have hl0' : 0 ≤ limit := by omega
          go_enter Try.func9, Try.ntmps9
          go_wp2_with (first | (go_at_call 45; refine (itemRange_yes A D.size cap a b _ h0 h1 h2 h3).mono ?_; rintro e w1 ⟨rfl, rfl⟩))
          go_ret
          exact ⟨rfl, RowKit.Below.refl _ _⟩
        · obtain ⟨limit, rfl⟩ := Int.eq_ofNat_of_zero_le (show 0 ≤ limit by omega)
          have hl2 : (limit : Int) ≤ 1000 := by omega
          have hl3 : ¬ (limit : Int) < 0 := by omega
          have q3 : limit < 4611686018427387904 := by omega
          cases hA : aheadB (keysOf D) a b with
          | false =>
            have HA : Hid _ := hA
            clear hA
            go_enter Try.func9, Try.ntmps9
            go_wp2_with (first
              | (go_at_call 45; refine (itemRange_yes A D.size cap a b _ h0 h1 h2 h3).mono ?_; rintro e w1 ⟨rfl, rfl⟩)
              | (go_at_call 46; refine (AheadItems_at _ D a b _ h' q1 q2 hbig).mono ?_; rw [HA.out]; rintro e w1 ⟨rfl, hb1⟩))
            go_ret
            exact ⟨rfl, hb1⟩
          | true =>
            have HA : Hid _ := hA
            have HP := Lib.hid (aheadB_iff.1 hA)
            clear hA
            go_enter Try.func9, Try.ntmps9
            go_wp2_with (first
              | (go_at_call 45; refine (itemRange_yes A D.size cap a b _ h0 h1 h2 h3).mono ?_; rintro e w1 ⟨rfl, rfl⟩)
              | (go_at_call 46; refine (AheadItems_at _ D a b _ h' q1 q2 hbig).mono ?_; rw [HA.out]; rintro e w1 ⟨rfl, hb1⟩)
              | (go_at_call 47; refine (pdqT_some _ D a b limit _ (keepT h' hb1) q1 q2 q3 HP.out hbig).mono ?_; rintro e w2 ⟨R2, A2, c2, rfl, hp2, hc2, hs2, hb2⟩; have hb12 := hb1.trans (hb2.mono hb1.size); have hq := run_cut_lh Try.underlying39 size50 A2 D.size c2 a b q1 (by have := hc2.out; omega))
              | (go_at_call 48; refine (SameItems_at _ _ R2 D a b _ hs2.out.any (keepT h' hb12) q1 q2 hbig hp2.out.1).mono ?_; rintro e w3 ⟨rfl, hb3⟩; have hb13 := hb12.trans (hb3.mono hb12.size))
              | (go_at_call 49; refine (sortedPart_yes _ (keepT hs2.out.any hb3) hp2.out.1.1 q1 q2 hbig hp2.out.2).mono ?_; rintro e w4 ⟨rfl, hb4⟩))
            go_ret
            exact ⟨rfl, hb13.trans (hb4.mono hb13.size)⟩
    · go_enter Try.func9, Try.ntmps9
      go_wp2_with (first | (go_at_call 45; refine (itemRange_no A D.size cap a b _ hr).mono ?_; rintro e w1 ⟨rfl, rfl⟩))
      go_ret
      exact ⟨rfl, RowKit.Below.refl _ _⟩
  · go_enter Try.func9, Try.ntmps9
    go_wp2
    go_ret
    exact ⟨rfl, RowKit.Below.refl _ _⟩

set_option maxRecDepth 100000 in
theorem lifted (os : Os) (started : os.Started) (H : Type) (enc : TypeId × Value → H) :
    ReturnsInHanded {} Try.checked os 9 .any (Rows.fnPdqItemsSpec.pre6 enc Try.prog Try.f9 Rows.fnPdqItemsRow.domain false) (Rows.fnPdqItemsSpec.post enc Try.prog Try.f9 false true false false) := by
  refine returnsInHanded_of_change (C := Try.checked) own started (by kernel_rfl) Try.func9
    (ChangeSpec.witness6 (enc := enc) (C := Try.checked) false ⟨#[], #[.slice none 0 0, .int .i64 0, .int .i64 0, .int .i64 0], []⟩ 8 (by kernel_rfl) (by kernel_rfl) (by kernel_rfl) (by kernel_rfl)) ?_
  intro W base args ds gs before hval0 hW _ _
  have hval : ∀ (j : Nat) t v, Try.f9.params[j]? = some t → args[j]? = some v → Value.okWide Try.prog W .any base t v := hval0
  have hW' := hW
  obtain ⟨p, q, hA0, hV, rfl, hfz, _⟩ := hW
  have hA : DataW.TrodAll enc Try.prog W 0 (fun _ => true) true Try.f9.params.toList args.toList ds p := hA0
  rw [Try.params9] at hA hval
  obtain ⟨rfl, rfl⟩ := trodVars_none hV
  have hlt := hW'.lt
  simp only [List.append_nil] at hfz hlt
  have hA1 := hA
  obtain ⟨v0, vs0, d0, ds0, p0, q0, hargs, rfl, rfl, h0, r0⟩ := trodAll_cons hA1
  obtain ⟨v1, vs1, d1, ds1, p1, q1, rfl, rfl, rfl, h1, r1⟩ := trodAll_cons r0
  obtain ⟨v2, vs2, d2, ds2, p2, q2, rfl, rfl, rfl, h2, r2⟩ := trodAll_cons r1
  obtain ⟨v3, vs3, d3, ds3, p3, q3, rfl, rfl, rfl, h3, r3⟩ := trodAll_cons r2
  obtain ⟨rfl, rfl, rfl⟩ := trodAll_nil r3
  obtain rfl : args = #[v0, v1, v2, v3] := by cases args; simp_all
  clear hA0 hval0 hA1
  obtain ⟨D0, s0, m0⟩ := items_open (hval 0 39 v0 rfl rfl) h0 (fun x hx => hlt x (by simp [hx])) (fun b off hx => hfz b off (by simp [hx]))
  obtain ⟨x1, rfl, rfl, rfl, w1⟩ := open_int Try.underlying3 (hval 1 3 v1 rfl rfl) h1
  obtain ⟨x2, rfl, rfl, rfl, w2⟩ := open_int Try.underlying3 (hval 2 3 v2 rfl rfl) h2
  obtain ⟨x3, rfl, rfl, rfl, w3⟩ := open_int Try.underlying3 (hval 3 3 v3 rfl rfl) h3
  refine (law v0 D0 x1 x2 x3 W s0 m0 w1 w2 w3).mono fun e W' ⟨he, hb⟩ => ?_
  subst he
  exact ⟨_, rfl, post_of_below (pv := []) hW' (fun _ _ _ => trodAll_cons_mk (shut_bool Try.underlying4 _) trodAll_mk0)
    (fun sp hs => trodAll_stays hb (readable_all (by simp)) hA hlt sp (fun x hx => hs x (List.mem_append_left _ hx))) (fun _ _ => rfl) rfl hb (ok_one (by kernel_rfl) rfl (okWide_bool_mk Try.underlying4 _))⟩

/-- The statement. -/
theorem proved : Rows.FnPdqItemsSaid :=
  OpenClaim.holds_of_wide 9 Try.f9 rfl rfl rfl rfl rfl rfl rfl ⟨rfl, rfl, rfl, rfl, rfl⟩ rfl rfl rfl rfl rfl (by as_aux_lemma => kernel_rfl) Try.func9
    (closed_mk (P := Try.prog) (by as_aux_lemma => kernel_rfl) all_laid all_rowed (by as_aux_lemma => kernel_rfl) rfl rfl all_stops rfl all_knobs
      (by as_aux_lemma => kernel_rfl) (by as_aux_lemma => kernel_rfl) (by as_aux_lemma => kernel_rfl) (by as_aux_lemma => kernel_rfl)
      (by as_aux_lemma => kernel_rfl) (by as_aux_lemma => kernel_rfl) (by as_aux_lemma => kernel_rfl) (by as_aux_lemma => kernel_rfl) (by as_aux_lemma => kernel_rfl)
      rfl (by as_aux_lemma => kernel_rfl) (by as_aux_lemma => kernel_rfl) (by as_aux_lemma => kernel_rfl)
      (by as_aux_lemma => kernel_rfl) rfl all_heard may_enter rfl lifts_final rfl make_cut rfl rfl rfl (by as_aux_lemma => kernel_rfl) (by as_aux_lemma => kernel_rfl))
    (of_decide_eq_true (by as_aux_lemma => kernel_rfl)) (by as_aux_lemma => (unfold Func.isWrapper; first | (rw [if_pos (by decide +kernel)]; kernel_rfl) | (rw [if_neg (by decide +kernel)]; exact ⟨rfl, rfl⟩)))
    (fun os started H enc _ => lifted os started H enc)
end Go.Proofs.Ytcamaikogengoaa.fnPdqItems
