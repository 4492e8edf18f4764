/- The law FnExactStableItems is proved: items are sorted by their keys, and those with the same key stay in order. It holds for every input, with no condition. -/
import Derived.Test.YtcamaikogengoaaClosed
import Derived.Test.YtcamaikogengoaaItEqual
import Derived.Test.YtcamaikogengoaaItSorted
import Derived.Test.YtcamaikogengoaaItStable
namespace Go.Proofs.Ytcamaikogengoaa.fnExactStableItems
set_option linter.unusedVariables false
set_option linter.unusedSimpArgs false
set_option linter.unusedSectionVars false
open Go.ChangeShapes Go.WideShapes Go.ChangeAt Go.RowKit

open Go.Sort
set_option maxHeartbeats 400000 in
theorem law (v : Value) (D : Array It) (w : World) (h : SlAt HT 0 w v D) (_hm : D.size ≤ maxLen) :
    Calls Try.prog 27 #[v] w fun e w' => e = .returned (.bool true) ∧ RowKit.Below w.heap.size w w' := by
  have h' := h
  obtain ⟨A, cap, rfl, hcp, hh⟩ := h
  clear hh
  by_cases hbig : D.size ≤ 2147483647
  · have hbz : (D.size : Int) ≤ 2147483647 := by omega
    by_cases hl : D.size ≤ 4096
    · have hlz : (D.size : Int) ≤ 4096 := by omega
      have hz := (insertionSort_holds swo_ltT D 0 D.size (Nat.zero_le _) (Nat.le_refl _)).1.1
      have HZ := Lib.hid hz
      have K := fun (W : World) (hW : SlAt HT 0 W (.slice A D.size cap) D) => SortedItems_at _ D 0 D.size W hW (Nat.zero_le _) (Nat.le_refl _) hbig
      have KH := Lib.hid K
      clear hz K
      go_enter Try.func27, Try.ntmps27
      go_wp2_with (first
        | (go_at_call 72; refine (stableT_impl _ D _ h' hbig).mono ?_; rintro e w1 ⟨v1, rfl, hs1, hb1⟩)
        | (go_at_call 60; refine (KH.out _ (keepT h' hb1)).mono ?_; rintro e w2 ⟨v2, rfl, hs2, hb2⟩)
        | (go_at_call 59; refine (equalT_yes v1 v2 _ _ (keepT hs1 hb2) hs2.any (by rw [HZ.out]; exact hbig)).mono ?_; rintro e w3 ⟨rfl, n, rfl⟩))
      go_ret
      exact ⟨rfl, below_drewN (hb1.trans (hb2.mono hb1.size)) n⟩
    · have hlz : ¬ (D.size : Int) ≤ 4096 := by omega
      go_enter Try.func27, Try.ntmps27
      go_wp2
      go_ret
      exact ⟨rfl, RowKit.Below.refl _ _⟩
  · go_enter Try.func27, Try.ntmps27
    go_wp2
    go_ret
    exact ⟨rfl, RowKit.Below.refl _ _⟩

set_option maxRecDepth 100000 in
theorem lifted (os : Os) (started : os.Started) (H : Type) (enc : TypeId × Value → H) :
    ReturnsInHanded {} Try.checked os 27 .any (Rows.fnExactStableItemsSpec.pre6 enc Try.prog Try.f27 Rows.fnExactStableItemsRow.domain false) (Rows.fnExactStableItemsSpec.post enc Try.prog Try.f27 false true false false) := by
  refine returnsInHanded_of_change (C := Try.checked) own started (by kernel_rfl) Try.func27
    (ChangeSpec.witness6 (enc := enc) (C := Try.checked) false ⟨#[], #[.slice none 0 0], []⟩ 8 (by kernel_rfl) (by kernel_rfl) (by kernel_rfl) (by kernel_rfl)) ?_
  intro W base args ds gs before hval0 hW _ _
  have hval : ∀ (j : Nat) t v, Try.f27.params[j]? = some t → args[j]? = some v → Value.okWide Try.prog W .any base t v := hval0
  have hW' := hW
  obtain ⟨p, q, hA0, hV, rfl, hfz, _⟩ := hW
  have hA : DataW.TrodAll enc Try.prog W 0 (fun _ => true) true Try.f27.params.toList args.toList ds p := hA0
  rw [Try.params27] at hA hval
  obtain ⟨rfl, rfl⟩ := trodVars_none hV
  have hlt := hW'.lt
  simp only [List.append_nil] at hfz hlt
  have hA1 := hA
  obtain ⟨v0, vs0, d0, ds0, p0, q0, hargs, rfl, rfl, h0, r0⟩ := trodAll_cons hA1
  obtain ⟨rfl, rfl, rfl⟩ := trodAll_nil r0
  obtain rfl : args = #[v0] := by cases args; simp_all
  clear hA0 hval0 hA1
  obtain ⟨D0, s0, m0⟩ := items_open (hval 0 39 v0 rfl rfl) h0 (fun x hx => hlt x (by simp [hx])) (fun b off hx => hfz b off (by simp [hx]))
  refine (law v0 D0 W s0 m0).mono fun e W' ⟨he, hb⟩ => ?_
  subst he
  exact ⟨_, rfl, post_of_below (pv := []) hW' (fun _ _ _ => trodAll_cons_mk (shut_bool Try.underlying4 _) trodAll_mk0)
    (fun sp hs => trodAll_stays hb (readable_all (by simp)) hA hlt sp (fun x hx => hs x (List.mem_append_left _ hx))) (fun _ _ => rfl) rfl hb (ok_one (by kernel_rfl) rfl (okWide_bool_mk Try.underlying4 _))⟩

/-- The statement. -/
theorem proved : Rows.FnExactStableItemsSaid :=
  OpenClaim.holds_of_wide 27 Try.f27 rfl rfl rfl rfl rfl rfl rfl ⟨rfl, rfl, rfl, rfl, rfl⟩ rfl rfl rfl rfl rfl (by as_aux_lemma => kernel_rfl) Try.func27
    (closed_mk (P := Try.prog) (by as_aux_lemma => kernel_rfl) all_laid all_rowed (by as_aux_lemma => kernel_rfl) rfl rfl all_stops rfl all_knobs
      (by as_aux_lemma => kernel_rfl) (by as_aux_lemma => kernel_rfl) (by as_aux_lemma => kernel_rfl) (by as_aux_lemma => kernel_rfl)
      (by as_aux_lemma => kernel_rfl) (by as_aux_lemma => kernel_rfl) (by as_aux_lemma => kernel_rfl) (by as_aux_lemma => kernel_rfl) (by as_aux_lemma => kernel_rfl)
      rfl (by as_aux_lemma => kernel_rfl) (by as_aux_lemma => kernel_rfl) (by as_aux_lemma => kernel_rfl)
      (by as_aux_lemma => kernel_rfl) rfl all_heard may_enter rfl lifts_final rfl make_cut rfl rfl rfl (by as_aux_lemma => kernel_rfl) (by as_aux_lemma => kernel_rfl))
    (of_decide_eq_true (by as_aux_lemma => kernel_rfl)) (by as_aux_lemma => (unfold Func.isWrapper; first | (rw [if_pos (by decide +kernel)]; kernel_rfl) | (rw [if_neg (by decide +kernel)]; exact ⟨rfl, rfl⟩)))
    (fun os started H enc _ => lifted os started H enc)
end Go.Proofs.Ytcamaikogengoaa.fnExactStableItems
