/- The law FnExactMedian is proved: the median of three numbers is one of them between the other two. It holds for every input, with no condition. -/
import Derived.Test.YtcamaikogengoaaClosed
import Derived.Test.YtcamaikogengoaaAMedian
namespace Go.Proofs.Ytcamaikogengoaa.fnExactMedian
set_option linter.unusedVariables false
set_option linter.unusedSimpArgs false
set_option linter.unusedSectionVars false
open Go.ChangeShapes Go.WideShapes Go.ChangeAt Go.RowKit

open Go.Sort
theorem median_val (D : Array Int) (a b c s : Nat) : D[(median ltInt D a b c s).1]! = max (min D[a]! D[b]!) (min (max D[a]! D[b]!) D[c]!) := by
  unfold median order2
  simp only [ltInt, decide_eq_true_eq]
  by_cases h1 : D[b]! < D[a]!
  · simp only [if_pos h1]
    by_cases h2 : D[c]! < D[a]!
    · simp only [if_pos h2]
      by_cases h3 : D[c]! < D[b]!
      · simp only [if_pos h3]; omega
      · simp only [if_neg h3]; omega
    · simp only [if_neg h2]
      by_cases h3 : D[a]! < D[b]!
      · simp only [if_pos h3]; omega
      · simp only [if_neg h3]; omega
  · simp only [if_neg h1]
    by_cases h2 : D[c]! < D[b]!
    · simp only [if_pos h2]
      by_cases h3 : D[c]! < D[a]!
      · simp only [if_pos h3]; omega
      · simp only [if_neg h3]; omega
    · simp only [if_neg h2]
      by_cases h3 : D[b]! < D[a]!
      · simp only [if_pos h3]; omega
      · simp only [if_neg h3]; omega

set_option maxRecDepth 100000 in
set_option maxHeartbeats 4000000 in
theorem law (v : Value) (D : Array Int) (a b c : Int) (w : World) (h : SlAt HI 0 w v D) (_hm : D.size ≤ maxLen) (_wa : (Lit.int .i64 a).wf = true) (_wb : (Lit.int .i64 b).wf = true) (_wc : (Lit.int .i64 c).wf = true) :
    Calls Try.prog 4 #[v, .int .i64 a, .int .i64 b, .int .i64 c] w fun e w' => e = .returned (.bool true) ∧ RowKit.Below w.heap.size w w' := by
  have h' := h
  obtain ⟨A, cap, rfl, hcp, hh⟩ := h
  by_cases hbig : D.size ≤ 2147483647
  · have hbz : (D.size : Int) ≤ 2147483647 := by omega
    by_cases c1 : a < 0
    · go_enter Try.func4, Try.ntmps4
      go_wp2
      go_ret
      exact ⟨rfl, RowKit.Below.refl _ _⟩
    have n1 : 0 ≤ a := by omega
    by_cases c2 : (D.size : Int) ≤ a
    · go_enter Try.func4, Try.ntmps4
      go_wp2
      go_ret
      exact ⟨rfl, RowKit.Below.refl _ _⟩
    have n2 : a < (D.size : Int) := by omega
    clear c1 c2
    by_cases c1 : b < 0
    · go_enter Try.func4, Try.ntmps4
      go_wp2
      go_ret
      exact ⟨rfl, RowKit.Below.refl _ _⟩
    have n3 : 0 ≤ b := by omega
    by_cases c2 : (D.size : Int) ≤ b
    · go_enter Try.func4, Try.ntmps4
      go_wp2
      go_ret
      exact ⟨rfl, RowKit.Below.refl _ _⟩
    have n4 : b < (D.size : Int) := by omega
    clear c1 c2
    by_cases c1 : c < 0
    · go_enter Try.func4, Try.ntmps4
      go_wp2
      go_ret
      exact ⟨rfl, RowKit.Below.refl _ _⟩
    have n5 : 0 ≤ c := by omega
    by_cases c2 : (D.size : Int) ≤ c
    · go_enter Try.func4, Try.ntmps4
      go_wp2
      go_ret
      exact ⟨rfl, RowKit.Below.refl _ _⟩
    have n6 : c < (D.size : Int) := by omega
    clear c1 c2
    obtain ⟨a, rfl⟩ := Int.eq_ofNat_of_zero_le n1
    obtain ⟨b, rfl⟩ := Int.eq_ofNat_of_zero_le n3
    obtain ⟨c, rfl⟩ := Int.eq_ofNat_of_zero_le n5
    have q1 : a < D.size := by omega
    have q2 : b < D.size := by omega
    have q3 : c < D.size := by omega
    have hmem := median_mem ltInt D a b c 0
    have hval := median_val D a b c 0
    have c3 := fun W hW => Median_impl (.slice A D.size cap) D a b c W hW q1 q2 q3 hbig
    obtain ⟨x, hx⟩ : ∃ x, (median ltInt D a b c 0).1 = x := ⟨_, rfl⟩
    rw [hx] at hmem hval c3
    have C3 := Lib.hid c3
    clear c3 hx
    have qx : x < D.size := by omega
    have zx : (x : Int) < (D.size : Int) := by omega
    obtain ⟨bk, off, rfl, _, g2, hH⟩ := hh (by omega)
    obtain ⟨pv, hp⟩ : ∃ y, D[a]! = y := ⟨_, rfl⟩
    obtain ⟨qv, hq⟩ : ∃ y, D[b]! = y := ⟨_, rfl⟩
    obtain ⟨sv, hs⟩ : ∃ y, D[c]! = y := ⟨_, rfl⟩
    obtain ⟨xv, hxv⟩ : ∃ y, D[x]! = y := ⟨_, rfl⟩
    have k1 : w.cell? ⟨bk, off + a, none⟩ = some (.int .i64 pv) := by rw [(hH a q1).1, hp]
    have k2 : w.cell? ⟨bk, off + b, none⟩ = some (.int .i64 qv) := by rw [(hH b q2).1, hq]
    have k3 : w.cell? ⟨bk, off + c, none⟩ = some (.int .i64 sv) := by rw [(hH c q3).1, hs]
    have k4 : w.cell? ⟨bk, off + x, none⟩ = some (.int .i64 xv) := by rw [(hH x qx).1, hxv]
    rw [hp, hq, hs, hxv] at hval
    have hv : (xv == max (min pv qv) (min (max pv qv) sv)) = true := by rw [hval]; simp
    have HV := Lib.hid hv
    have h4 : ((x != a) = false ∧ ((x : Int) != (a : Int)) = false) ∨ ((x != a) = true ∧ ((x : Int) != (a : Int)) = true ∧ (x != b) = false ∧ ((x : Int) != (b : Int)) = false) ∨ ((x != a) = true ∧ ((x : Int) != (a : Int)) = true ∧ (x != b) = true ∧ ((x : Int) != (b : Int)) = true ∧ (x != c) = false ∧ ((x : Int) != (c : Int)) = false) := by
      by_cases e1 : x = a
      · exact .inl ⟨by simp [e1], by simp [e1]⟩
      · by_cases e2 : x = b
        · exact .inr (.inl ⟨by simp [e1], (bne_iff_ne.2 fun h => e1 (Int.ofNat_inj.1 h)), by simp [e2], by simp [e2]⟩)
        · have e3 : x = c := (hmem.resolve_left e1).resolve_left e2
          exact .inr (.inr ⟨by simp [e1], (bne_iff_ne.2 fun h => e1 (Int.ofNat_inj.1 h)), by simp [e2], (bne_iff_ne.2 fun h => e2 (Int.ofNat_inj.1 h)), by simp [e3], by simp [e3]⟩)
    clear hmem hval hv hp hq hs hxv hH hh
    rcases h4 with ⟨e1, e2⟩ | ⟨e1, e2, e3, e4⟩ | ⟨e1, e2, e3, e4, e5, e6⟩
    all_goals
      go_enter Try.func4, Try.ntmps4
      go_wp2_with fail
      refine (C3.out _ h').mono ?_
      rintro e w1 ⟨s, rfl, hb1⟩
      have k1 := (hb1.cell (p := ⟨bk, off + a, none⟩) g2).trans k1
      have k2 := (hb1.cell (p := ⟨bk, off + b, none⟩) g2).trans k2
      have k3 := (hb1.cell (p := ⟨bk, off + c, none⟩) g2).trans k3
      have k4 := (hb1.cell (p := ⟨bk, off + x, none⟩) g2).trans k4
      go_wp2_with fail
      go_quiet (fail)
      go_wp2
      go_ret
      exact ⟨congrArg (fun b => Ending.returned (.bool b)) HV.out, below_drewN hb1 _⟩
  · go_enter Try.func4, Try.ntmps4
    go_wp2
    go_ret
    exact ⟨rfl, RowKit.Below.refl _ _⟩

set_option maxRecDepth 100000 in
theorem lifted (os : Os) (started : os.Started) (H : Type) (enc : TypeId × Value → H) :
    ReturnsInHanded {} Try.checked os 4 .any (Rows.fnExactMedianSpec.pre6 enc Try.prog Try.f4 Rows.fnExactMedianRow.domain false) (Rows.fnExactMedianSpec.post enc Try.prog Try.f4 false true false false) := by
  refine returnsInHanded_of_change (C := Try.checked) own started (by kernel_rfl) Try.func4
    (ChangeSpec.witness6 (enc := enc) (C := Try.checked) false ⟨#[], #[.slice none 0 0, .int .i64 0, .int .i64 0, .int .i64 0], []⟩ 8 (by kernel_rfl) (by kernel_rfl) (by kernel_rfl) (by kernel_rfl)) ?_
  intro W base args ds gs before hval0 hW _ _
  have hval : ∀ (j : Nat) t v, Try.f4.params[j]? = some t → args[j]? = some v → Value.okWide Try.prog W .any base t v := hval0
  have hW' := hW
  obtain ⟨p, q, hA0, hV, rfl, hfz, _⟩ := hW
  have hA : DataW.TrodAll enc Try.prog W 0 (fun _ => true) true Try.f4.params.toList args.toList ds p := hA0
  rw [Try.params4] at hA hval
  obtain ⟨rfl, rfl⟩ := trodVars_none hV
  have hlt := hW'.lt
  simp only [List.append_nil] at hfz hlt
  have hA1 := hA
  obtain ⟨v0, vs0, d0, ds0, p0, q0, hargs, rfl, rfl, h0, r0⟩ := trodAll_cons hA1
  obtain ⟨v1, vs1, d1, ds1, p1, q1, rfl, rfl, rfl, h1, r1⟩ := trodAll_cons r0
  obtain ⟨v2, vs2, d2, ds2, p2, q2, rfl, rfl, rfl, h2, r2⟩ := trodAll_cons r1
  obtain ⟨v3, vs3, d3, ds3, p3, q3, rfl, rfl, rfl, h3, r3⟩ := trodAll_cons r2
  obtain ⟨rfl, rfl, rfl⟩ := trodAll_nil r3
  obtain rfl : args = #[v0, v1, v2, v3] := by cases args; simp_all
  clear hA0 hval0 hA1
  obtain ⟨D0, s0, m0⟩ := ints_open (hval 0 27 v0 rfl rfl) h0 (fun x hx => hlt x (by simp [hx])) (fun b off hx => hfz b off (by simp [hx]))
  obtain ⟨x1, rfl, rfl, rfl, w1⟩ := open_int Try.underlying3 (hval 1 3 v1 rfl rfl) h1
  obtain ⟨x2, rfl, rfl, rfl, w2⟩ := open_int Try.underlying3 (hval 2 3 v2 rfl rfl) h2
  obtain ⟨x3, rfl, rfl, rfl, w3⟩ := open_int Try.underlying3 (hval 3 3 v3 rfl rfl) h3
  refine (law v0 D0 x1 x2 x3 W s0 m0 w1 w2 w3).mono fun e W' ⟨he, hb⟩ => ?_
  subst he
  exact ⟨_, rfl, post_of_below (pv := []) hW' (fun _ _ _ => trodAll_cons_mk (shut_bool Try.underlying4 _) trodAll_mk0)
    (fun sp hs => trodAll_stays hb (readable_all (by simp)) hA hlt sp (fun x hx => hs x (List.mem_append_left _ hx))) (fun _ _ => rfl) rfl hb (ok_one (by kernel_rfl) rfl (okWide_bool_mk Try.underlying4 _))⟩

/-- The statement. -/
theorem proved : Rows.FnExactMedianSaid :=
  OpenClaim.holds_of_wide 4 Try.f4 rfl rfl rfl rfl rfl rfl rfl ⟨rfl, rfl, rfl, rfl, rfl⟩ rfl rfl rfl rfl rfl (by as_aux_lemma => kernel_rfl) Try.func4
    (closed_mk (P := Try.prog) (by as_aux_lemma => kernel_rfl) all_laid all_rowed (by as_aux_lemma => kernel_rfl) rfl rfl all_stops rfl all_knobs
      (by as_aux_lemma => kernel_rfl) (by as_aux_lemma => kernel_rfl) (by as_aux_lemma => kernel_rfl) (by as_aux_lemma => kernel_rfl)
      (by as_aux_lemma => kernel_rfl) (by as_aux_lemma => kernel_rfl) (by as_aux_lemma => kernel_rfl) (by as_aux_lemma => kernel_rfl) (by as_aux_lemma => kernel_rfl)
      rfl (by as_aux_lemma => kernel_rfl) (by as_aux_lemma => kernel_rfl) (by as_aux_lemma => kernel_rfl)
      (by as_aux_lemma => kernel_rfl) rfl all_heard may_enter rfl lifts_final rfl make_cut rfl rfl rfl (by as_aux_lemma => kernel_rfl) (by as_aux_lemma => kernel_rfl))
    (of_decide_eq_true (by as_aux_lemma => kernel_rfl)) (by as_aux_lemma => (unfold Func.isWrapper; first | (rw [if_pos (by decide +kernel)]; kernel_rfl) | (rw [if_neg (by decide +kernel)]; exact ⟨rfl, rfl⟩)))
    (fun os started H enc _ => lifted os started H enc)
end Go.Proofs.Ytcamaikogengoaa.fnExactMedian
