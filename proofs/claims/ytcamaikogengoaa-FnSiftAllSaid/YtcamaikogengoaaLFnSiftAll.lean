/- The law FnSiftAll is proved: sifted down from the last node to the root, a range becomes a heap. It holds for every input, with no condition. -/
import Derived.Test.YtcamaikogengoaaClosed
import Derived.Test.YtcamaikogengoaaIntSame
import Derived.Test.YtcamaikogengoaaIntHeap
import Derived.Test.YtcamaikogengoaaASiftDown
namespace Go.Proofs.Ytcamaikogengoaa.fnSiftAll
set_option linter.unusedVariables false
set_option linter.unusedSimpArgs false
set_option linter.unusedSectionVars false
open Go.ChangeShapes Go.WideShapes Go.ChangeAt Go.RowKit

open Go.Sort
set_option maxHeartbeats 2000000 in
theorem law (v : Value) (D : Array Int) (lo hi first : Int) (w : World) (h : SlAt HI 0 w v D) (_hm : D.size ≤ maxLen) (wa : (Lit.int .i64 lo).wf = true) (wb : (Lit.int .i64 hi).wf = true) (wl : (Lit.int .i64 first).wf = true) :
    Calls Try.prog 13 #[v, .int .i64 lo, .int .i64 hi, .int .i64 first] w fun e w' => e = .returned (.bool true) ∧ RowKit.Below w.heap.size w w' := by
  have h' := h
  obtain ⟨A, cap, rfl, hcp, hh⟩ := h
  clear hh hcp
  by_cases hbig : D.size ≤ 2147483647
  · have hbz : (D.size : Int) ≤ 2147483647 := by omega
    by_cases c1 : hi < 0
    · go_enter Try.func13, Try.ntmps13
      go_wp2
      go_ret
      exact ⟨rfl, RowKit.Below.refl _ _⟩
    have n1 : 0 ≤ hi := by omega
    clear c1
    by_cases c3 : first < 0
    · go_enter Try.func13, Try.ntmps13
      go_wp2
      go_ret
      exact ⟨rfl, RowKit.Below.refl _ _⟩
    have n3 : 0 ≤ first := by omega
    clear c3
    by_cases c4 : (D.size : Int) < hi
    · go_enter Try.func13, Try.ntmps13
      go_wp2
      go_ret
      exact ⟨rfl, RowKit.Below.refl _ _⟩
    have n4 : hi ≤ (D.size : Int) := by omega
    clear c4
    by_cases c5 : (D.size : Int) - hi < first
    · go_enter Try.func13, Try.ntmps13
      go_wp2
      go_ret
      exact ⟨rfl, RowKit.Below.refl _ _⟩
    have n5 : first ≤ (D.size : Int) - hi := by omega
    clear c5
    by_cases c6 : 4096 < (D.size : Int)
    · go_enter Try.func13, Try.ntmps13
      go_wp2
      go_ret
      exact ⟨rfl, RowKit.Below.refl _ _⟩
    have n6 : (D.size : Int) ≤ 4096 := by omega
    clear c6
    obtain ⟨hi, rfl⟩ := Int.eq_ofNat_of_zero_le n1
    obtain ⟨first, rfl⟩ := Int.eq_ofNat_of_zero_le n3
    have q2 : first + hi ≤ D.size := by omega
    have d4 : decide (D.size < hi) = false := decide_eq_false (by omega)
    have HB := Lib.hid (heapBuild_all swo_ltInt q2)
    have c3 := fun v1 (X : Array Int) k W hW (hk : k < hi) (hX : X.size = D.size) => SiftDown_impl v1 X k hi first W hW hk (by omega) (by omega)
    have c4 := fun v1 (X : Array Int) W h1 h2 hp => Same_at v1 (.slice A D.size cap) X D first (first + hi) W h1 h2 (by omega) q2 hbig hp
    rw [show ((first + hi : Nat) : Int) = (first : Int) + (hi : Int) from by omega] at c4
    have c5 := fun v1 (X : Array Int) W hW (hX : X.size = D.size) hok => Heap_at v1 X hi first W (by omega) (by omega) hW hok
    have C3 := Lib.hid c3
    have C4 := Lib.hid c4
    have C5 := Lib.hid c5
    clear c3 c4 c5
    go_enter Try.func13, Try.ntmps13
    go_wp2
    go_loopw [9, 10] (fun va vi wr => ∃ (k : Nat) (X : Array Int), vi = .int .i64 ((k : Int) - 1) ∧ k ≤ hi ∧ X.size = D.size ∧ SlAt HI 0 wr va X ∧ RowKit.Below w.heap.size w wr ∧ Hid (heapBuild ltInt hi first k X = heapBuild ltInt hi first hi D)) (fun _ vi _ => (intOf vi + 1).toNat)
    case atStart => exact ⟨hi, D, rfl, Nat.le_refl _, rfl, h', RowKit.Below.refl _ _, Lib.hid rfl⟩
    case round =>
      obtain ⟨k, X, rfl, hk, hX, hs, hb, HE⟩ := hrel
      cases k with
      | zero =>
        have hz : ¬ (0 : Int) ≤ ((0 : Nat) : Int) - 1 := by omega
        go_wp2_with fail
        refine (C4.out _ _ _ hs.any (keepI h' hb) (by have e := HE.out; simp only [heapBuild] at e; rw [e]; exact HB.out.2)).mono ?_
        rintro e w4 ⟨rfl, hb4⟩
        have k4 := hb.trans (hb4.mono hb.size)
        go_wp2_with fail
        refine (C5.out _ _ _ (keepI hs hb4) hX (by have e := HE.out; simp only [heapBuild] at e; rw [e]; exact HB.out.1)).mono ?_
        rintro e w5 ⟨rfl, hb5⟩
        have k5 := k4.trans (hb5.mono k4.size)
        go_wp2
        go_ret
        exact ⟨rfl, k5⟩
      | succ k =>
        have hz : (0 : Int) ≤ ((k + 1 : Nat) : Int) - 1 := by omega
        have ek : ((k + 1 : Nat) : Int) - 1 = (k : Int) := by omega
        rw [ek]
        rw [ek] at hz
        go_wp2_with fail
        refine (C3.out _ _ _ _ hs.any (by omega) hX).mono ?_
        rintro e w4 ⟨v4, rfl, hs4, hb4⟩
        have k4 := hb.trans (hb4.mono hb.size)
        go_wp2
        go_roundw
        case rel => exact ⟨k, siftDown ltInt hi first k X, by go_num, by omega, (siftDown_perm hi first _ k X (Nat.le_refl _) (by omega)).1.trans hX, hs4.any, k4, Lib.hid (by have e := HE.out; simp only [heapBuild] at e; exact e)⟩
        case measure => simp [intOf]
  · go_enter Try.func13, Try.ntmps13
    go_wp2
    go_ret
    exact ⟨rfl, RowKit.Below.refl _ _⟩

set_option maxRecDepth 100000 in
theorem lifted (os : Os) (started : os.Started) (H : Type) (enc : TypeId × Value → H) :
    ReturnsInHanded {} Try.checked os 13 .any (Rows.fnSiftAllSpec.pre6 enc Try.prog Try.f13 Rows.fnSiftAllRow.domain false) (Rows.fnSiftAllSpec.post enc Try.prog Try.f13 false true false false) := by
  refine returnsInHanded_of_change (C := Try.checked) own started (by kernel_rfl) Try.func13
    (ChangeSpec.witness6 (enc := enc) (C := Try.checked) false ⟨#[], #[.slice none 0 0, .int .i64 0, .int .i64 0, .int .i64 0], []⟩ 8 (by kernel_rfl) (by kernel_rfl) (by kernel_rfl) (by kernel_rfl)) ?_
  intro W base args ds gs before hval0 hW _ _
  have hval : ∀ (j : Nat) t v, Try.f13.params[j]? = some t → args[j]? = some v → Value.okWide Try.prog W .any base t v := hval0
  have hW' := hW
  obtain ⟨p, q, hA0, hV, rfl, hfz, _⟩ := hW
  have hA : DataW.TrodAll enc Try.prog W 0 (fun _ => true) true Try.f13.params.toList args.toList ds p := hA0
  rw [Try.params13] at hA hval
  obtain ⟨rfl, rfl⟩ := trodVars_none hV
  have hlt := hW'.lt
  simp only [List.append_nil] at hfz hlt
  have hA1 := hA
  obtain ⟨v0, vs0, d0, ds0, p0, q0, hargs, rfl, rfl, h0, r0⟩ := trodAll_cons hA1
  obtain ⟨v1, vs1, d1, ds1, p1, q1, rfl, rfl, rfl, h1, r1⟩ := trodAll_cons r0
  obtain ⟨v2, vs2, d2, ds2, p2, q2, rfl, rfl, rfl, h2, r2⟩ := trodAll_cons r1
  obtain ⟨v3, vs3, d3, ds3, p3, q3, rfl, rfl, rfl, h3, r3⟩ := trodAll_cons r2
  obtain ⟨rfl, rfl, rfl⟩ := trodAll_nil r3
  obtain rfl : args = #[v0, v1, v2, v3] := by cases args; simp_all
  clear hA0 hval0 hA1
  obtain ⟨D0, s0, m0⟩ := ints_open (hval 0 27 v0 rfl rfl) h0 (fun x hx => hlt x (by simp [hx])) (fun b off hx => hfz b off (by simp [hx]))
  obtain ⟨x1, rfl, rfl, rfl, w1⟩ := open_int Try.underlying3 (hval 1 3 v1 rfl rfl) h1
  obtain ⟨x2, rfl, rfl, rfl, w2⟩ := open_int Try.underlying3 (hval 2 3 v2 rfl rfl) h2
  obtain ⟨x3, rfl, rfl, rfl, w3⟩ := open_int Try.underlying3 (hval 3 3 v3 rfl rfl) h3
  refine (law v0 D0 x1 x2 x3 W s0 m0 w1 w2 w3).mono fun e W' ⟨he, hb⟩ => ?_
  subst he
  exact ⟨_, rfl, post_of_below (pv := []) hW' (fun _ _ _ => trodAll_cons_mk (shut_bool Try.underlying4 _) trodAll_mk0)
    (fun sp hs => trodAll_stays hb (readable_all (by simp)) hA hlt sp (fun x hx => hs x (List.mem_append_left _ hx))) (fun _ _ => rfl) rfl hb (ok_one (by kernel_rfl) rfl (okWide_bool_mk Try.underlying4 _))⟩

/-- The statement. -/
theorem proved : Rows.FnSiftAllSaid :=
  OpenClaim.holds_of_wide 13 Try.f13 rfl rfl rfl rfl rfl rfl rfl ⟨rfl, rfl, rfl, rfl, rfl⟩ rfl rfl rfl rfl rfl (by as_aux_lemma => kernel_rfl) Try.func13
    (closed_mk (P := Try.prog) (by as_aux_lemma => kernel_rfl) all_laid all_rowed (by as_aux_lemma => kernel_rfl) rfl rfl all_stops rfl all_knobs
      (by as_aux_lemma => kernel_rfl) (by as_aux_lemma => kernel_rfl) (by as_aux_lemma => kernel_rfl) (by as_aux_lemma => kernel_rfl)
      (by as_aux_lemma => kernel_rfl) (by as_aux_lemma => kernel_rfl) (by as_aux_lemma => kernel_rfl) (by as_aux_lemma => kernel_rfl) (by as_aux_lemma => kernel_rfl)
      rfl (by as_aux_lemma => kernel_rfl) (by as_aux_lemma => kernel_rfl) (by as_aux_lemma => kernel_rfl)
      (by as_aux_lemma => kernel_rfl) rfl all_heard may_enter rfl lifts_final rfl make_cut rfl rfl rfl (by as_aux_lemma => kernel_rfl) (by as_aux_lemma => kernel_rfl))
    (of_decide_eq_true (by as_aux_lemma => kernel_rfl)) (by as_aux_lemma => (unfold Func.isWrapper; first | (rw [if_pos (by decide +kernel)]; kernel_rfl) | (rw [if_neg (by decide +kernel)]; exact ⟨rfl, rfl⟩)))
    (fun os started H enc _ => lifted os started H enc)
end Go.Proofs.Ytcamaikogengoaa.fnSiftAll
