/- The law FnTwins is proved: the keys of items that are sorted by each way are the numbers that are sorted by its twin. It holds for every input, with no condition. -/
import Derived.Test.YtcamaikogengoaaClosed
import Derived.Test.YtcamaikogengoaaItSome
import Derived.Test.YtcamaikogengoaaIntEqual
import Derived.Test.YtcamaikogengoaaAPDQSort
import Derived.Test.YtcamaikogengoaaAHeapSort
import Derived.Test.YtcamaikogengoaaTwinsPlain
namespace Go.Proofs.Ytcamaikogengoaa.fnTwins
set_option linter.unusedVariables false
set_option linter.unusedSimpArgs false
set_option linter.unusedSectionVars false
open Go.ChangeShapes Go.WideShapes Go.ChangeAt Go.RowKit

open Go.Sort
set_option maxHeartbeats 4000000 in
theorem law (v : Value) (D : Array It) (a b limit : Int) (w : World) (h : SlAt HT 0 w v D) (_hm : D.size ≤ maxLen) (_wa : (Lit.int .i64 a).wf = true) (_wb : (Lit.int .i64 b).wf = true) (_wl : (Lit.int .i64 limit).wf = true) :
    Calls Try.prog 12 #[v, .int .i64 a, .int .i64 b, .int .i64 limit] w fun e w' => e = .returned (.bool true) ∧ RowKit.Below w.heap.size w w' := by
  have h' := h
  obtain ⟨A, cap, rfl, hcp, hh⟩ := h
  clear hh hcp
  by_cases hbig : D.size ≤ 2147483647
  · have hbz : (D.size : Int) ≤ 2147483647 := by omega
    by_cases hr : InRange D.size a b
    · obtain ⟨h0, h1, h2, h3⟩ := hr
      obtain ⟨a, rfl⟩ := Int.eq_ofNat_of_zero_le h0
      obtain ⟨b, rfl⟩ := Int.eq_ofNat_of_zero_le (Int.le_trans h0 h1)
      have q1 : a ≤ b := by omega
      have q2 : b ≤ D.size := by omega
      by_cases hl0 : limit < 0
      · go_enter Try.func12, Try.ntmps12
        go_wp2_with (first | (go_at_call 45; refine (itemRange_yes A D.size cap a b _ h0 h1 h2 h3).mono ?_; rintro e w1 ⟨rfl, rfl⟩))
        go_ret
        exact ⟨rfl, RowKit.Below.refl _ _⟩
      · by_cases hl1 : limit > 1000
        · have hl0' : 0 ≤ limit := by omega
          go_enter Try.func12, Try.ntmps12
          go_wp2_with (first | (go_at_call 45; refine (itemRange_yes A D.size cap a b _ h0 h1 h2 h3).mono ?_; rintro e w1 ⟨rfl, rfl⟩))
          go_ret
          exact ⟨rfl, RowKit.Below.refl _ _⟩
        · obtain ⟨limit, rfl⟩ := Int.eq_ofNat_of_zero_le (show 0 ≤ limit by omega)
          have hl2 : (limit : Int) ≤ 1000 := by omega
          have hl3 : ¬ (limit : Int) < 0 := by omega
          have q3 : limit < 4611686018427387904 := by omega
          cases hA : aheadB (keysOf D) a b with
          | false =>
            have HA : Hid _ := hA
            clear hA
            go_enter Try.func12, Try.ntmps12
            go_wp2_with (first
              | (go_at_call 45; refine (itemRange_yes A D.size cap a b _ h0 h1 h2 h3).mono ?_; rintro e w1 ⟨rfl, rfl⟩)
              | (go_at_call 46; refine (AheadItems_at _ D a b _ h' q1 q2 hbig).mono ?_; rw [HA.out]; rintro e w1 ⟨rfl, hb1⟩))
            go_ret
            exact ⟨rfl, hb1⟩
          | true =>
            have HA : Hid _ := hA
            have HP := Lib.hid (aheadB_iff.1 hA)
            clear hA
            by_cases hn0 : D.size = 0
            · have hz0 : ((D.size : Int) == 0) = true := beq_iff_eq.2 (by omega)
              have hz1 : (D.size : Int) = 0 := by omega
              have HN := Lib.hid hn0
              clear hn0
              go_enter Try.func12, Try.ntmps12
              go_wp2_with (first
                | (go_at_call 45; refine (itemRange_yes A D.size cap a b _ h0 h1 h2 h3).mono ?_; rintro e w1 ⟨rfl, rfl⟩)
                | (go_at_call 46; refine (AheadItems_at _ D a b _ h' q1 q2 hbig).mono ?_; rw [HA.out]; rintro e w1 ⟨rfl, hb1⟩))
              go_ret
              exact ⟨rfl, hb1⟩
            · have hz0 : ((D.size : Int) == 0) = false := beq_eq_false_iff_ne.2 (by omega)
              have hz2 : ¬ (D.size : Int) = 0 := by omega
              have k1 : b ≤ (keysOf D).size := by rw [keysOf_size]; exact q2
              have k2 : (keysOf D).size ≤ 2147483647 := by rw [keysOf_size]; exact hbig
              have K1 := Lib.hid k1
              have K2 := Lib.hid k2
              have KB := Lib.hid (ahead_below HP.out)
              clear hn0 k1 k2
              go_enter Try.func12, Try.ntmps12
              go_wp2_with (first | (go_at_call 45; refine (itemRange_yes A D.size cap a b _ h0 h1 h2 h3).mono ?_; rintro e w1 ⟨rfl, rfl⟩))
              go_wp2_with fail
              refine (AheadItems_at _ D a b _ h' q1 q2 hbig).mono ?_
              rw [HA.out]
              rintro e w1 ⟨rfl, hb1⟩
              go_wp2_with fail
              refine (Keys_at _ D _ (keepT h' hb1) hbig).mono ?_
              rintro e w2 ⟨vk, rfl, hk2, hb2⟩
              have hb12 := hb1.trans (hb2.mono hb1.size)
              have HK2 := Lib.hid hk2.any
              clear hk2
              go_wp2_with fail
              refine (pdqT_some _ D a b limit _ (keepT h' hb12) q1 q2 q3 HP.out hbig).mono ?_
              rintro e w3 ⟨R3, A3, c3, rfl, hp3, hc3, hs3, hb3⟩
              have hb13 := hb12.trans (hb3.mono hb12.size)
              have HK3 := Lib.hid (keepI HK2.out hb3)
              go_wp2_with fail
              refine (Keys_any _ D.size R3 _ hs3.out.any hp3.out.1.1 hbig).mono ?_
              rintro e w4 ⟨v4, rfl, hs4, hb4⟩
              have hb14 := hb13.trans (hb4.mono hb13.size)
              have HK4 := Lib.hid (keepI HK3.out hb4)
              go_wp2_with fail
              refine (pdq_sorted vk D a b limit _ HK4.out q1 q2 q3 KB.out hbig).mono ?_
              rintro e w5 ⟨v5, rfl, hs5, hb5⟩
              have hb15 := hb14.trans (hb5.mono hb14.size)
              have HK5 := Lib.hid (keepI HK4.out hb5)
              go_wp2_with fail
              refine (equal_keys v4 v5 D R3 a b _ hp3.out.1 hp3.out.2 q1 q2 hbig (keepI hs4.any hb5) hs5.out.any).mono ?_
              rintro e w6 ⟨rfl, hb6⟩
              have hb16 := hb15.trans (hb6.mono hb15.size)
              have HK6 := Lib.hid (keepI HK5.out hb6)
              clear hs3 hs4 hs5
              go_wp2_with fail
              refine (heapT_some _ D a b _ (keepT h' hb16) q1 q2 hbig).mono ?_
              rintro e w7 ⟨R7, A7, c7, rfl, hp7, hc7, hs7, hb7⟩
              have hb17 := hb16.trans (hb7.mono hb16.size)
              have HK7 := Lib.hid (keepI HK6.out hb7)
              go_wp2_with fail
              refine (Keys_any _ D.size R7 _ hs7.out.any hp7.out.1.1 hbig).mono ?_
              rintro e w8 ⟨v8, rfl, hs8, hb8⟩
              have hb18 := hb17.trans (hb8.mono hb17.size)
              have HK8 := Lib.hid (keepI HK7.out hb8)
              go_wp2_with fail
              refine (heap_sorted vk D a b _ HK8.out q1 q2 hbig).mono ?_
              rintro e w9 ⟨v9, rfl, hs9, hb9⟩
              have hb19 := hb18.trans (hb9.mono hb18.size)
              have HK9 := Lib.hid (keepI HK8.out hb9)
              go_wp2_with fail
              refine (equal_keys v8 v9 D R7 a b _ hp7.out.1 hp7.out.2 q1 q2 hbig (keepI hs8.any hb9) hs9.out.any).mono ?_
              rintro e w10 ⟨rfl, hb10⟩
              have hb110 := hb19.trans (hb10.mono hb19.size)
              have HK10 := Lib.hid (keepI HK9.out hb10)
              clear hs7 hs8 hs9
              go_wp2_with fail
              refine (insT_some _ D a b _ (keepT h' hb110) q1 q2 hbig).mono ?_
              rintro e w11 ⟨R11, A11, c11, rfl, hp11, hc11, hs11, hb11⟩
              have hb111 := hb110.trans (hb11.mono hb110.size)
              have HK11 := Lib.hid (keepI HK10.out hb11)
              go_wp2_with fail
              refine (Keys_any _ D.size R11 _ hs11.out.any hp11.out.1.1 hbig).mono ?_
              rintro e w12 ⟨v12, rfl, hs12, hb12'⟩
              have hb112 := hb111.trans (hb12'.mono hb111.size)
              have HK12 := Lib.hid (keepI HK11.out hb12')
              go_wp2_with fail
              refine (ins_sorted vk D a b _ HK12.out q1 q2 hbig).mono ?_
              rintro e w13 ⟨v13, rfl, hs13, hb13'⟩
              have hb113 := hb112.trans (hb13'.mono hb112.size)
              have HK13 := Lib.hid (keepI HK12.out hb13')
              go_wp2_with fail
              refine (equal_keys v12 v13 D R11 a b _ hp11.out.1 hp11.out.2 q1 q2 hbig (keepI hs12.any hb13') hs13.out.any).mono ?_
              rintro e w14 ⟨rfl, hb14'⟩
              have hb114 := hb113.trans (hb14'.mono hb113.size)
              have HK14 := Lib.hid (keepI HK13.out hb14')
              clear hs11 hs12 hs13
              have hle : ((D.size : Int) == (D.size : Int)) = true := by simp
              go_wp2_with fail
              refine (pdq_length vk D a b limit _ HK14.out q1 q2 q3 KB.out hbig).mono ?_
              rintro e w15 ⟨A15, c15, rfl, hb15'⟩
              go_wp2
              go_ret
              exact ⟨rfl, hb114.trans (hb15'.mono hb114.size)⟩
    · go_enter Try.func12, Try.ntmps12
      go_wp2_with (first | (go_at_call 45; refine (itemRange_no A D.size cap a b _ hr).mono ?_; rintro e w1 ⟨rfl, rfl⟩))
      go_ret
      exact ⟨rfl, RowKit.Below.refl _ _⟩
  · go_enter Try.func12, Try.ntmps12
    go_wp2
    go_ret
    exact ⟨rfl, RowKit.Below.refl _ _⟩

set_option maxRecDepth 100000 in
theorem lifted (os : Os) (started : os.Started) (H : Type) (enc : TypeId × Value → H) :
    ReturnsInHanded {} Try.checked os 12 .any (Rows.fnTwinsSpec.pre6 enc Try.prog Try.f12 Rows.fnTwinsRow.domain false) (Rows.fnTwinsSpec.post enc Try.prog Try.f12 false true false false) := by
  refine returnsInHanded_of_change (C := Try.checked) own started (by kernel_rfl) Try.func12
    (ChangeSpec.witness6 (enc := enc) (C := Try.checked) false ⟨#[], #[.slice none 0 0, .int .i64 0, .int .i64 0, .int .i64 0], []⟩ 8 (by kernel_rfl) (by kernel_rfl) (by kernel_rfl) (by kernel_rfl)) ?_
  intro W base args ds gs before hval0 hW _ _
  have hval : ∀ (j : Nat) t v, Try.f12.params[j]? = some t → args[j]? = some v → Value.okWide Try.prog W .any base t v := hval0
  have hW' := hW
  obtain ⟨p, q, hA0, hV, rfl, hfz, _⟩ := hW
  have hA : DataW.TrodAll enc Try.prog W 0 (fun _ => true) true Try.f12.params.toList args.toList ds p := hA0
  rw [Try.params12] at hA hval
  obtain ⟨rfl, rfl⟩ := trodVars_none hV
  have hlt := hW'.lt
  simp only [List.append_nil] at hfz hlt
  have hA1 := hA
  obtain ⟨v0, vs0, d0, ds0, p0, q0, hargs, rfl, rfl, h0, r0⟩ := trodAll_cons hA1
  obtain ⟨v1, vs1, d1, ds1, p1, q1, rfl, rfl, rfl, h1, r1⟩ := trodAll_cons r0
  obtain ⟨v2, vs2, d2, ds2, p2, q2, rfl, rfl, rfl, h2, r2⟩ := trodAll_cons r1
  obtain ⟨v3, vs3, d3, ds3, p3, q3, rfl, rfl, rfl, h3, r3⟩ := trodAll_cons r2
  obtain ⟨rfl, rfl, rfl⟩ := trodAll_nil r3
  obtain rfl : args = #[v0, v1, v2, v3] := by cases args; simp_all
  clear hA0 hval0 hA1
  obtain ⟨D0, s0, m0⟩ := items_open (hval 0 39 v0 rfl rfl) h0 (fun x hx => hlt x (by simp [hx])) (fun b off hx => hfz b off (by simp [hx]))
  obtain ⟨x1, rfl, rfl, rfl, w1⟩ := open_int Try.underlying3 (hval 1 3 v1 rfl rfl) h1
  obtain ⟨x2, rfl, rfl, rfl, w2⟩ := open_int Try.underlying3 (hval 2 3 v2 rfl rfl) h2
  obtain ⟨x3, rfl, rfl, rfl, w3⟩ := open_int Try.underlying3 (hval 3 3 v3 rfl rfl) h3
  refine (law v0 D0 x1 x2 x3 W s0 m0 w1 w2 w3).mono fun e W' ⟨he, hb⟩ => ?_
  subst he
  exact ⟨_, rfl, post_of_below (pv := []) hW' (fun _ _ _ => trodAll_cons_mk (shut_bool Try.underlying4 _) trodAll_mk0)
    (fun sp hs => trodAll_stays hb (readable_all (by simp)) hA hlt sp (fun x hx => hs x (List.mem_append_left _ hx))) (fun _ _ => rfl) rfl hb (ok_one (by kernel_rfl) rfl (okWide_bool_mk Try.underlying4 _))⟩

/-- The statement. -/
theorem proved : Rows.FnTwinsSaid :=
  OpenClaim.holds_of_wide 12 Try.f12 rfl rfl rfl rfl rfl rfl rfl ⟨rfl, rfl, rfl, rfl, rfl⟩ rfl rfl rfl rfl rfl (by as_aux_lemma => kernel_rfl) Try.func12
    (closed_mk (P := Try.prog) (by as_aux_lemma => kernel_rfl) all_laid all_rowed (by as_aux_lemma => kernel_rfl) rfl rfl all_stops rfl all_knobs
      (by as_aux_lemma => kernel_rfl) (by as_aux_lemma => kernel_rfl) (by as_aux_lemma => kernel_rfl) (by as_aux_lemma => kernel_rfl)
      (by as_aux_lemma => kernel_rfl) (by as_aux_lemma => kernel_rfl) (by as_aux_lemma => kernel_rfl) (by as_aux_lemma => kernel_rfl) (by as_aux_lemma => kernel_rfl)
      rfl (by as_aux_lemma => kernel_rfl) (by as_aux_lemma => kernel_rfl) (by as_aux_lemma => kernel_rfl)
      (by as_aux_lemma => kernel_rfl) rfl all_heard may_enter rfl lifts_final rfl make_cut rfl rfl rfl (by as_aux_lemma => kernel_rfl) (by as_aux_lemma => kernel_rfl))
    (of_decide_eq_true (by as_aux_lemma => kernel_rfl)) (by as_aux_lemma => (unfold Func.isWrapper; first | (rw [if_pos (by decide +kernel)]; kernel_rfl) | (rw [if_neg (by decide +kernel)]; exact ⟨rfl, rfl⟩)))
    (fun os started H enc _ => lifted os started H enc)
end Go.Proofs.Ytcamaikogengoaa.fnTwins
