/- The law FnPartitionEqual is proved: what is equal to the least number is ahead of what is greater. It holds for every input, with no condition. -/
import Derived.Test.YtcamaikogengoaaClosed
import Derived.Test.YtcamaikogengoaaIntClone
import Derived.Test.YtcamaikogengoaaIntSame
import Derived.Test.YtcamaikogengoaaIntMin
import Derived.Test.YtcamaikogengoaaAPartitionEqual
namespace Go.Proofs.Ytcamaikogengoaa.fnPartitionEqual
set_option linter.unusedVariables false
set_option linter.unusedSimpArgs false
set_option linter.unusedSectionVars false
open Go.ChangeShapes Go.WideShapes Go.ChangeAt Go.RowKit

open Go.Sort
set_option maxRecDepth 100000 in
set_option maxHeartbeats 4000000 in
theorem law (v : Value) (D : Array Int) (a b q : Int) (w : World) (h : SlAt HI 0 w v D) (_hm : D.size ≤ maxLen) (_wa : (Lit.int .i64 a).wf = true) (_wb : (Lit.int .i64 b).wf = true) (_wc : (Lit.int .i64 q).wf = true) :
    Calls Try.prog 17 #[v, .int .i64 a, .int .i64 b, .int .i64 q] w fun e w' => e = .returned (.bool true) ∧ RowKit.Below w.heap.size w w' := by
  have h' := h
  obtain ⟨A, cap, rfl, hcp, hh⟩ := h
  by_cases hbig : D.size ≤ 2147483647
  · have hbz : (D.size : Int) ≤ 2147483647 := by omega
    by_cases hr : InRange D.size a b
    · obtain ⟨h0, h1, h2, h3⟩ := hr
      have hbd : RowKit.Below w.heap.size w w.drew := below_drewN (RowKit.Below.refl _ _) 1
      have RY := fun W => range_yes A D.size cap a b W h0 h1 h2 h3
      have RQ := fun W => (RY W).mono (fun e w' h => (⟨h.1, h.2.symm⟩ : e = .returned (.bool true) ∧ w' = W))
      by_cases n1 : q < a
      · have m0 : decide (q < a) = true := decide_eq_true n1
        go_enter Try.func17, Try.ntmps17
        go_wp2_with fail
        go_quiet (first | (go_at_call 33; refine Calls.quiet_of_same (RQ _)))
        go_wp2
        go_ret
        exact ⟨rfl, below_drewN (RowKit.Below.refl _ _) _⟩
      by_cases n2 : b ≤ q
      · have m1 : decide (q < a) = false := decide_eq_false n1
        have m0 : decide (b ≤ q) = true := decide_eq_true n2
        go_enter Try.func17, Try.ntmps17
        go_wp2_with fail
        go_quiet (first | (go_at_call 33; refine Calls.quiet_of_same (RQ _)))
        go_wp2
        go_ret
        exact ⟨rfl, below_drewN (RowKit.Below.refl _ _) _⟩
      obtain ⟨a, rfl⟩ := Int.eq_ofNat_of_zero_le h0
      obtain ⟨b, rfl⟩ := Int.eq_ofNat_of_zero_le (Int.le_trans h0 h1)
      obtain ⟨q, rfl⟩ := Int.eq_ofNat_of_zero_le (show 0 ≤ q by omega)
      have q1 : a ≤ q := by omega
      have q2 : q < b := by omega
      have q3 : b ≤ D.size := by omega
      have q4 : a ≤ b := by omega
      have m1 : decide ((q : Int) < (a : Int)) = false := decide_eq_false n1
      have m2 : decide ((b : Int) ≤ (q : Int)) = false := decide_eq_false n2
      have m7 : decide (q < a) = false := decide_eq_false (by omega)
      have m8 : decide (b ≤ q) = false := decide_eq_false (by omega)
      have z4 : (q : Int) < (D.size : Int) := by omega
      have zc : b ≤ cap := by omega
      obtain ⟨x, hx⟩ : ∃ x, D[q]! = x := ⟨_, rfl⟩
      obtain ⟨bk, off, rfl, _, g2, hH⟩ := hh (by omega)
      have k2 : w.cell? ⟨bk, off + q, none⟩ = some (.int .i64 x) := by rw [(hH q (by omega)).1, hx]
      have g1 := fun W => run_cut_lh Try.underlying27 Try.sizeOf3 (some ⟨bk, off, none⟩) D.size cap a b q4 zc W
      have MN := Lib.hid (fun W (hW : RowKit.Below w.heap.size w W) => Min_at _ _ W ((keepI h' hW).part q4 q3) (by rw [part_size D q3]; omega) (by rw [part_size D q3]; omega))
      have HX := Lib.hid hx
      clear hx hh
      go_enter Try.func17, Try.ntmps17
      go_wp2_with fail
      go_region_held3 (fun W => W.cell? ⟨bk, off + q, none⟩ = some (.int .i64 x)) (first
        | go_keep
        | (rw [hb2.cell (by simp; omega)]; assumption))
        (first
        | (go_at_call 33; (with_reducible refine (RY _).mono ?_); rintro e w0 ⟨rfl, rfl⟩)
        | (go_at_call 62; (with_reducible refine (MN.out _ hbd).mono ?_); rintro e w2 ⟨m, rfl, hm1, hm2, hb2⟩))
      have hb12 : RowKit.Below w.heap.size w w2 := hbd.trans hb2
      by_cases hmx : m < x
      · go_wp2
        go_ret
        exact ⟨rfl, hb12⟩
      have hmx2 : decide (m < x) = false := decide_eq_false hmx
      have hall : ∀ i, a ≤ i → i < b → x ≤ D[i]! := fun i h1 h2 => by
        have := hm2 (i - a) (by rw [part_size D q3]; omega)
        rw [part_at D q3 (by omega), show a + (i - a) = i from by omega] at this
        omega
      have hmin : ∀ i, a ≤ i → i < b → ltInt D[i]! D[q]! = false := fun i h1 h2 => by
        rw [HX.out]
        have := hall i h1 h2
        exact decide_eq_false (by omega)
      have c1 := fun W hW => PartitionEqual_impl (.slice (some ⟨bk, off, none⟩) D.size cap) D a b q W hW q1 q2 q3 hmin hbig
      obtain ⟨p1, p2, p3, p4, p5⟩ := partitionEqual_holds ltInt swo_ltInt D a b q q1 q2 q3 hmin
      obtain ⟨R, hR⟩ : ∃ R, (Sort.partitionEqual Sort.ltInt D a b q).2 = R := ⟨_, rfl⟩
      obtain ⟨k, hk⟩ : ∃ k, (Sort.partitionEqual Sort.ltInt D a b q).1 = k := ⟨_, rfl⟩
      rw [hR, hk] at p4 p5 c1
      rw [hR] at p3
      rw [hk] at p1 p2
      rw [HX.out] at p4 p5
      have hRz : R.size = D.size := p3.1
      have hRall : ∀ i, a ≤ i → i < b → x ≤ R[i]! := permIn_all D R a b (fun y => x ≤ y) q3 p3 hall
      have p4' : ∀ i, a ≤ i → i < k → R[i]! = x := fun i h1 h2 => by
        have e1 := hRall i h1 (by omega)
        have e2 : ¬ x < R[i]! := of_decide_eq_false (p4 i h1 h2)
        omega
      have p5' : ∀ i, k ≤ i → i < b → R[i]! ≠ x := fun i h1 h2 => by
        have e2 : x < R[i]! := of_decide_eq_true (p5 i h1 h2)
        omega
      have c4 := fun v1 W h1 h2 => Same_at v1 (.slice (some ⟨bk, off, none⟩) D.size cap) R D a b W h1 h2 q4 q3 hbig p3
      have C1 := Lib.hid c1
      have C4 := Lib.hid c4
      have P4 := Lib.hid p4'
      have P5 := Lib.hid p5'
      clear c1 c4 p4 p5 p4' p5' p3 hR hk hRall hall hmin hm1 hm2 MN
      have m3 : decide ((k : Int) ≤ (a : Int)) = false := decide_eq_false (by omega)
      have m4 : decide ((b : Int) < (k : Int)) = false := decide_eq_false (by omega)
      have m5 : decide (k ≤ a) = false := decide_eq_false (by omega)
      have m6 : decide (b < k) = false := decide_eq_false (by omega)
      go_wp2_with fail
      refine (C1.out _ (keepI h' hb12)).mono ?_
      rintro e w1 ⟨v1, rfl, hs1, hb1⟩
      have hs1' := hs1
      obtain ⟨A1, cap1, rfl, _, hh1⟩ := hs1
      obtain ⟨bk1, off1, rfl, _, f2, hH1⟩ := hh1 (by omega)
      rw [hRz]
      rw [hRz] at hs1'
      have hb13 : RowKit.Below w.heap.size w w1 := hb12.trans (hb1.mono hb12.size)
      have S4 := Lib.hid (C4.out _ w1 hs1'.any (keepI h' hb13))
      go_wp2_with fail
      refine S4.out.mono ?_
      rintro e w3 ⟨rfl, hb3⟩
      have hb14 : RowKit.Below w.heap.size w w3 := hb13.trans (hb3.mono hb13.size)
      have ff2 : bk1 < w3.heap.size := Nat.lt_of_lt_of_le f2 hb3.size
      have gg3 : bk < w3.heap.size := Nat.lt_of_lt_of_le g2 hb14.size
      have cR : ∀ i, i < D.size → w3.cell? ⟨bk1, off1 + i, none⟩ = some (.int .i64 R[i]!) := fun i hi => by rw [hb3.cell (p := ⟨bk1, off1 + i, none⟩) f2, (hH1 i (by omega)).1]
      have cD : w3.cell? ⟨bk, off + q, none⟩ = some (.int .i64 x) := by rw [hb14.cell (p := ⟨bk, off + q, none⟩) g2, k2]
      have CR := Lib.hid cR
      have CD := Lib.hid cD
      clear cR cD k2 hH1 hH S4 C1 C4 HX g1
      go_wp2
      go_loopw [11] (fun vi wr => ∃ i : Nat, vi = .int .i64 i ∧ a ≤ i ∧ i ≤ b ∧ RowKit.Below w3.heap.size w3 wr) (fun vi _ => b - (intOf vi).toNat)
      case atStart => exact ⟨a, rfl, Nat.le_refl _, by omega, RowKit.Below.refl _ _⟩
      case round =>
        obtain ⟨i, rfl, i1, i2, hbr⟩ := hrel
        by_cases hib : i < b
        · have hibz : (i : Int) < (b : Int) := by omega
          have iz : (i : Int) < (D.size : Int) := by omega
          have c1 : wr.cell? ⟨bk1, off1 + i, none⟩ = some (.int .i64 R[i]!) := by rw [hbr.cell (p := ⟨bk1, off1 + i, none⟩) ff2, CR.out i (by omega)]
          have c2 : wr.cell? ⟨bk, off + q, none⟩ = some (.int .i64 x) := by rw [hbr.cell (p := ⟨bk, off + q, none⟩) gg3, CD.out]
          obtain ⟨y, hy⟩ : ∃ y, R[i]! = y := ⟨_, rfl⟩
          rw [hy] at c1
          by_cases hlt : i < k
          · have hyx : y = x := by rw [← hy]; exact P4.out i i1 hlt
            rw [hyx] at c1
            have e2 : (i : Int) < (k : Int) := by omega
            have e3 : decide (i < k) = true := decide_eq_true hlt
            clear hy hyx
            go_wp2_with fail
            go_quiet (fail)
            go_wp2
            go_roundw
            case rel => exact ⟨i + 1, by go_num, by omega, by omega, below_drewN hbr _⟩
            case measure => simp [intOf]; omega
          · have hyx : y ≠ x := by rw [← hy]; exact P5.out i (by omega) hib
            have e1 : (y == x) = false := by simp [hyx]
            have e2 : decide ((i : Int) < (k : Int)) = false := decide_eq_false (by omega)
            have e3 : decide (i < k) = false := decide_eq_false hlt
            clear hy hyx
            go_wp2_with fail
            go_quiet (fail)
            go_wp2
            go_roundw
            case rel => exact ⟨i + 1, by go_num, by omega, by omega, below_drewN hbr _⟩
            case measure => simp [intOf]; omega
        · have hibz : ¬ (i : Int) < (b : Int) := by omega
          go_wp2
          go_ret
          exact ⟨rfl, hb14.trans (hbr.mono hb14.size)⟩
    · have hbd : RowKit.Below w.heap.size w w.drew := below_drewN (RowKit.Below.refl _ _) 1
      go_enter Try.func17, Try.ntmps17
      go_wp2_with fail
      go_quiet (first | (go_at_call 33; refine Calls.quiet_of_same ((range_no A D.size cap a b _ hr).mono fun e w' h => ⟨h.1, h.2.symm⟩)))
      go_wp2
      go_ret
      exact ⟨rfl, below_drewN (RowKit.Below.refl _ _) _⟩
  · go_enter Try.func17, Try.ntmps17
    go_wp2
    go_ret
    exact ⟨rfl, RowKit.Below.refl _ _⟩

set_option maxRecDepth 100000 in
theorem lifted (os : Os) (started : os.Started) (H : Type) (enc : TypeId × Value → H) :
    ReturnsInHanded {} Try.checked os 17 .any (Rows.fnPartitionEqualSpec.pre6 enc Try.prog Try.f17 Rows.fnPartitionEqualRow.domain false) (Rows.fnPartitionEqualSpec.post enc Try.prog Try.f17 false true false false) := by
  refine returnsInHanded_of_change (C := Try.checked) own started (by kernel_rfl) Try.func17
    (ChangeSpec.witness6 (enc := enc) (C := Try.checked) false ⟨#[], #[.slice none 0 0, .int .i64 0, .int .i64 0, .int .i64 0], []⟩ 8 (by kernel_rfl) (by kernel_rfl) (by kernel_rfl) (by kernel_rfl)) ?_
  intro W base args ds gs before hval0 hW _ _
  have hval : ∀ (j : Nat) t v, Try.f17.params[j]? = some t → args[j]? = some v → Value.okWide Try.prog W .any base t v := hval0
  have hW' := hW
  obtain ⟨p, q, hA0, hV, rfl, hfz, _⟩ := hW
  have hA : DataW.TrodAll enc Try.prog W 0 (fun _ => true) true Try.f17.params.toList args.toList ds p := hA0
  rw [Try.params17] at hA hval
  obtain ⟨rfl, rfl⟩ := trodVars_none hV
  have hlt := hW'.lt
  simp only [List.append_nil] at hfz hlt
  have hA1 := hA
  obtain ⟨v0, vs0, d0, ds0, p0, q0, hargs, rfl, rfl, h0, r0⟩ := trodAll_cons hA1
  obtain ⟨v1, vs1, d1, ds1, p1, q1, rfl, rfl, rfl, h1, r1⟩ := trodAll_cons r0
  obtain ⟨v2, vs2, d2, ds2, p2, q2, rfl, rfl, rfl, h2, r2⟩ := trodAll_cons r1
  obtain ⟨v3, vs3, d3, ds3, p3, q3, rfl, rfl, rfl, h3, r3⟩ := trodAll_cons r2
  obtain ⟨rfl, rfl, rfl⟩ := trodAll_nil r3
  obtain rfl : args = #[v0, v1, v2, v3] := by cases args; simp_all
  clear hA0 hval0 hA1
  obtain ⟨D0, s0, m0⟩ := ints_open (hval 0 27 v0 rfl rfl) h0 (fun x hx => hlt x (by simp [hx])) (fun b off hx => hfz b off (by simp [hx]))
  obtain ⟨x1, rfl, rfl, rfl, w1⟩ := open_int Try.underlying3 (hval 1 3 v1 rfl rfl) h1
  obtain ⟨x2, rfl, rfl, rfl, w2⟩ := open_int Try.underlying3 (hval 2 3 v2 rfl rfl) h2
  obtain ⟨x3, rfl, rfl, rfl, w3⟩ := open_int Try.underlying3 (hval 3 3 v3 rfl rfl) h3
  refine (law v0 D0 x1 x2 x3 W s0 m0 w1 w2 w3).mono fun e W' ⟨he, hb⟩ => ?_
  subst he
  exact ⟨_, rfl, post_of_below (pv := []) hW' (fun _ _ _ => trodAll_cons_mk (shut_bool Try.underlying4 _) trodAll_mk0)
    (fun sp hs => trodAll_stays hb (readable_all (by simp)) hA hlt sp (fun x hx => hs x (List.mem_append_left _ hx))) (fun _ _ => rfl) rfl hb (ok_one (by kernel_rfl) rfl (okWide_bool_mk Try.underlying4 _))⟩

/-- The statement. -/
theorem proved : Rows.FnPartitionEqualSaid :=
  OpenClaim.holds_of_wide 17 Try.f17 rfl rfl rfl rfl rfl rfl rfl ⟨rfl, rfl, rfl, rfl, rfl⟩ rfl rfl rfl rfl rfl (by as_aux_lemma => kernel_rfl) Try.func17
    (closed_mk (P := Try.prog) (by as_aux_lemma => kernel_rfl) all_laid all_rowed (by as_aux_lemma => kernel_rfl) rfl rfl all_stops rfl all_knobs
      (by as_aux_lemma => kernel_rfl) (by as_aux_lemma => kernel_rfl) (by as_aux_lemma => kernel_rfl) (by as_aux_lemma => kernel_rfl)
      (by as_aux_lemma => kernel_rfl) (by as_aux_lemma => kernel_rfl) (by as_aux_lemma => kernel_rfl) (by as_aux_lemma => kernel_rfl) (by as_aux_lemma => kernel_rfl)
      rfl (by as_aux_lemma => kernel_rfl) (by as_aux_lemma => kernel_rfl) (by as_aux_lemma => kernel_rfl)
      (by as_aux_lemma => kernel_rfl) rfl all_heard may_enter rfl lifts_final rfl make_cut rfl rfl rfl (by as_aux_lemma => kernel_rfl) (by as_aux_lemma => kernel_rfl))
    (of_decide_eq_true (by as_aux_lemma => kernel_rfl)) (by as_aux_lemma => (unfold Func.isWrapper; first | (rw [if_pos (by decide +kernel)]; kernel_rfl) | (rw [if_neg (by decide +kernel)]; exact ⟨rfl, rfl⟩)))
    (fun os started H enc _ => lifted os started H enc)
end Go.Proofs.Ytcamaikogengoaa.fnPartitionEqual
