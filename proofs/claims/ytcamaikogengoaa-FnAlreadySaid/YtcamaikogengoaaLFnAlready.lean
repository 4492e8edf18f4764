/- The law FnAlready is proved: what is partitioned already stays but for the pivot, and what is in order is. It holds for every input, with no condition. -/
import Derived.Test.YtcamaikogengoaaClosed
import Derived.Test.YtcamaikogengoaaIntEqual
import Derived.Test.YtcamaikogengoaaIntClone
import Derived.Test.YtcamaikogengoaaIntIsSorted
import Derived.Test.YtcamaikogengoaaAPartition
import Derived.Test.YtcamaikogengoaaPlainPart
namespace Go.Proofs.Ytcamaikogengoaa.fnAlready
set_option linter.unusedVariables false
set_option linter.unusedSimpArgs false
set_option linter.unusedSectionVars false
open Go.ChangeShapes Go.WideShapes Go.ChangeAt Go.RowKit

open Go.Sort
theorem swp_comm_ (d : Array Int) (i j : Nat) (hi : i < d.size) (hj : j < d.size) : swp d i j = swp d j i := by
  apply Array.ext (by rw [size_swp, size_swp])
  intro t h1 h2
  have : (swp d i j)[t]! = (swp d j i)[t]! := by
    by_cases e1 : t = i
    · by_cases e2 : i = j
      · rw [e2]
      · rw [e1, swp_left d i j hi e2, swp_right d j i hi]
    · by_cases e2 : t = j
      · rw [e2, swp_right d i j hj]
        by_cases e3 : j = i
        · rw [e3, swp_right d i i hi]
        · rw [swp_left d j i hj e3]
      · rw [swp_other d i j t e1 e2, swp_other d j i t e2 e1]
  rwa [getElem!_pos (swp d i j) t h1, getElem!_pos (swp d j i) t h2] at this

theorem adj_sorted (D : Array Int) (a b : Nat) (hb : b ≤ D.size) (hab : a ≤ b) (h : Adj (D.extract a b)) : SortedIn ltInt a b D := by
  have key : ∀ n i, a ≤ i → i + n < b → D[i]! ≤ D[i + n]! := by
    intro n
    induction n with
    | zero => intro i _ _; exact Int.le_refl _
    | succ n ih =>
      intro i h1 h2
      have e := ih i h1 (by omega)
      have f := h (i + n + 1 - a) (by omega) (by rw [part_size D hb]; omega)
      rw [part_at D hb (by omega), part_at D hb (by omega), show a + (i + n + 1 - a) = i + (n + 1) from by omega, show a + (i + n + 1 - a - 1) = i + n from by omega] at f
      have g : ¬ D[i + (n + 1)]! < D[i + n]! := of_decide_eq_false f
      omega
  intro i j h1 h2 h3
  have := key (j - i) i h1 (by omega)
  rw [show i + (j - i) = j from by omega] at this
  exact decide_eq_false (by omega)

set_option maxRecDepth 100000 in
set_option maxHeartbeats 4000000 in
theorem law (v : Value) (D : Array Int) (a b q : Int) (w : World) (h : SlAt HI 0 w v D) (_hm : D.size ≤ maxLen) (_wa : (Lit.int .i64 a).wf = true) (_wb : (Lit.int .i64 b).wf = true) (_wc : (Lit.int .i64 q).wf = true) :
    Calls Try.prog 21 #[v, .int .i64 a, .int .i64 b, .int .i64 q] w fun e w' => e = .returned (.bool true) ∧ RowKit.Below w.heap.size w w' := by
  have h' := h
  obtain ⟨A, cap, rfl, hcp, hh⟩ := h
  by_cases hbig : D.size ≤ 2147483647
  · have hbz : (D.size : Int) ≤ 2147483647 := by omega
    by_cases hr : InRange D.size a b
    · obtain ⟨h0, h1, h2, h3⟩ := hr
      by_cases n1 : q < a
      · go_enter Try.func21, Try.ntmps21
        go_wp2_with fail
        refine (range_yes A D.size cap a b _ h0 h1 h2 h3).mono ?_
        rintro e w0 ⟨rfl, rfl⟩
        go_wp2
        go_ret
        exact ⟨rfl, RowKit.Below.refl _ _⟩
      by_cases n2 : b ≤ q
      · go_enter Try.func21, Try.ntmps21
        go_wp2_with fail
        refine (range_yes A D.size cap a b _ h0 h1 h2 h3).mono ?_
        rintro e w0 ⟨rfl, rfl⟩
        go_wp2
        go_ret
        exact ⟨rfl, RowKit.Below.refl _ _⟩
      obtain ⟨a, rfl⟩ := Int.eq_ofNat_of_zero_le h0
      obtain ⟨b, rfl⟩ := Int.eq_ofNat_of_zero_le (Int.le_trans h0 h1)
      obtain ⟨q, rfl⟩ := Int.eq_ofNat_of_zero_le (show 0 ≤ q by omega)
      have q1 : a ≤ q := by omega
      have q2 : q < b := by omega
      have q3 : b ≤ D.size := by omega
      have q4 : a ≤ b := by omega
      have m1 : decide ((q : Int) < (a : Int)) = false := decide_eq_false n1
      have m2 : decide ((b : Int) ≤ (q : Int)) = false := decide_eq_false n2
      have m7 : decide (q < a) = false := decide_eq_false (by omega)
      have m8 : decide (b ≤ q) = false := decide_eq_false (by omega)
      have c1 := fun W hW => Partition_impl (.slice A D.size cap) D a b q W hW q1 q2 q3 hbig
      have hal := partition_already (lt := ltInt) D a b q
      have hso : (Sort.partition Sort.ltInt D a b q).2.1 = false → q = a → ¬ Adj (D.extract a b) := fun h1 h2 h3 => by
        subst h2
        have := partition_sorted (lt := ltInt) D q b q2 q3 (adj_sorted D q b q3 q4 h3)
        rw [h1] at this
        cases this
      obtain ⟨p1, p2, p3, _, _⟩ := partition_holds ltInt swo_ltInt D a b q q1 q2 q3
      obtain ⟨R, hR⟩ : ∃ R, (Sort.partition Sort.ltInt D a b q).2.2 = R := ⟨_, rfl⟩
      obtain ⟨k, hk⟩ : ∃ k, (Sort.partition Sort.ltInt D a b q).1 = k := ⟨_, rfl⟩
      obtain ⟨y, hy⟩ : ∃ y, (Sort.partition Sort.ltInt D a b q).2.1 = y := ⟨_, rfl⟩
      rw [hR, hk, hy] at hal
      rw [hR] at p3
      rw [hk] at p1 p2
      rw [hR, hk, hy] at c1
      rw [hy] at hso
      clear hR hk hy
      have hRz : R.size = D.size := p3.1
      have zc : b ≤ cap := by omega
      have g1 := fun W => run_cut_lh Try.underlying27 Try.sizeOf3 A D.size cap a b q4 zc W
      have is := fun W hW => show Calls Try.prog 66 #[.slice (cutA A cap a 1) (b - a) (cap - a)] W fun e w' => ∃ s, e = .returned (.bool s) ∧ (y = false → q = a → s = false) ∧ RowKit.Below W.heap.size W w' from by
        have hp := SlAt.part (B := 0) (w := W) (A := A) (cap := cap) (D := D) hW q4 q3
        by_cases ha : Adj (D.extract a b)
        · exact (IsSorted_yes _ _ W hp (by rw [part_size D q3]; omega) ha).mono fun e w' h => ⟨true, h.1, fun h1 h2 => absurd ha (hso h1 h2), h.2⟩
        · exact (IsSorted_no _ _ W hp (by rw [part_size D q3]; omega) ha).mono fun e w' h => ⟨false, h.1, fun _ _ => rfl, h.2⟩
      have IS := Lib.hid is
      have C1 := Lib.hid c1
      have CL := Lib.hid (fun W hW => Clone_at (.slice A D.size cap) D W hW hbig)
      have m3 : decide ((k : Int) < (a : Int)) = false := decide_eq_false (by omega)
      have m4 : decide ((b : Int) ≤ (k : Int)) = false := decide_eq_false (by omega)
      have m5 : decide (k < a) = false := decide_eq_false (by omega)
      have m6 : decide (b ≤ k) = false := decide_eq_false (by omega)
      have m9 : (a : Int) ≤ (k : Int) := by omega
      have m10 : (k : Int) < (b : Int) := by omega
      have zk : (k : Int) < (D.size : Int) := by omega
      have zq : (q : Int) < (D.size : Int) := by omega
      have za : (a : Int) < (D.size : Int) := by omega
      clear is c1 hso hh p3
      go_enter Try.func21, Try.ntmps21
      go_wp2_with fail
      refine (range_yes _ D.size cap a b _ h0 h1 h2 h3).mono ?_
      rintro e w0 ⟨rfl, rfl⟩
      go_wp2_with fail
      refine (C1.out _ h').mono ?_
      rintro e w1 ⟨v1, rfl, hs1, hb1⟩
      have hs1' := hs1
      obtain ⟨A1, cap1, rfl, _, hh1⟩ := hs1
      clear hh1
      rw [hRz] at hs1'
      rw [hRz]
      go_wp2_with fail
      refine (IS.out _ (keepI h' hb1)).mono ?_
      rintro e w2 ⟨s, rfl, hs, hb2⟩
      have hb12 := hb1.trans (hb2.mono hb1.size)
      have h3c : s = false ∨ (s = true ∧ q = a) ∨ (s = true ∧ q ≠ a) := by
        cases s
        · exact .inl rfl
        · by_cases e : q = a
          · exact .inr (.inl ⟨rfl, e⟩)
          · exact .inr (.inr ⟨rfl, e⟩)
      cases y with
      | false =>
        rcases h3c with rfl | ⟨rfl, e⟩ | ⟨rfl, e⟩
        · clear hs hal
          go_wp2
          go_ret
          exact ⟨rfl, hb12⟩
        · cases hs rfl e
        · have e1 : (q == a) = false := by simp [e]
          have e2 : ((q : Int) == (a : Int)) = false := by simp; omega
          clear hs hal e
          go_wp2
          go_ret
          exact ⟨rfl, hb12⟩
      | true =>
        have hRe := hal rfl
        rw [swp_comm_ _ k a (by rw [size_swp]; omega) (by rw [size_swp]; omega)] at hRe
        have HRE := Lib.hid hRe
        clear hal hRe hs
        have e1 : s = false ∨ (s = true ∧ (q == a) = true ∧ ((q : Int) == (a : Int)) = true) ∨ (s = true ∧ (q == a) = false ∧ ((q : Int) == (a : Int)) = false) := by
          rcases h3c with rfl | ⟨rfl, e⟩ | ⟨rfl, e⟩
          · exact .inl rfl
          · exact .inr (.inl ⟨rfl, by simp [e], by simp [e]⟩)
          · exact .inr (.inr ⟨rfl, by simp [e], by simp; omega⟩)
        clear h3c
        rcases e1 with rfl | ⟨rfl, e1, e2⟩ | ⟨rfl, e1, e2⟩
        all_goals
          go_wp2_with fail
          refine (CL.out _ (keepI h' hb12)).mono ?_
          rintro e w3 ⟨v3, rfl, hs3, hb3⟩
          have hb13 := hb12.trans (hb3.mono hb12.size)
          have hs3' := hs3
          obtain ⟨A3, cap3, rfl, hcp3, hh3⟩ := hs3
          obtain ⟨bk, off, rfl, f1, f2, hH⟩ := hh3 (by omega)
          have hw2 := Lib.hid (swap_worldC (Value.int .i64) w3 bk off D 0 a q (by omega) (by omega))
          have hw3 := Lib.hid (swap_worldC (Value.int .i64) w3 bk off (swp D a q) 1 a k (by rw [size_swp]; omega) (by rw [size_swp]; omega))
          obtain ⟨x, hx⟩ : ∃ x, D[a]! = x := ⟨_, rfl⟩
          obtain ⟨z, hz⟩ : ∃ z, D[q]! = z := ⟨_, rfl⟩
          have ca : w3.cell? ⟨bk, off + a, none⟩ = some (.int .i64 x) := by rw [(hH a (by omega)).1, hx]
          have fa := (hH a (by omega)).2
          have cp : w3.cell? ⟨bk, off + q, none⟩ = some (.int .i64 z) := by rw [(hH q (by omega)).1, hz]
          have fp := (hH q (by omega)).2
          obtain ⟨v', hy'⟩ := cell?_setCell_some (w := w3) (p := ⟨bk, off + a, none⟩) (x := .int .i64 z) (q := ⟨bk, off + q, none⟩) cp
          have hwA : ((w3.setCell ⟨bk, off + a, none⟩ (.int .i64 z)).setCell ⟨bk, off + q, none⟩ (.int .i64 x)).drew = (putRow (Value.int .i64) w3 bk off (Sort.swp D a q)).drewN 1 := by
            have e := hw2.out
            rw [putRow_self _ w3 bk off D hH, hx, hz] at e
            exact e
          have HWA := Lib.hid hwA
          have HH3 := Lib.hid hH
          clear hwA hw2 hx hz hH hh3 hs3'
          go_wp2
          go_region
          go_wp2
          clear ca fa cp fp hy' v'
          have hw := HWA.out
          clear HWA
          generalize ((w3.setCell ⟨bk, off + a, none⟩ (.int .i64 z)).setCell ⟨bk, off + q, none⟩ (.int .i64 x)).drew = W1 at hw ⊢
          have sX : (swp D a q).size = D.size := size_swp _ _ _
          obtain ⟨X, hX⟩ : ∃ X, swp D a q = X := ⟨_, rfl⟩
          rw [hX] at hw sX
          have hre := HRE.out
          have hw3o := hw3.out
          rw [hX] at hre hw3o
          have hHX : Holds (Value.int .i64) W1 bk off X := by
            rw [hw]
            exact holds_putRow (Value.int .i64) w3 bk off D X HH3.out sX
          obtain ⟨x2, hx2⟩ : ∃ x, X[a]! = x := ⟨_, rfl⟩
          obtain ⟨z2, hz2⟩ : ∃ x, X[k]! = x := ⟨_, rfl⟩
          have ca : W1.cell? ⟨bk, off + a, none⟩ = some (.int .i64 x2) := by rw [(hHX a (by omega)).1, hx2]
          have fa := (hHX a (by omega)).2
          have cp : W1.cell? ⟨bk, off + k, none⟩ = some (.int .i64 z2) := by rw [(hHX k (by omega)).1, hz2]
          have fp := (hHX k (by omega)).2
          obtain ⟨v', hy'⟩ := cell?_setCell_some (w := W1) (p := ⟨bk, off + a, none⟩) (x := .int .i64 z2) (q := ⟨bk, off + k, none⟩) cp
          have hwB : ((W1.setCell ⟨bk, off + a, none⟩ (.int .i64 z2)).setCell ⟨bk, off + k, none⟩ (.int .i64 x2)).drew = (putRow (Value.int .i64) w3 bk off (swp X a k)).drewN 2 := by
            rw [hx2, hz2] at hw3o
            rw [hw]
            exact hw3o
          have HWB := Lib.hid hwB
          have HRE2 := Lib.hid hre
          clear hwB hw hw3o hre hX hHX hx2 hz2 hw3 HRE
          go_region
          clear ca fa cp fp hy' v'
          have hw := HWB.out
          clear HWB
          generalize ((W1.setCell ⟨bk, off + a, none⟩ (.int .i64 z2)).setCell ⟨bk, off + k, none⟩ (.int .i64 x2)).drew = W2 at hw ⊢
          have hat := at_of_put (cap := cap3) (d' := swp X a k) HH3.out f1 f2 hb3.size (by rw [size_swp, sX]) hcp3 rfl ⟨2, hw⟩
          rw [← HRE2.out] at hat
          have hbE : RowKit.Below w2.heap.size w2 W2 := hb3.trans hat.2
          have HE := Lib.hid (equal_yes _ _ R W2 (keepI hs1' (hb2.trans (hbE.mono hb2.size))).any hat.1.any (by omega))
          clear hw hat
          go_wp2_with fail
          refine HE.out.mono ?_
          rintro e w4 ⟨rfl, hb4⟩
          have hb14 := hb12.trans (hbE.mono hb12.size)
          go_wp2
          go_ret
          exact ⟨rfl, hb14.trans (hb4.mono hb14.size)⟩
    · go_enter Try.func21, Try.ntmps21
      go_wp2_with (first | (go_at_call 33; refine (range_no A D.size cap a b _ hr).mono ?_; rintro e w1 ⟨rfl, rfl⟩))
      go_ret
      exact ⟨rfl, RowKit.Below.refl _ _⟩
  · go_enter Try.func21, Try.ntmps21
    go_wp2
    go_ret
    exact ⟨rfl, RowKit.Below.refl _ _⟩

set_option maxRecDepth 100000 in
theorem lifted (os : Os) (started : os.Started) (H : Type) (enc : TypeId × Value → H) :
    ReturnsInHanded {} Try.checked os 21 .any (Rows.fnAlreadySpec.pre6 enc Try.prog Try.f21 Rows.fnAlreadyRow.domain false) (Rows.fnAlreadySpec.post enc Try.prog Try.f21 false true false false) := by
  refine returnsInHanded_of_change (C := Try.checked) own started (by kernel_rfl) Try.func21
    (ChangeSpec.witness6 (enc := enc) (C := Try.checked) false ⟨#[], #[.slice none 0 0, .int .i64 0, .int .i64 0, .int .i64 0], []⟩ 8 (by kernel_rfl) (by kernel_rfl) (by kernel_rfl) (by kernel_rfl)) ?_
  intro W base args ds gs before hval0 hW _ _
  have hval : ∀ (j : Nat) t v, Try.f21.params[j]? = some t → args[j]? = some v → Value.okWide Try.prog W .any base t v := hval0
  have hW' := hW
  obtain ⟨p, q, hA0, hV, rfl, hfz, _⟩ := hW
  have hA : DataW.TrodAll enc Try.prog W 0 (fun _ => true) true Try.f21.params.toList args.toList ds p := hA0
  rw [Try.params21] at hA hval
  obtain ⟨rfl, rfl⟩ := trodVars_none hV
  have hlt := hW'.lt
  simp only [List.append_nil] at hfz hlt
  have hA1 := hA
  obtain ⟨v0, vs0, d0, ds0, p0, q0, hargs, rfl, rfl, h0, r0⟩ := trodAll_cons hA1
  obtain ⟨v1, vs1, d1, ds1, p1, q1, rfl, rfl, rfl, h1, r1⟩ := trodAll_cons r0
  obtain ⟨v2, vs2, d2, ds2, p2, q2, rfl, rfl, rfl, h2, r2⟩ := trodAll_cons r1
  obtain ⟨v3, vs3, d3, ds3, p3, q3, rfl, rfl, rfl, h3, r3⟩ := trodAll_cons r2
  obtain ⟨rfl, rfl, rfl⟩ := trodAll_nil r3
  obtain rfl : args = #[v0, v1, v2, v3] := by cases args; simp_all
  clear hA0 hval0 hA1
  obtain ⟨D0, s0, m0⟩ := ints_open (hval 0 27 v0 rfl rfl) h0 (fun x hx => hlt x (by simp [hx])) (fun b off hx => hfz b off (by simp [hx]))
  obtain ⟨x1, rfl, rfl, rfl, w1⟩ := open_int Try.underlying3 (hval 1 3 v1 rfl rfl) h1
  obtain ⟨x2, rfl, rfl, rfl, w2⟩ := open_int Try.underlying3 (hval 2 3 v2 rfl rfl) h2
  obtain ⟨x3, rfl, rfl, rfl, w3⟩ := open_int Try.underlying3 (hval 3 3 v3 rfl rfl) h3
  refine (law v0 D0 x1 x2 x3 W s0 m0 w1 w2 w3).mono fun e W' ⟨he, hb⟩ => ?_
  subst he
  exact ⟨_, rfl, post_of_below (pv := []) hW' (fun _ _ _ => trodAll_cons_mk (shut_bool Try.underlying4 _) trodAll_mk0)
    (fun sp hs => trodAll_stays hb (readable_all (by simp)) hA hlt sp (fun x hx => hs x (List.mem_append_left _ hx))) (fun _ _ => rfl) rfl hb (ok_one (by kernel_rfl) rfl (okWide_bool_mk Try.underlying4 _))⟩

/-- The statement. -/
theorem proved : Rows.FnAlreadySaid :=
  OpenClaim.holds_of_wide 21 Try.f21 rfl rfl rfl rfl rfl rfl rfl ⟨rfl, rfl, rfl, rfl, rfl⟩ rfl rfl rfl rfl rfl (by as_aux_lemma => kernel_rfl) Try.func21
    (closed_mk (P := Try.prog) (by as_aux_lemma => kernel_rfl) all_laid all_rowed (by as_aux_lemma => kernel_rfl) rfl rfl all_stops rfl all_knobs
      (by as_aux_lemma => kernel_rfl) (by as_aux_lemma => kernel_rfl) (by as_aux_lemma => kernel_rfl) (by as_aux_lemma => kernel_rfl)
      (by as_aux_lemma => kernel_rfl) (by as_aux_lemma => kernel_rfl) (by as_aux_lemma => kernel_rfl) (by as_aux_lemma => kernel_rfl) (by as_aux_lemma => kernel_rfl)
      rfl (by as_aux_lemma => kernel_rfl) (by as_aux_lemma => kernel_rfl) (by as_aux_lemma => kernel_rfl)
      (by as_aux_lemma => kernel_rfl) rfl all_heard may_enter rfl lifts_final rfl make_cut rfl rfl rfl (by as_aux_lemma => kernel_rfl) (by as_aux_lemma => kernel_rfl))
    (of_decide_eq_true (by as_aux_lemma => kernel_rfl)) (by as_aux_lemma => (unfold Func.isWrapper; first | (rw [if_pos (by decide +kernel)]; kernel_rfl) | (rw [if_neg (by decide +kernel)]; exact ⟨rfl, rfl⟩)))
    (fun os started H enc _ => lifted os started H enc)
end Go.Proofs.Ytcamaikogengoaa.fnAlready
