/- The law FnExactSwap is proved: two ranges that are apart are exchanged. It holds for every input, with no condition. -/
import Derived.Test.YtcamaikogengoaaClosed
import Derived.Test.YtcamaikogengoaaIntEqual
import Derived.Test.YtcamaikogengoaaIntApart
import Derived.Test.YtcamaikogengoaaSwapWant
import Derived.Test.YtcamaikogengoaaASwapRange
namespace Go.Proofs.Ytcamaikogengoaa.fnExactSwap
set_option linter.unusedVariables false
set_option linter.unusedSimpArgs false
set_option linter.unusedSectionVars false
open Go.ChangeShapes Go.WideShapes Go.ChangeAt Go.RowKit

open Go.Sort
set_option maxRecDepth 100000 in
set_option maxHeartbeats 2000000 in
theorem law_some (A : Option Addr) (cap : Nat) (D : Array Int) (a b n : Nat) (w : World) (h' : SlAt HI 0 w (.slice A D.size cap) D) (hbig : D.size ≤ 2147483647) (hp : ApartP D.size a b n) (hn0 : 0 < n) :
    Calls Try.prog 6 #[.slice A D.size cap, .int .i64 a, .int .i64 b, .int .i64 n] w fun e w' => e = .returned (.bool true) ∧ RowKit.Below w.heap.size w w' := by
  have hp' := hp
  obtain ⟨p1, p2, p3, p4, p5, p6, p7, p8⟩ := hp
  have hbz : (D.size : Int) ≤ 2147483647 := by omega
  have ha : a + n ≤ D.size := by omega
  have hb : b + n ≤ D.size := by omega
  have hab : a + n ≤ b ∨ b + n ≤ a := by omega
  have hcap : D.size ≤ cap := by
    obtain ⟨A', cap', e, hcp, _⟩ := h'
    injection e with e1 e2 e3
    subst e3
    exact hcp.1
  have HAB := Lib.hid hab
  have hz := (swapRange_spec hab ha hb).1
  have HZ := Lib.hid hz
  have x1 := fun W => cut_n A D.size cap a n (by omega) W
  have x2 := fun W => cut_n A D.size cap b n (by omega) W
  have r1 : IntKind.i64.wrap ((a : Int) + (n : Int)) = (a : Int) + (n : Int) := by rw [IntKind.wrap_i64]; omega
  have r2 : IntKind.i64.wrap ((b : Int) + (n : Int)) = (b : Int) + (n : Int) := by rw [IntKind.wrap_i64]; omega
  clear hab hz p1 p2 p3 p4 p5 p6 p7 p8
  go_enter Try.func6, Try.ntmps6
  go_wp2_with (first
    | (go_at_call 39; refine (apart_yes A D.size cap a b n _ hp').mono ?_; rintro e w' ⟨rfl, hw'⟩; obtain rfl : w = w' := hw'.symm))
  go_wp2_with fail
  refine (Clone_own _ D _ h' hbig).mono ?_
  rintro e w1 ⟨v1, rfl, hown, hb1⟩
  rcases hown.2 with ⟨_, hz0⟩ | ⟨g, cp, cur, rfl, hBg, hg, hc1, hc2, hc3, htk⟩
  · omega
  · have HT := Lib.hid htk
    have HC3 := Lib.hid hc3
    have y1 := fun W => cut_n (some ⟨g, 0, none⟩) D.size cp a n (by omega) W
    have y2 := fun W => cut_n (some ⟨g, 0, none⟩) D.size cp b n (by omega) W
    obtain ⟨L, hL⟩ : ∃ L, L = cur.toList := ⟨_, rfl⟩
    have hg' : w1.heap[g]? = some (.cells L.toArray 3 (0, 0)) := by rw [hL]; exact hg
    have hLl : L.length = cp := by rw [hL]; simp; have := hc3; simpa using this
    have htk' : L.take D.size = D.toList.map (Value.int .i64) := by rw [hL]; simpa using htk
    obtain ⟨X1, hX1⟩ : ∃ X, X = partV D b n := ⟨_, rfl⟩
    obtain ⟨X2, hX2⟩ : ∃ X, X = partV D a n := ⟨_, rfl⟩
    have l1 : X1.length = n := by rw [hX1]; exact partV_len D hb
    have l2 : X2.length = n := by rw [hX2]; exact partV_len D ha
    have o1 : ∀ v ∈ X1, v.oneCell' = true := by rw [hX1]; exact one_ints _
    have o2 : ∀ v ∈ X2, v.oneCell' = true := by rw [hX2]; exact one_ints _
    have r1 : ∀ W, RowKit.Below w.heap.size w W → ∃ ad, cutA A cap b 1 = some ad ∧ ∀ j v, X1[j]? = some v → W.cell? (ad.add j) = some v := fun W hW => by rw [hX1]; exact part_reads (keepI h' hW) hb hn0
    have r2 : ∀ W, RowKit.Below w.heap.size w W → ∃ ad, cutA A cap a 1 = some ad ∧ ∀ j v, X2[j]? = some v → W.cell? (ad.add j) = some v := fun W hW => by rw [hX2]; exact part_reads (keepI h' hW) ha hn0
    have dd : ∀ i, i < cp → cutA (some ⟨g, 0, none⟩) cp i 1 = some ⟨g, i, none⟩ := fun i hi => by
      unfold cutA
      rw [if_neg (by omega)]
      simp [add_plain]
    have D1 := Lib.hid (dd a (by omega))
    have D2 := Lib.hid (dd b (by omega))
    have R1 := Lib.hid r1
    have R2 := Lib.hid r2
    have G1 := Lib.hid hg'
    have LL := Lib.hid hLl
    have TK := Lib.hid htk'
    have L1 := Lib.hid l1
    have L2 := Lib.hid l2
    have E1 := Lib.hid hX1
    have E2 := Lib.hid hX2
    have O1 := Lib.hid o1
    have O2 := Lib.hid o2
    have hb1d : RowKit.Below w.heap.size w w1.drew := below_drewN hb1 1
    clear hL hg hg' hLl htk htk' hX1 hX2 l1 l2 o1 o2 r1 r2 dd hown hc3
    go_wp2_with fail
    go_region_law (refine step_copy_splice rfl (.tmp 26) (.tmp 32) 27 27 rfl 3 Try.underlying27 size3 (cutA (some ⟨g, 0, none⟩) cp a 1) (cutA A cap b 1) n (cp - a) n (cap - b) (by simp [Act.eval, Act.put]) (by simp [Act.eval, Act.put]) g a L 3 G1.out X1 (by rw [L1.out]; exact (Nat.min_self n).symm) (fun _ => ⟨D1.out, R1.out _ hb1d⟩) (by rw [L1.out, LL.out]; omega) O1.out w.heap.size w hb1d hBg ?_; intro w2 G2 hb2)
    have hb2d : RowKit.Below w.heap.size w w2.drew := below_drewN hb2 1
    go_wp2_with fail
    go_region_law (refine step_copy_splice rfl (.tmp 39) (.tmp 45) 27 27 rfl 3 Try.underlying27 size3 (cutA (some ⟨g, 0, none⟩) cp b 1) (cutA A cap a 1) n (cp - b) n (cap - a) (by simp [Act.eval, Act.put]) (by simp [Act.eval, Act.put]) g b (splice L a X1) 3 G2.out X2 (by rw [L2.out]; exact (Nat.min_self n).symm) (fun _ => ⟨D2.out, R2.out _ hb2d⟩) (by rw [L2.out, length_splice _ _ _ (by rw [L1.out, LL.out]; omega), LL.out]; omega) O2.out w.heap.size w hb2d hBg ?_; intro w3 G3 hb3)
    have hs3 : SlAt HI w.heap.size w3 (.slice (some ⟨g, 0, none⟩) D.size cp) (swapRange D a b n) := by
      refine want_reads (w := w) hBg ⟨hc1, hc2⟩ LL.out TK.out HAB.out ha hb ?_
      rw [← E1.out, ← E2.out]
      exact G3.out
    have HS3 := Lib.hid hs3
    clear hs3
    go_wp2_with (first
      | (go_at_call 41; refine (SwapRange_impl _ D a b n _ (keepI h' hb3) HAB.out ha hb hbig).mono ?_; rintro e w4 ⟨v4, rfl, hs4, hb4⟩)
      | (go_at_call 36; refine (equal_yes v4 _ _ _ hs4.any (keepI HS3.out hb4) (by rw [HZ.out]; exact hbig)).mono ?_; rintro e w5 ⟨rfl, hb5⟩))
    go_ret
    have hb34 := hb3.trans (hb4.mono hb3.size)
    exact ⟨rfl, hb34.trans (hb5.mono hb34.size)⟩

set_option maxRecDepth 100000 in
set_option maxHeartbeats 2000000 in
theorem law_none (A : Option Addr) (cap : Nat) (D : Array Int) (a b n : Nat) (w : World) (h' : SlAt HI 0 w (.slice A D.size cap) D) (hbig : D.size ≤ 2147483647) (hp : ApartP D.size a b n) (hn0 : n = 0) :
    Calls Try.prog 6 #[.slice A D.size cap, .int .i64 a, .int .i64 b, .int .i64 n] w fun e w' => e = .returned (.bool true) ∧ RowKit.Below w.heap.size w w' := by
  have hp' := hp
  obtain ⟨p1, p2, p3, p4, p5, p6, p7, p8⟩ := hp
  have hbz : (D.size : Int) ≤ 2147483647 := by omega
  have ha : a + n ≤ D.size := by omega
  have hb : b + n ≤ D.size := by omega
  have hab : a + n ≤ b ∨ b + n ≤ a := by omega
  have hcap : D.size ≤ cap := by
    obtain ⟨A', cap', e, hcp, _⟩ := h'
    injection e with e1 e2 e3
    subst e3
    exact hcp.1
  have HAB := Lib.hid hab
  have hsw : swapRange D a b n = D := by
    rw [hn0]
    exact swapLoop_end (by omega)
  have HSW := Lib.hid hsw
  have hmin : Nat.min n n = 0 := by rw [hn0]; rfl
  have HM := Lib.hid hmin
  have x1 := fun W => cut_n A D.size cap a n (by omega) W
  have x2 := fun W => cut_n A D.size cap b n (by omega) W
  have r1 : IntKind.i64.wrap ((a : Int) + (n : Int)) = (a : Int) + (n : Int) := by rw [IntKind.wrap_i64]; omega
  have r2 : IntKind.i64.wrap ((b : Int) + (n : Int)) = (b : Int) + (n : Int) := by rw [IntKind.wrap_i64]; omega
  clear hab p1 p2 p3 p4 p5 p6 p7 p8 hsw hmin hn0
  go_enter Try.func6, Try.ntmps6
  go_wp2_with (first
    | (go_at_call 39; refine (apart_yes A D.size cap a b n _ hp').mono ?_; rintro e w' ⟨rfl, hw'⟩; obtain rfl : w = w' := hw'.symm))
  go_wp2_with fail
  refine (Clone_at _ D _ h' hbig).mono ?_
  rintro e w1 ⟨v1, rfl, hs1, hb1⟩
  have HS1 := Lib.hid hs1
  obtain ⟨A1, c1, rfl, hcp1, hh1⟩ := hs1
  have y1 := fun W => cut_n A1 D.size c1 a n (by omega) W
  have y2 := fun W => cut_n A1 D.size c1 b n (by omega) W
  clear hh1
  go_wp2_with fail
  go_region_law (refine step_copy_nothing rfl (.tmp 26) (.tmp 32) 27 27 rfl 3 Try.underlying27 size3 (cutA A1 c1 a 1) (cutA A cap b 1) n (c1 - a) n (cap - b) (by simp [Act.eval, Act.put]) (by simp [Act.eval, Act.put]) HM.out ?_)
  go_wp2_with fail
  go_region_law (refine step_copy_nothing rfl (.tmp 39) (.tmp 45) 27 27 rfl 3 Try.underlying27 size3 (cutA A1 c1 b 1) (cutA A cap a 1) n (c1 - b) n (cap - a) (by simp [Act.eval, Act.put]) (by simp [Act.eval, Act.put]) HM.out ?_)
  have K : ∀ W, RowKit.Below w1.heap.size w1 W → Calls Try.prog 41 #[.slice A D.size cap, .int .i64 a, .int .i64 b, .int .i64 n] W fun e w' => ∃ v', e = .returned v' ∧ SlAt HI W.heap.size w' v' D ∧ RowKit.Below W.heap.size W w' := fun W hW => by
    have := SwapRange_impl _ D a b n W (keepI h' (hb1.trans (hW.mono hb1.size))) HAB.out ha hb hbig
    rwa [HSW.out] at this
  have KH := Lib.hid K
  have hbd : RowKit.Below w1.heap.size w1 (w1.drewN 2) := below_drewN (RowKit.Below.refl _ _) 2
  clear K
  go_wp2_with fail
  refine (KH.out _ hbd).mono ?_
  rintro e w4 ⟨v4, rfl, hs4, hb4⟩
  have hb14 := hbd.trans (hb4.mono hbd.size)
  go_wp2_with (first
    | (go_at_call 36; refine (equal_yes v4 _ _ _ hs4.any (keepI HS1.out hb14) hbig).mono ?_; rintro e w5 ⟨rfl, hb5⟩))
  go_ret
  have hb0 := hb1.trans (hb14.mono hb1.size)
  exact ⟨rfl, hb0.trans (hb5.mono hb0.size)⟩

set_option maxHeartbeats 1000000 in
theorem law (v : Value) (D : Array Int) (a b n : Int) (w : World) (h : SlAt HI 0 w v D) (_hm : D.size ≤ maxLen) (wa : (Lit.int .i64 a).wf = true) (wb : (Lit.int .i64 b).wf = true) (wn : (Lit.int .i64 n).wf = true) :
    Calls Try.prog 6 #[v, .int .i64 a, .int .i64 b, .int .i64 n] w fun e w' => e = .returned (.bool true) ∧ RowKit.Below w.heap.size w w' := by
  have h' := h
  obtain ⟨A, cap, rfl, hcp, hh⟩ := h
  clear hh
  by_cases hbig : D.size ≤ 2147483647
  · have hbz : (D.size : Int) ≤ 2147483647 := by omega
    by_cases hp : ApartP D.size a b n
    · obtain ⟨p1, p2, p3, _⟩ := id hp
      obtain ⟨a, rfl⟩ := Int.eq_ofNat_of_zero_le p2
      obtain ⟨b, rfl⟩ := Int.eq_ofNat_of_zero_le p3
      obtain ⟨n, rfl⟩ := Int.eq_ofNat_of_zero_le p1
      rcases Nat.eq_zero_or_pos n with h0 | h0
      · exact law_none A cap D a b n w h' hbig hp h0
      · exact law_some A cap D a b n w h' hbig hp h0
    · go_enter Try.func6, Try.ntmps6
      go_wp2_with (first | (go_at_call 39; refine (apart_no A D.size cap a b n _ hbig wa wb wn hp).mono ?_; rintro e w1 ⟨rfl, rfl⟩))
      go_ret
      exact ⟨rfl, RowKit.Below.refl _ _⟩
  · go_enter Try.func6, Try.ntmps6
    go_wp2
    go_ret
    exact ⟨rfl, RowKit.Below.refl _ _⟩

set_option maxRecDepth 100000 in
theorem lifted (os : Os) (started : os.Started) (H : Type) (enc : TypeId × Value → H) :
    ReturnsInHanded {} Try.checked os 6 .any (Rows.fnExactSwapSpec.pre6 enc Try.prog Try.f6 Rows.fnExactSwapRow.domain false) (Rows.fnExactSwapSpec.post enc Try.prog Try.f6 false true false false) := by
  refine returnsInHanded_of_change (C := Try.checked) own started (by kernel_rfl) Try.func6
    (ChangeSpec.witness6 (enc := enc) (C := Try.checked) false ⟨#[], #[.slice none 0 0, .int .i64 0, .int .i64 0, .int .i64 0], []⟩ 8 (by kernel_rfl) (by kernel_rfl) (by kernel_rfl) (by kernel_rfl)) ?_
  intro W base args ds gs before hval0 hW _ _
  have hval : ∀ (j : Nat) t v, Try.f6.params[j]? = some t → args[j]? = some v → Value.okWide Try.prog W .any base t v := hval0
  have hW' := hW
  obtain ⟨p, q, hA0, hV, rfl, hfz, _⟩ := hW
  have hA : DataW.TrodAll enc Try.prog W 0 (fun _ => true) true Try.f6.params.toList args.toList ds p := hA0
  rw [Try.params6] at hA hval
  obtain ⟨rfl, rfl⟩ := trodVars_none hV
  have hlt := hW'.lt
  simp only [List.append_nil] at hfz hlt
  have hA1 := hA
  obtain ⟨v0, vs0, d0, ds0, p0, q0, hargs, rfl, rfl, h0, r0⟩ := trodAll_cons hA1
  obtain ⟨v1, vs1, d1, ds1, p1, q1, rfl, rfl, rfl, h1, r1⟩ := trodAll_cons r0
  obtain ⟨v2, vs2, d2, ds2, p2, q2, rfl, rfl, rfl, h2, r2⟩ := trodAll_cons r1
  obtain ⟨v3, vs3, d3, ds3, p3, q3, rfl, rfl, rfl, h3, r3⟩ := trodAll_cons r2
  obtain ⟨rfl, rfl, rfl⟩ := trodAll_nil r3
  obtain rfl : args = #[v0, v1, v2, v3] := by cases args; simp_all
  clear hA0 hval0 hA1
  obtain ⟨D0, s0, m0⟩ := ints_open (hval 0 27 v0 rfl rfl) h0 (fun x hx => hlt x (by simp [hx])) (fun b off hx => hfz b off (by simp [hx]))
  obtain ⟨x1, rfl, rfl, rfl, w1⟩ := open_int Try.underlying3 (hval 1 3 v1 rfl rfl) h1
  obtain ⟨x2, rfl, rfl, rfl, w2⟩ := open_int Try.underlying3 (hval 2 3 v2 rfl rfl) h2
  obtain ⟨x3, rfl, rfl, rfl, w3⟩ := open_int Try.underlying3 (hval 3 3 v3 rfl rfl) h3
  refine (law v0 D0 x1 x2 x3 W s0 m0 w1 w2 w3).mono fun e W' ⟨he, hb⟩ => ?_
  subst he
  exact ⟨_, rfl, post_of_below (pv := []) hW' (fun _ _ _ => trodAll_cons_mk (shut_bool Try.underlying4 _) trodAll_mk0)
    (fun sp hs => trodAll_stays hb (readable_all (by simp)) hA hlt sp (fun x hx => hs x (List.mem_append_left _ hx))) (fun _ _ => rfl) rfl hb (ok_one (by kernel_rfl) rfl (okWide_bool_mk Try.underlying4 _))⟩

/-- The statement. -/
theorem proved : Rows.FnExactSwapSaid :=
  OpenClaim.holds_of_wide 6 Try.f6 rfl rfl rfl rfl rfl rfl rfl ⟨rfl, rfl, rfl, rfl, rfl⟩ rfl rfl rfl rfl rfl (by as_aux_lemma => kernel_rfl) Try.func6
    (closed_mk (P := Try.prog) (by as_aux_lemma => kernel_rfl) all_laid all_rowed (by as_aux_lemma => kernel_rfl) rfl rfl all_stops rfl all_knobs
      (by as_aux_lemma => kernel_rfl) (by as_aux_lemma => kernel_rfl) (by as_aux_lemma => kernel_rfl) (by as_aux_lemma => kernel_rfl)
      (by as_aux_lemma => kernel_rfl) (by as_aux_lemma => kernel_rfl) (by as_aux_lemma => kernel_rfl) (by as_aux_lemma => kernel_rfl) (by as_aux_lemma => kernel_rfl)
      rfl (by as_aux_lemma => kernel_rfl) (by as_aux_lemma => kernel_rfl) (by as_aux_lemma => kernel_rfl)
      (by as_aux_lemma => kernel_rfl) rfl all_heard may_enter rfl lifts_final rfl make_cut rfl rfl rfl (by as_aux_lemma => kernel_rfl) (by as_aux_lemma => kernel_rfl))
    (of_decide_eq_true (by as_aux_lemma => kernel_rfl)) (by as_aux_lemma => (unfold Func.isWrapper; first | (rw [if_pos (by decide +kernel)]; kernel_rfl) | (rw [if_neg (by decide +kernel)]; exact ⟨rfl, rfl⟩)))
    (fun os started H enc _ => lifted os started H enc)
end Go.Proofs.Ytcamaikogengoaa.fnExactSwap
