/- pdqsortCmpFunc over items sorts a range ahead of which nothing is greater. The walk turns the kit's over zsortanyfunc.go to this program. -/
import Derived.Test.YtcamaikogengoaaCInsW
import Derived.Test.YtcamaikogengoaaCHeap
import Derived.Test.YtcamaikogengoaaCBreak
import Derived.Test.YtcamaikogengoaaCPivot
import Derived.Test.YtcamaikogengoaaCRev
import Derived.Test.YtcamaikogengoaaCPartial
import Derived.Test.YtcamaikogengoaaCPeq
import Derived.Test.YtcamaikogengoaaCPart
import Derived.Shelf.SlSortFuncK.PdqK
import Derived.Sort.Walk13
import Derived.Sort.AssemblyPlain
import Derived.Sort.WalkB2
import Derived.Sort.WalkB12
import Derived.Deep.LoopGhost
namespace Go.Proofs.Ytcamaikogengoaa
set_option linter.unusedVariables false
set_option linter.unusedSimpArgs false
set_option linter.unusedSectionVars false
open Go.Shelf Go.RowKit Go.Lib Go.Sort
variable {P : Program} {α : Type} [Inhabited α]

set_option maxHeartbeats 25600000 in
set_option maxRecDepth 1000000 in
theorem pdqsort_item_all (L : Inner P) (k : Nat) (aE : ∀ w, (isAgg 78).run P w = .ok true w) (zE : ∀ w, (Go.sizeOf 78).run P w = .ok k w) (enc : α → List Value) (cf : α → α → Int) (g : Nat) (cb : Array Value) (hO : SWO (ltOf cf)) (blk off cap : Nat) (d0 : Array α) (w0 : World)
    (eg : ∀ args w, (callFunc g args).run P w = .ok (.enter g args) w) (hcmp : CmpLays P g cb enc k cf blk off d0.size w0) (R : RowK enc k w0 blk off d0) :
    ∀ (N a b limit : Nat) (d : Array α) (w : World), b - a < N → d0.size = d.size → SWK enc k w0 blk off d w → a ≤ b → b ≤ d.size → d.size < 4611686018427387904 → limit < 4611686018427387904 → Below (ltOf cf) a b d →
    Calls P 111 #[.slice (some ⟨blk, off, none⟩) d.size cap, .int .i64 a, .int .i64 b, .int .i64 limit, .func (.func g) #[] cb] w fun e w' => e = .returned (.tuple #[]) ∧ SWK enc k w0 blk off (pdq (ltOf cf) d a b limit true true) w' := by
  have mixed := L.mixed; have t0 := L.t0; have a0 := L.a0; have z0 := L.z0; have v0 := L.v0; have t3 := L.t3; have a3 := L.a3; have z3 := L.z3; have v3 := L.v3; have t4 := L.t4; have a4 := L.a4; have z4 := L.z4; have v4 := L.v4; have t5 := L.t5; have a5 := L.a5; have z5 := L.z5; have v5 := L.v5; have t9 := L.t9; have a9 := L.a9; have z9 := L.z9; have v9 := L.v9; have t22 := L.t63; have a22 := L.a63; have z22 := L.z63; have v22 := L.v63; have t25 := L.t80; have a25 := L.a80; have z25 := L.z80; have v25 := L.v80; have t39 := L.t36; have a39 := L.a36; have z39 := L.z36; have v39 := L.v36; have t45 := L.t83; have a45 := L.a83; have z45 := L.z83; have v45 := L.v83; have t46 := L.t84; have a46 := L.a84; have z46 := L.z84; have v46 := L.v84; have t50 := L.t89; have a50 := L.a89; have z50 := L.z89; have v50 := L.v89; have t53 := L.t101; have a53 := L.a101; have z53 := L.z101; have v53 := L.v101; have t55 := L.t22; have a55 := L.a22; have z55 := L.z22; have v55 := L.v22; have t66 := L.t72; have a66 := L.a72; have z66 := L.z72; have v66 := L.v72; have t70 := L.t75; have a70 := L.a75; have z70 := L.z75; have v70 := L.v75; have t76 := L.t92; have a76 := L.a92; have z76 := L.z92; have v76 := L.v92; have t77 := L.t28; have a77 := L.a28; have z77 := L.z28; have v77 := L.v28
  have FG := L.f111
  have e20 : ∀ args w, (callFunc 116 args).run P w = .ok (.enter 116 args) w := enters_of L.f116 (by kernel_rfl) rfl
  have e21 : ∀ args w, (callFunc 115 args).run P w = .ok (.enter 115 args) w := enters_of L.f115 (by kernel_rfl) rfl
  have e22 : ∀ args w, (callFunc 130 args).run P w = .ok (.enter 130 args) w := enters_of L.f130 (by kernel_rfl) rfl
  have e23 : ∀ args w, (callFunc 131 args).run P w = .ok (.enter 131 args) w := enters_of L.f131 (by kernel_rfl) rfl
  have e24 : ∀ args w, (callFunc 132 args).run P w = .ok (.enter 132 args) w := enters_of L.f132 (by kernel_rfl) rfl
  have e25 : ∀ args w, (callFunc 133 args).run P w = .ok (.enter 133 args) w := enters_of L.f133 (by kernel_rfl) rfl
  have e26 : ∀ args w, (callFunc 134 args).run P w = .ok (.enter 134 args) w := enters_of L.f134 (by kernel_rfl) rfl
  have e27 : ∀ args w, (callFunc 135 args).run P w = .ok (.enter 135 args) w := enters_of L.f135 (by kernel_rfl) rfl
  have e14 : ∀ args w, (callFunc 111 args).run P w = .ok (.enter 111 args) w := enters_of L.f111 (by kernel_rfl) rfl
  intro N
  induction N with
  | zero => intro _ _ _ _ _ h; exact absurd h (Nat.not_lt_zero _)
  | succ N ih =>
    intro a b limit d w hN hs S hab hb hsz hlimit hBel0
    go_enter FG, Try.ntmps111
    go_wp2
    go_loopg [1, 2, 3, 10, 11] (b - a) (fun kx s1 s2 s3 s8 s9 wr => ∃ (a' b' lim : Nat) (wb wp : Bool) (dk : Array α), s1 = .int .i64 a' ∧ s2 = .int .i64 b' ∧ s3 = .int .i64 lim ∧ s8 = .bool wb ∧ s9 = .bool wp ∧
      a' ≤ b' ∧ b' ≤ d.size ∧ b' - a' ≤ kx ∧ kx ≤ b - a ∧ lim ≤ limit ∧ dk.size = d.size ∧ Below (ltOf cf) a' b' dk ∧ SWK enc k w0 blk off dk wr ∧ pdq (ltOf cf) dk a' b' lim wb wp = pdq (ltOf cf) d a b limit true true)
    case atStart => exact ⟨a, b, limit, true, true, d, rfl, rfl, rfl, rfl, rfl, hab, hb, Nat.le_refl _, Nat.le_refl _, Nat.le_refl _, rfl, hBel0, S, rfl⟩
    case round =>
      obtain ⟨a', b', lim, wb, wp, dk, rfl, rfl, rfl, rfl, rfl, hab', hb', hkx, hkN, hlim, hds, hBel, hAt, heq⟩ := hrel
      have A : Aside (pdq (ltOf cf) dk a' b' lim wb wp = pdq (ltOf cf) d a b limit true true) := heq
      clear heq
      by_cases h12 : b' - a' ≤ 12
      ·
        have h12z : (b' : Int) - (a' : Int) ≤ 12 := by omega
        have hc := insertion_item_w L k aE zE enc cf g cb blk off cap a' b' d0 dk w0 wr eg hcmp R (by omega) hAt hO hab' (by omega) (by omega)
        rw [hds] at hc
        go_wp2_with (go_at_call 116; refine hc.mono ?_; rintro e w1 ⟨rfl, hw1⟩)
        (try simp only [Exit.inBlock, Exit.then]); refine bodyPost_ret (results_none rfl _ _ _) rfl ?_
        refine ⟨rfl, ?_⟩
        rw [← A.out, pdq_small h12]
        exact hw1
      · have h12z : ¬ ((b' : Int) - (a' : Int) ≤ 12) := by omega
        by_cases hl0 : lim = 0
        ·
          subst hl0
          have hc := heapSort_item L k aE zE enc cf g cb blk off cap a' b' d0 dk w0 wr eg hcmp R (by omega) hAt hab' (by omega) (by omega)
          rw [hds] at hc
          go_wp2_with (go_at_call 115; refine hc.mono ?_; rintro e w1 ⟨rfl, hw1⟩)
          (try simp only [Exit.inBlock, Exit.then]); refine bodyPost_ret (results_none rfl _ _ _) rfl ?_
          refine ⟨rfl, ?_⟩
          rw [← A.out, pdq_heap h12 rfl]
          exact hw1
        · have hl0z : ¬ ((lim : Int) = 0) := by omega
          obtain ⟨s1, B1, hc1, s2, B2, hpv, s3, B3⟩ := rd_facts (lt := (ltOf cf)) (limit := lim) (wb := wb) (wp := wp) hO partialInsertionSort_holds reverseRange_holds (show a' < b' by omega) (show b' ≤ dk.size by omega) hBel
          go_upto_if 39 with fail
          go_cut [3] from 21 (fun s3 wc => s3 = .int .i64 (rd (ltOf cf) dk a' b' lim wb wp).lim ∧ SWK enc k w0 blk off (rd (ltOf cf) dk a' b' lim wb wp).d1 wc)
          case first =>
            cases wb
            · have hc := breakPatterns_item L k aE zE enc g cb blk off cap a' b' d0 dk w0 wr R (by omega) hAt hab' (by omega) (by omega)
              rw [hds] at hc
              go_wp2_with (go_at_call 130; refine hc.mono ?_; rintro e w1 ⟨rfl, hw1⟩)
              go_meet
              case rel =>
                refine ⟨?_, hw1⟩
                show Value.int .i64 ((lim : Int) - 1) = Value.int .i64 ((lim - 1 : Nat) : Int)
                congr 1
                omega
            · go_wp2_with fail
              go_meet
              case rel => exact ⟨rfl, hAt⟩
          case rest =>
            obtain ⟨rfl, hAt1⟩ := hcut
            have hc17 : Calls P 131 #[.slice (some ⟨blk, off, none⟩) d.size cap, .int .i64 a', .int .i64 b', .func (.func g) #[] cb] wc fun e w' => e = .returned (.tuple #[.int .i64 (rd (ltOf cf) dk a' b' lim wb wp).c.1, .int .i64 (hintCode (rd (ltOf cf) dk a' b' lim wb wp).c.2)]) ∧ SWK enc k w0 blk off (rd (ltOf cf) dk a' b' lim wb wp).d1 w' := by
              have h := choosePivot_item L k aE zE enc cf g cb blk off cap a' b' d0 (rd (ltOf cf) dk a' b' lim wb wp).d1 w0 wc eg hcmp R (by omega) hAt1 (by omega) (by omega) (by omega)
              rw [show (rd (ltOf cf) dk a' b' lim wb wp).d1.size = d.size from s1.trans hds] at h
              exact h
            go_upto_if 56 with (go_at_call 131; refine hc17.mono ?_; rintro e w2 ⟨rfl, hAt2⟩)
            go_cut [13, 14] from 21 (fun s11 s12 wc => s11 = .int .i64 (rd (ltOf cf) dk a' b' lim wb wp).pivot ∧ s12 = .int .i64 (hintCode (rd (ltOf cf) dk a' b' lim wb wp).hint) ∧ SWK enc k w0 blk off (rd (ltOf cf) dk a' b' lim wb wp).d2 wc)
            case first =>
              by_cases hh : (rd (ltOf cf) dk a' b' lim wb wp).c.2 = .decreasing
              · have hcode : hintCode (rd (ltOf cf) dk a' b' lim wb wp).c.2 = 2 := by rw [hh]; rfl
                obtain ⟨e2, epv, eht⟩ := rd_dec hh
                have hc18 := reverseRange_item L k aE zE enc g cb blk off cap a' b' d0 (rd (ltOf cf) dk a' b' lim wb wp).d1 w0 w2 R (by omega) hAt2 hab' (by omega) (by omega)
                rw [show (rd (ltOf cf) dk a' b' lim wb wp).d1.size = d.size from s1.trans hds] at hc18
                go_wp2_with (go_at_call 132; refine hc18.mono ?_; rintro e w3 ⟨rfl, hw3⟩)
                go_meet
                case rel =>
                  refine ⟨?_, by rw [eht]; rfl, by rw [e2]; exact hw3⟩
                  rw [epv]
                  congr 1
                  omega
              · have hcode : ¬ (hintCode (rd (ltOf cf) dk a' b' lim wb wp).c.2 = 2) := fun h => hh (hintCode_two h)
                obtain ⟨e2, epv, eht⟩ := rd_not hh
                go_wp2_with fail
                go_meet
                case rel => exact ⟨by rw [epv], by rw [eht], by rw [e2]; exact hAt2⟩
            case rest =>
              obtain ⟨rfl, rfl, hAt3⟩ := hcut
              go_upto_region 15 with fail
              go_cut [14, 75] from 21 (fun s12 s68 wx => s12 = .int .i64 (hintCode (rd (ltOf cf) dk a' b' lim wb wp).hint) ∧ s68 = .bool (wb && wp && decide ((rd (ltOf cf) dk a' b' lim wb wp).hint = .increasing)) ∧ wx = wc)
              case first =>
                cases wb <;> cases wp <;> cases hh3 : (rd (ltOf cf) dk a' b' lim _ _).hint <;>
                  (have hcode3 := congrArg hintCode hh3
                   simp only [hintCode] at hcode3
                   go_wp2_with fail
                   go_meet
                   exact ⟨by simp [hh3, hintCode], by simp [hh3, hintCode], rfl⟩)
              case rest =>
                obtain ⟨rfl, rfl, rfl⟩ := hcut
                go_upto_if 75 with fail
                go_cut [] from 21 (fun wx => (rd (ltOf cf) dk a' b' lim wb wp).pi.2 = false ∧ SWK enc k w0 blk off (rd (ltOf cf) dk a' b' lim wb wp).pi.1 wx)
                case first =>
                  cases h68 : (wb && wp && decide ((rd (ltOf cf) dk a' b' lim wb wp).hint = .increasing))
                  · have epi := rd_pi_no h68
                    go_wp2_with fail
                    go_meet
                    case rel => exact ⟨by rw [epi], by rw [epi]; exact hAt3⟩
                  · have epi := rd_pi_yes h68
                    have hc19 := partial_item L k aE zE enc cf g cb blk off cap a' b' d0 (rd (ltOf cf) dk a' b' lim wb wp).d2 w0 wc eg hcmp R (by omega) hAt3 (by omega) (by omega) (by omega)
                    rw [← epi, show (rd (ltOf cf) dk a' b' lim wb wp).d2.size = d.size from s2.trans hds] at hc19
                    go_wp2_with (go_at_call 133; refine hc19.mono ?_; rintro e w4 ⟨rfl, hw4⟩)
                    all_goals first
                      | (have hp2 : (rd (ltOf cf) dk a' b' lim wb wp).pi.2 = false := by rw [epi]; assumption
                         go_meet
                         exact ⟨hp2, hw4⟩)
                      | (have hp2 : (rd (ltOf cf) dk a' b' lim wb wp).pi.2 = true := by rw [epi]; assumption
                         (try simp only [Exit.inBlock, Exit.then]); refine bodyPost_ret (results_none rfl _ _ _) rfl ?_
                         refine ⟨rfl, ?_⟩
                         rw [← A.out, pdq_done h12 hl0 hp2]
                         exact hw4)
                case rest =>
                  obtain ⟨hp2, hAt5⟩ := hcut
                  have HC : Aside _ := hcmp
                  have S5 : Aside (SWK enc k w0 blk off (rd (ltOf cf) dk a' b' lim wb wp).pi.1 wc) := hAt5
                  have hpv1 := hpv.1
                  have hpv2 := hpv.2
                  clear hAt5
                  rcases Nat.eq_zero_or_pos a' with ha0 | ha0
                  · have ha0z : decide ((a' : Int) > 0) = false := decide_eq_false (by omega)
                    have h87a : (decide (a' > 0) && !(ltOf cf) (rd (ltOf cf) dk a' b' lim wb wp).pi.1[a' - 1]! (rd (ltOf cf) dk a' b' lim wb wp).pi.1[(rd (ltOf cf) dk a' b' lim wb wp).pivot]!) = false := by simp [ha0]
                    have hn0 : ¬ (0 < a') := by omega
                    have hn0d : decide (0 < a') = false := decide_eq_false hn0
                    have hn0z : decide ((0 : Int) < (a' : Int)) = false := decide_eq_false (by omega)
                    clear ha0
                    go_wp2_with fail
                    go_big_region_o
                    have S6 : Aside (SWK enc k w0 blk off (rd (ltOf cf) dk a' b' lim wb wp).pi.1 wc.drew) := S5.out.drew
                    clear S5
                    generalize wc.drew = w6 at S6 ⊢
                    have hAt6 := S6.out
                    clear S6
                    have h87 : (decide (a' > 0) && !(ltOf cf) (rd (ltOf cf) dk a' b' lim wb wp).pi.1[a' - 1]! (rd (ltOf cf) dk a' b' lim wb wp).pi.1[(rd (ltOf cf) dk a' b' lim wb wp).pivot]!) = false := h87a
                    obtain ⟨mid, ap, d4, hx⟩ : ∃ mid ap d4, partition (ltOf cf) (rd (ltOf cf) dk a' b' lim wb wp).pi.1 a' b' (rd (ltOf cf) dk a' b' lim wb wp).pivot = (mid, ap, d4) := ⟨(partition (ltOf cf) (rd (ltOf cf) dk a' b' lim wb wp).pi.1 a' b' (rd (ltOf cf) dk a' b' lim wb wp).pivot).1, (partition (ltOf cf) (rd (ltOf cf) dk a' b' lim wb wp).pi.1 a' b' (rd (ltOf cf) dk a' b' lim wb wp).pivot).2.1, (partition (ltOf cf) (rd (ltOf cf) dk a' b' lim wb wp).pi.1 a' b' (rd (ltOf cf) dk a' b' lim wb wp).pivot).2.2, rfl⟩
                    obtain ⟨r1, r2, r3, r4, r5, r6, r7⟩ := round_part hO (partition_holds (ltOf cf)) hpv.1 hpv.2 (show b' ≤ (rd (ltOf cf) dk a' b' lim wb wp).pi.1.size by omega) B3 hx
                    have hc22 := partition_item L k aE zE enc cf g cb blk off cap a' b' (rd (ltOf cf) dk a' b' lim wb wp).pivot d0 (rd (ltOf cf) dk a' b' lim wb wp).pi.1 w0 w6 eg hcmp R (by omega) hAt6 hpv.1 hpv.2 (by omega) (by omega)
                    rw [hx, show (rd (ltOf cf) dk a' b' lim wb wp).pi.1.size = d.size from s3.trans hds] at hc22
                    have X : Aside (partition (ltOf cf) (rd (ltOf cf) dk a' b' lim wb wp).pi.1 a' b' (rd (ltOf cf) dk a' b' lim wb wp).pivot = (mid, ap, d4)) := hx
                    clear hx
                    go_upto_if 125 with (go_at_call 135; refine hc22.mono ?_; rintro e w7 ⟨rfl, hAt7⟩)
                    have hx := X.out
                    have hs4 : d4.size = d.size := r3.trans (s3.trans hds)
                    by_cases h4 : mid - a' < b' - mid
                    · have h4z : (mid : Int) - (a' : Int) < (b' : Int) - (mid : Int) := by omega
                      have hih := ih a' mid (rd (ltOf cf) dk a' b' lim wb wp).lim d4 w7 (by omega) (by omega) hAt7 (by omega) (by omega) (by omega) (Nat.lt_of_le_of_lt (Nat.le_trans rd_lim_le hlim) hlimit) r4
                      rw [hs4] at hih
                      obtain ⟨pL, sL⟩ := pdq_sorts (ltOf cf) hO d4 a' mid (rd (ltOf cf) dk a' b' lim wb wp).lim true true (by omega) (by omega) r4
                      go_wp2_with (go_at_call 111; refine hih.mono ?_; rintro e w8 ⟨rfl, hw8⟩)
                      go_roundg (b' - (mid + 1))
                      case measure => omega
                      case rel =>
                        refine ⟨mid + 1, b', (rd (ltOf cf) dk a' b' lim wb wp).lim, decide (mid - a' ≥ (b' - a') / 8), ap, pdq (ltOf cf) d4 a' mid (rd (ltOf cf) dk a' b' lim wb wp).lim true true, by simp, rfl, rfl, ?_, rfl, by omega, by omega, Nat.le_refl _, by omega, Nat.le_trans rd_lim_le hlim, by rw [pL.1, hs4], (r6 _ pL sL).1, hw8, ?_⟩
                        · exact congrArg Value.bool (eighth (by omega) (by omega))
                        · rw [← A.out, pdq_left h12 hl0 hp2 h87 (by rw [hx]; exact ⟨r1, r2⟩) (by rw [hx]; exact h4), hx]
                    · have h4z : ¬ ((mid : Int) - (a' : Int) < (b' : Int) - (mid : Int)) := by omega
                      have hih := ih (mid + 1) b' (rd (ltOf cf) dk a' b' lim wb wp).lim d4 w7 (by omega) (by omega) hAt7 (by omega) (by omega) (by omega) (Nat.lt_of_le_of_lt (Nat.le_trans rd_lim_le hlim) hlimit) r5
                      rw [show ((mid + 1 : Nat) : Int) = (mid : Int) + 1 by omega, hs4] at hih
                      obtain ⟨pL, sL⟩ := pdq_sorts (ltOf cf) hO d4 (mid + 1) b' (rd (ltOf cf) dk a' b' lim wb wp).lim true true (by omega) (by omega) r5
                      go_wp2_with (go_at_call 111; refine hih.mono ?_; rintro e w8 ⟨rfl, hw8⟩)
                      go_roundg (mid - a')
                      case measure => omega
                      case rel =>
                        refine ⟨a', mid, (rd (ltOf cf) dk a' b' lim wb wp).lim, decide (b' - mid ≥ (b' - a') / 8), ap, pdq (ltOf cf) d4 (mid + 1) b' (rd (ltOf cf) dk a' b' lim wb wp).lim true true, rfl, rfl, rfl, ?_, rfl, by omega, by omega, Nat.le_refl _, by omega, Nat.le_trans rd_lim_le hlim, by rw [pL.1, hs4], (r7 _ pL sL).1, hw8, ?_⟩
                        · exact congrArg Value.bool (eighth (by omega) (by omega))
                        · rw [← A.out, pdq_right h12 hl0 hp2 h87 (by rw [hx]; exact ⟨r1, r2⟩) (by rw [hx]; exact h4), hx]
                  · have ha0z : (a' : Int) > 0 := by omega
                    obtain ⟨ap, hap⟩ : ∃ q, q + 1 = a' := ⟨a' - 1, by omega⟩
                    have zap : (a' : Int) = (ap : Int) + 1 := by omega
                    have ha0d' : decide ((ap : Int) + 1 > 0) = true := decide_eq_true (by omega)
                    cases hlv : (ltOf cf) (rd (ltOf cf) dk a' b' lim wb wp).pi.1[a' - 1]! (rd (ltOf cf) dk a' b' lim wb wp).pi.1[(rd (ltOf cf) dk a' b' lim wb wp).pivot]! with
                    | true =>
                      have ea167 : ((ap : Int)).toNat = a' - 1 := by omega
                      have pa167 : (0 : Int) ≤ (ap : Int) := by omega
                      have ba167 : (ap : Int) < (d.size : Int) := by omega
                      have ra167 : IntKind.i64.wrap ((ap : Int)) = (ap : Int) := by rw [IntKind.wrap_i64]; omega
                      have ec167 : (((rd (ltOf cf) dk a' b' lim wb wp).pivot : Int)).toNat = (rd (ltOf cf) dk a' b' lim wb wp).pivot := by omega
                      have pc167 : (0 : Int) ≤ ((rd (ltOf cf) dk a' b' lim wb wp).pivot : Int) := by omega
                      have bc167 : ((rd (ltOf cf) dk a' b' lim wb wp).pivot : Int) < (d.size : Int) := by omega
                      have rc167 : IntKind.i64.wrap (((rd (ltOf cf) dk a' b' lim wb wp).pivot : Int)) = ((rd (ltOf cf) dk a' b' lim wb wp).pivot : Int) := by rw [IntKind.wrap_i64]; omega
                      obtain ⟨x167, hx167⟩ : ∃ x, x = (rd (ltOf cf) dk a' b' lim wb wp).pi.1[a' - 1]! := ⟨_, rfl⟩
                      obtain ⟨y167, hy167⟩ : ∃ x, x = (rd (ltOf cf) dk a' b' lim wb wp).pi.1[(rd (ltOf cf) dk a' b' lim wb wp).pivot]! := ⟨_, rfl⟩
                      have l167a := S5.out.ld R (by omega) P (a' - 1) (by omega)
                      have l167b := S5.out.ld R (by omega) P ((rd (ltOf cf) dk a' b' lim wb wp).pivot) (by omega)
                      rw [← hx167] at l167a
                      rw [← hy167] at l167b
                      have hc167 := S5.out.cmp HC.out (by omega) x167 y167
                      have hv167 : cf x167 y167 < 0 := by rw [hx167, hy167]; exact of_decide_eq_true hlv
                      have hd167 : decide (cf x167 y167 < 0) = true := decide_eq_true hv167
                      clear hx167 hy167
                      go_wp2_with fail
                      go_quiet_grown (first | (go_at_fn g; refine Calls.grown_of (hc167 _ _)))
                      have S6 : Aside (SWK enc k w0 blk off (rd (ltOf cf) dk a' b' lim wb wp).pi.1 (grow (wc.drewN nq) osq)) := S5.out.grown nq osq
                      clear l167a l167b hc167 S5
                      generalize grow (wc.drewN nq) osq = w6 at S6 ⊢
                      clear nq osq
                      simp only [← zap]
                      clear zap hap ha0d'
                      have hAt6 := S6.out
                      clear S6
                      have h87 : (decide (a' > 0) && !(ltOf cf) (rd (ltOf cf) dk a' b' lim wb wp).pi.1[a' - 1]! (rd (ltOf cf) dk a' b' lim wb wp).pi.1[(rd (ltOf cf) dk a' b' lim wb wp).pivot]!) = false := by simp [hlv]
                      obtain ⟨mid, ap, d4, hx⟩ : ∃ mid ap d4, partition (ltOf cf) (rd (ltOf cf) dk a' b' lim wb wp).pi.1 a' b' (rd (ltOf cf) dk a' b' lim wb wp).pivot = (mid, ap, d4) := ⟨(partition (ltOf cf) (rd (ltOf cf) dk a' b' lim wb wp).pi.1 a' b' (rd (ltOf cf) dk a' b' lim wb wp).pivot).1, (partition (ltOf cf) (rd (ltOf cf) dk a' b' lim wb wp).pi.1 a' b' (rd (ltOf cf) dk a' b' lim wb wp).pivot).2.1, (partition (ltOf cf) (rd (ltOf cf) dk a' b' lim wb wp).pi.1 a' b' (rd (ltOf cf) dk a' b' lim wb wp).pivot).2.2, rfl⟩
                      obtain ⟨r1, r2, r3, r4, r5, r6, r7⟩ := round_part hO (partition_holds (ltOf cf)) hpv.1 hpv.2 (show b' ≤ (rd (ltOf cf) dk a' b' lim wb wp).pi.1.size by omega) B3 hx
                      have hc22 := partition_item L k aE zE enc cf g cb blk off cap a' b' (rd (ltOf cf) dk a' b' lim wb wp).pivot d0 (rd (ltOf cf) dk a' b' lim wb wp).pi.1 w0 w6 eg hcmp R (by omega) hAt6 hpv.1 hpv.2 (by omega) (by omega)
                      rw [hx, show (rd (ltOf cf) dk a' b' lim wb wp).pi.1.size = d.size from s3.trans hds] at hc22
                      have X : Aside (partition (ltOf cf) (rd (ltOf cf) dk a' b' lim wb wp).pi.1 a' b' (rd (ltOf cf) dk a' b' lim wb wp).pivot = (mid, ap, d4)) := hx
                      clear hx
                      go_upto_if 125 with (go_at_call 135; refine hc22.mono ?_; rintro e w7 ⟨rfl, hAt7⟩)
                      have hx := X.out
                      have hs4 : d4.size = d.size := r3.trans (s3.trans hds)
                      by_cases h4 : mid - a' < b' - mid
                      · have h4z : (mid : Int) - (a' : Int) < (b' : Int) - (mid : Int) := by omega
                        have hih := ih a' mid (rd (ltOf cf) dk a' b' lim wb wp).lim d4 w7 (by omega) (by omega) hAt7 (by omega) (by omega) (by omega) (Nat.lt_of_le_of_lt (Nat.le_trans rd_lim_le hlim) hlimit) r4
                        rw [hs4] at hih
                        obtain ⟨pL, sL⟩ := pdq_sorts (ltOf cf) hO d4 a' mid (rd (ltOf cf) dk a' b' lim wb wp).lim true true (by omega) (by omega) r4
                        go_wp2_with (go_at_call 111; refine hih.mono ?_; rintro e w8 ⟨rfl, hw8⟩)
                        go_roundg (b' - (mid + 1))
                        case measure => omega
                        case rel =>
                          refine ⟨mid + 1, b', (rd (ltOf cf) dk a' b' lim wb wp).lim, decide (mid - a' ≥ (b' - a') / 8), ap, pdq (ltOf cf) d4 a' mid (rd (ltOf cf) dk a' b' lim wb wp).lim true true, by simp, rfl, rfl, ?_, rfl, by omega, by omega, Nat.le_refl _, by omega, Nat.le_trans rd_lim_le hlim, by rw [pL.1, hs4], (r6 _ pL sL).1, hw8, ?_⟩
                          · exact congrArg Value.bool (eighth (by omega) (by omega))
                          · rw [← A.out, pdq_left h12 hl0 hp2 h87 (by rw [hx]; exact ⟨r1, r2⟩) (by rw [hx]; exact h4), hx]
                      · have h4z : ¬ ((mid : Int) - (a' : Int) < (b' : Int) - (mid : Int)) := by omega
                        have hih := ih (mid + 1) b' (rd (ltOf cf) dk a' b' lim wb wp).lim d4 w7 (by omega) (by omega) hAt7 (by omega) (by omega) (by omega) (Nat.lt_of_le_of_lt (Nat.le_trans rd_lim_le hlim) hlimit) r5
                        rw [show ((mid + 1 : Nat) : Int) = (mid : Int) + 1 by omega, hs4] at hih
                        obtain ⟨pL, sL⟩ := pdq_sorts (ltOf cf) hO d4 (mid + 1) b' (rd (ltOf cf) dk a' b' lim wb wp).lim true true (by omega) (by omega) r5
                        go_wp2_with (go_at_call 111; refine hih.mono ?_; rintro e w8 ⟨rfl, hw8⟩)
                        go_roundg (mid - a')
                        case measure => omega
                        case rel =>
                          refine ⟨a', mid, (rd (ltOf cf) dk a' b' lim wb wp).lim, decide (b' - mid ≥ (b' - a') / 8), ap, pdq (ltOf cf) d4 (mid + 1) b' (rd (ltOf cf) dk a' b' lim wb wp).lim true true, rfl, rfl, rfl, ?_, rfl, by omega, by omega, Nat.le_refl _, by omega, Nat.le_trans rd_lim_le hlim, by rw [pL.1, hs4], (r7 _ pL sL).1, hw8, ?_⟩
                          · exact congrArg Value.bool (eighth (by omega) (by omega))
                          · rw [← A.out, pdq_right h12 hl0 hp2 h87 (by rw [hx]; exact ⟨r1, r2⟩) (by rw [hx]; exact h4), hx]
                    | false =>
                      have ea168 : ((ap : Int)).toNat = a' - 1 := by omega
                      have pa168 : (0 : Int) ≤ (ap : Int) := by omega
                      have ba168 : (ap : Int) < (d.size : Int) := by omega
                      have ra168 : IntKind.i64.wrap ((ap : Int)) = (ap : Int) := by rw [IntKind.wrap_i64]; omega
                      have ec168 : (((rd (ltOf cf) dk a' b' lim wb wp).pivot : Int)).toNat = (rd (ltOf cf) dk a' b' lim wb wp).pivot := by omega
                      have pc168 : (0 : Int) ≤ ((rd (ltOf cf) dk a' b' lim wb wp).pivot : Int) := by omega
                      have bc168 : ((rd (ltOf cf) dk a' b' lim wb wp).pivot : Int) < (d.size : Int) := by omega
                      have rc168 : IntKind.i64.wrap (((rd (ltOf cf) dk a' b' lim wb wp).pivot : Int)) = ((rd (ltOf cf) dk a' b' lim wb wp).pivot : Int) := by rw [IntKind.wrap_i64]; omega
                      obtain ⟨x168, hx168⟩ : ∃ x, x = (rd (ltOf cf) dk a' b' lim wb wp).pi.1[a' - 1]! := ⟨_, rfl⟩
                      obtain ⟨y168, hy168⟩ : ∃ x, x = (rd (ltOf cf) dk a' b' lim wb wp).pi.1[(rd (ltOf cf) dk a' b' lim wb wp).pivot]! := ⟨_, rfl⟩
                      have l168a := S5.out.ld R (by omega) P (a' - 1) (by omega)
                      have l168b := S5.out.ld R (by omega) P ((rd (ltOf cf) dk a' b' lim wb wp).pivot) (by omega)
                      rw [← hx168] at l168a
                      rw [← hy168] at l168b
                      have hc168 := S5.out.cmp HC.out (by omega) x168 y168
                      have hv168 : ¬ cf x168 y168 < 0 := by rw [hx168, hy168]; exact of_decide_eq_false hlv
                      have hd168 : decide (cf x168 y168 < 0) = false := decide_eq_false hv168
                      clear hx168 hy168
                      go_wp2_with fail
                      go_quiet_grown (first | (go_at_fn g; refine Calls.grown_of (hc168 _ _)))
                      have S6 : Aside (SWK enc k w0 blk off (rd (ltOf cf) dk a' b' lim wb wp).pi.1 (grow (wc.drewN nq) osq)) := S5.out.grown nq osq
                      clear l168a l168b hc168 S5
                      generalize grow (wc.drewN nq) osq = w6 at S6 ⊢
                      clear nq osq
                      simp only [← zap]
                      clear zap hap ha0d'
                      have hAt6 := S6.out
                      clear S6
                      have h87 : (decide (a' > 0) && !(ltOf cf) (rd (ltOf cf) dk a' b' lim wb wp).pi.1[a' - 1]! (rd (ltOf cf) dk a' b' lim wb wp).pi.1[(rd (ltOf cf) dk a' b' lim wb wp).pivot]!) = true := by simp [ha0, hlv]
                      have h87' := h87
                      simp only [Bool.and_eq_true, decide_eq_true_eq, Bool.not_eq_true'] at h87'
                      obtain ⟨mid, d4, hx⟩ : ∃ mid d4, partitionEqual (ltOf cf) (rd (ltOf cf) dk a' b' lim wb wp).pi.1 a' b' (rd (ltOf cf) dk a' b' lim wb wp).pivot = (mid, d4) := ⟨(partitionEqual (ltOf cf) (rd (ltOf cf) dk a' b' lim wb wp).pi.1 a' b' (rd (ltOf cf) dk a' b' lim wb wp).pivot).1, (partitionEqual (ltOf cf) (rd (ltOf cf) dk a' b' lim wb wp).pi.1 a' b' (rd (ltOf cf) dk a' b' lim wb wp).pivot).2, rfl⟩
                      obtain ⟨r1, r2, r3, r4, _⟩ := round_eq hO (partitionEqual_holds (ltOf cf)) h87'.1 hpv.1 hpv.2 (show b' ≤ (rd (ltOf cf) dk a' b' lim wb wp).pi.1.size by omega) B3 h87'.2 hx
                      have hc21 := partitionEqual_item L k aE zE enc cf g cb blk off cap a' b' (rd (ltOf cf) dk a' b' lim wb wp).pivot d0 (rd (ltOf cf) dk a' b' lim wb wp).pi.1 w0 w6 eg hcmp R (by omega) hAt6 hpv.1 hpv.2 (by omega) (by omega)
                      rw [hx, show (rd (ltOf cf) dk a' b' lim wb wp).pi.1.size = d.size from s3.trans hds] at hc21
                      have X : Aside (partitionEqual (ltOf cf) (rd (ltOf cf) dk a' b' lim wb wp).pi.1 a' b' (rd (ltOf cf) dk a' b' lim wb wp).pivot = (mid, d4)) := hx
                      clear hx
                      go_wp2_with (go_at_call 134; refine hc21.mono ?_; rintro e w7 ⟨rfl, hw7⟩)
                      go_roundg (b' - mid)
                      case measure => omega
                      case rel =>
                        have hx := X.out
                        exact ⟨mid, b', (rd (ltOf cf) dk a' b' lim wb wp).lim, wb, wp, d4, rfl, rfl, rfl, rfl, rfl, r2, hb', Nat.le_refl _, by omega, Nat.le_trans rd_lim_le hlim, by rw [r3, s3, hds], r4, hw7, by rw [← A.out, pdq_eq h12 hl0 hp2 h87 (by rw [hx]; exact ⟨r1, r2⟩), hx]⟩

end Go.Proofs.Ytcamaikogengoaa
