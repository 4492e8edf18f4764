/- partialInsertionSortCmpFunc over items computes the plain one. The walk turns the kit's over zsortanyfunc.go to this program. -/
import Derived.Test.YtcamaikogengoaaCKit
import Derived.Shelf.SlSortFuncK.PartialInsertionK
import Derived.Sort.WalkA6
import Derived.Sort.WalkB2
import Derived.Sort.WalkB12
import Derived.Deep.LoopGhost
namespace Go.Proofs.Ytcamaikogengoaa
set_option linter.unusedVariables false
set_option linter.unusedSimpArgs false
set_option linter.unusedSectionVars false
open Go.Shelf Go.RowKit Go.Lib Go.Sort
variable {P : Program} {α : Type} [Inhabited α]

set_option maxHeartbeats 64000000 in
set_option maxRecDepth 1000000 in
theorem partial_item (L : Inner P) (k : Nat) (aE : ∀ w, (isAgg 78).run P w = .ok true w) (zE : ∀ w, (Go.sizeOf 78).run P w = .ok k w) (enc : α → List Value) (cf : α → α → Int) (g : Nat) (cb : Array Value) (blk off cap a b : Nat) (d0 d : Array α) (w0 w : World)
    (eg : ∀ args w, (callFunc g args).run P w = .ok (.enter g args) w) (hcmp : CmpLays P g cb enc k cf blk off d0.size w0) (R : RowK enc k w0 blk off d0) (hs : d0.size = d.size) (S : SWK enc k w0 blk off d w) (hab : a < b) (hb : b ≤ d.size) (hsz : d.size < 4611686018427387904) :
    Calls P 133 #[.slice (some ⟨blk, off, none⟩) d.size cap, .int .i64 a, .int .i64 b, .func (.func g) #[] cb] w fun e w' =>
      e = .returned (.bool (Sort.partialInsertionSort (ltOf cf) d a b).2) ∧ SWK enc k w0 blk off (Sort.partialInsertionSort (ltOf cf) d a b).1 w' := by
  have mixed := L.mixed; have t0 := L.t0; have a0 := L.a0; have z0 := L.z0; have v0 := L.v0; have t3 := L.t3; have a3 := L.a3; have z3 := L.z3; have v3 := L.v3; have t4 := L.t4; have a4 := L.a4; have z4 := L.z4; have v4 := L.v4; have t22 := L.t63; have a22 := L.a63; have z22 := L.z63; have v22 := L.v63; have t25 := L.t80; have a25 := L.a80; have z25 := L.z80; have v25 := L.v80
  have FG := L.f133
  have HC : Aside _ := hcmp
  have S0 : Aside _ := S
  clear S
  clear hcmp
  go_enter FG, Try.ntmps133
  go_wp2
  go_loopg [9, 10] 5 (fun g1 vi vs wr => ∃ (i s : Nat) (dk : Array α), vi = .int .i64 i ∧ vs = .int .i64 s ∧ s ≤ 5 ∧ 5 - s ≤ g1 ∧ a < i ∧ i ≤ b ∧ dk.size = d.size ∧ Aside (SWK enc k w0 blk off dk wr) ∧ Hid (partialIns (ltOf cf) a b (5 - s) i dk = partialIns (ltOf cf) a b 5 (a + 1) d))
  case atStart => exact ⟨a + 1, 0, d, by first | go_num | (congr 1; omega), rfl, by omega, by omega, by omega, by omega, rfl, S0, rfl⟩
  case round =>
    clear S0
    obtain ⟨i, s, dk, rfl, rfl, hs5, hg1, hai, hib, hsk, S1, HO⟩ := hrel
    by_cases hs' : s < 5
    · have hs := hs'
      have hsz5 : (s : Int) < 5 := by omega
      go_wp2
      go_loopg [9] (b - i) (fun g2 vi wr2 => ∃ (kx : Nat), vi = .int .i64 kx ∧ i ≤ kx ∧ kx ≤ b ∧ b - kx ≤ g2 ∧ Aside (SWK enc k w0 blk off dk wr2) ∧ Hid (scanSorted (ltOf cf) dk b kx = scanSorted (ltOf cf) dk b i))
      case atStart => exact ⟨i, rfl, Nat.le_refl _, hib, Nat.le_refl _, S1, rfl⟩
      case round =>
        clear S1
        obtain ⟨kx, rfl, hik, hkb, hg2, S1, HSc⟩ := hrel
        by_cases hkb' : kx < b
        · have hkz : (kx : Int) < (b : Int) := by omega
          obtain ⟨kxp, hkxp⟩ : ∃ q, q + 1 = kx := ⟨kx - 1, by omega⟩
          have zkxp : (kx : Int) = (kxp : Int) + 1 := by omega
          have hkd : decide ((kxp : Int) + 1 < (b : Int)) = true := decide_eq_true (by omega)
          cases hlv : (ltOf cf) dk[kx]! dk[kx - 1]! with
          | false =>
            have ea90 : ((kxp : Int) + 1).toNat = kx := by omega
            have pa90 : (0 : Int) ≤ (kxp : Int) + 1 := by omega
            have ba90 : (kxp : Int) + 1 < (d.size : Int) := by omega
            have ra90 : IntKind.i64.wrap ((kxp : Int) + 1) = (kxp : Int) + 1 := by rw [IntKind.wrap_i64]; omega
            have ec90 : ((kxp : Int)).toNat = kx - 1 := by omega
            have pc90 : (0 : Int) ≤ (kxp : Int) := by omega
            have bc90 : (kxp : Int) < (d.size : Int) := by omega
            have rc90 : IntKind.i64.wrap ((kxp : Int)) = (kxp : Int) := by rw [IntKind.wrap_i64]; omega
            obtain ⟨x90, hx90⟩ : ∃ x, x = dk[kx]! := ⟨_, rfl⟩
            obtain ⟨y90, hy90⟩ : ∃ x, x = dk[kx - 1]! := ⟨_, rfl⟩
            have l90a := S1.out.ld R (by omega) P (kx) (by omega)
            have l90b := S1.out.ld R (by omega) P (kx - 1) (by omega)
            rw [← hx90] at l90a
            rw [← hy90] at l90b
            have hc90 := S1.out.cmp HC.out (by omega) x90 y90
            have hv90 : ¬ cf x90 y90 < 0 := by rw [hx90, hy90]; exact of_decide_eq_false hlv
            have hd90 : decide (cf x90 y90 < 0) = false := decide_eq_false hv90
            clear hx90 hy90
            go_wp2_with fail
            go_quiet_grown (first | (go_at_fn g; refine Calls.grown_of (hc90 _ _)))
            have S2 : Aside (SWK enc k w0 blk off dk (grow (wr.drewN nq) osq)) := S1.out.grown nq osq
            clear l90a l90b hc90 S1
            generalize grow (wr.drewN nq) osq = w2 at S2 ⊢
            clear nq osq
            go_wp2
            go_roundg (b - (kx + 1))
            case measure => omega
            case rel => exact ⟨kx + 1, by first | go_num | (congr 1; omega), by omega, by omega, Nat.le_refl _, S2, (show Hid _ from by rw [← HSc.out, scanSorted_go (ltOf cf) dk b kx hkb' hlv]; exact rfl)⟩
          | true =>
            have HK : Hid (scanSorted (ltOf cf) dk b i = kx) := by show _ = _; rw [← HSc.out, scanSorted_stop (ltOf cf) dk b kx (Or.inr hlv)]
            have hkne : ((kx : Int) == (b : Int)) = false := beq_eq_false_iff_ne.2 (by omega)
            have hkne' : ((kxp : Int) + 1 == (b : Int)) = false := beq_eq_false_iff_ne.2 (by omega)
            have ea91 : ((kxp : Int) + 1).toNat = kx := by omega
            have pa91 : (0 : Int) ≤ (kxp : Int) + 1 := by omega
            have ba91 : (kxp : Int) + 1 < (d.size : Int) := by omega
            have ra91 : IntKind.i64.wrap ((kxp : Int) + 1) = (kxp : Int) + 1 := by rw [IntKind.wrap_i64]; omega
            have ec91 : ((kxp : Int)).toNat = kx - 1 := by omega
            have pc91 : (0 : Int) ≤ (kxp : Int) := by omega
            have bc91 : (kxp : Int) < (d.size : Int) := by omega
            have rc91 : IntKind.i64.wrap ((kxp : Int)) = (kxp : Int) := by rw [IntKind.wrap_i64]; omega
            obtain ⟨x91, hx91⟩ : ∃ x, x = dk[kx]! := ⟨_, rfl⟩
            obtain ⟨y91, hy91⟩ : ∃ x, x = dk[kx - 1]! := ⟨_, rfl⟩
            have l91a := S1.out.ld R (by omega) P (kx) (by omega)
            have l91b := S1.out.ld R (by omega) P (kx - 1) (by omega)
            rw [← hx91] at l91a
            rw [← hy91] at l91b
            have hc91 := S1.out.cmp HC.out (by omega) x91 y91
            have hv91 : cf x91 y91 < 0 := by rw [hx91, hy91]; exact of_decide_eq_true hlv
            have hd91 : decide (cf x91 y91 < 0) = true := decide_eq_true hv91
            clear hx91 hy91
            go_wp2_with fail
            go_quiet_grown (first | (go_at_fn g; refine Calls.grown_of (hc91 _ _)))
            have S2 : Aside (SWK enc k w0 blk off dk (grow (wr.drewN nq) osq)) := S1.out.grown nq osq
            clear l91a l91b hc91 S1
            generalize grow (wr.drewN nq) osq = w2 at S2 ⊢
            clear nq osq
            by_cases h50 : b - a < 50
            · have h50z : (b : Int) - (a : Int) < 50 := by omega
              go_wp2
              have hv : Sort.partialInsertionSort (ltOf cf) d a b = (dk, false) := by
                unfold Sort.partialInsertionSort
                rw [← HO.out, pi_short (ltOf cf) a b s i dk hs (by rw [HK.out]; omega) h50]
              rw [hv]
              go_ret
              exact ⟨rfl, S2.out⟩
            · have h50z : ¬ ((b : Int) - (a : Int) < 50) := by omega
              go_wp2_with fail
              have ea92 : ((kxp : Int) + 1).toNat = kx := by omega
              have pa92 : (0 : Int) ≤ (kxp : Int) + 1 := by omega
              have ba92 : (kxp : Int) + 1 < (d.size : Int) := by omega
              have ra92 : IntKind.i64.wrap ((kxp : Int) + 1) = (kxp : Int) + 1 := by rw [IntKind.wrap_i64]; omega
              have ec92 : ((kxp : Int)).toNat = kx - 1 := by omega
              have pc92 : (0 : Int) ≤ (kxp : Int) := by omega
              have bc92 : (kxp : Int) < (d.size : Int) := by omega
              have rc92 : IntKind.i64.wrap ((kxp : Int)) = (kxp : Int) := by rw [IntKind.wrap_i64]; omega
              have S3 : Aside (SWK enc k w0 blk off (swp dk (kx) (kx - 1)) ((w2.drew.setCells blk (off + (kx) * k) (enc dk[kx - 1]!)).setCells blk (off + (kx - 1) * k) (enc dk[kx]!))) := S2.out.swapped R (kx) (kx - 1) (by omega) (by omega)
              have l92a := S2.out.ld1 R (by omega) P (kx) (by omega)
              have l92b := S2.out.ld1 R (by omega) P (kx - 1) (by omega)
              have s92a := S2.out.st1 R (by omega) P (kx) (by omega) dk[kx - 1]!
              have s92b := S2.out.st2 R (by omega) P (kx) (kx - 1) (by omega) (by omega) dk[kx - 1]! dk[kx]!
              have n92a : (enc dk[kx]!).length = k := R.hk _
              have n92b : (enc dk[kx - 1]!).length = k := R.hk _
              generalize enc dk[kx]! = cI92 at S3 l92a s92b n92a
              generalize enc dk[kx - 1]! = cJ92 at S3 l92b s92a s92b n92b
              clear S2
              go_wp2_with fail
              go_big_region_o
              clear l92a l92b s92a s92b
              generalize (w2.drew.setCells blk (off + (kx) * k) cJ92).setCells blk (off + (kx - 1) * k) cI92 = w3 at S3 ⊢
              have hX1 : (swp dk kx (kx - 1)).size = d.size := by rw [size_swp]; exact hsk
              by_cases hka : kx - a ≥ 2
              ·
                have hkaz : (2 : Int) ≤ (kx : Int) - (a : Int) := by omega
                have hkad : decide ((2 : Int) ≤ (kxp : Int) + 1 - (a : Int)) = true := decide_eq_true (by omega)
                go_wp2
                go_loopg [11] (kx - 1) (fun g3 vj wr3 => ∃ (j : Nat) (dj : Array α), vj = .int .i64 j ∧ j ≤ kx - 1 ∧ j ≤ g3 ∧ dj.size = d.size ∧ Aside (SWK enc k w0 blk off dj wr3) ∧ Hid (shiftDown (ltOf cf) j dj = shiftDown (ltOf cf) (kx - 1) (swp dk kx (kx - 1))))
                case atStart => exact ⟨kx - 1, (swp dk kx (kx - 1)), by congr 1; omega, Nat.le_refl _, Nat.le_refl _, hX1, S3, rfl⟩
                case round =>
                  clear S3
                  obtain ⟨j, dj, rfl, hjk, hg3, hsj, SD, HDn⟩ := hrel
                  by_cases hj1 : 1 ≤ j
                  · have hj1z : (1 : Int) ≤ (j : Int) := by omega
                    obtain ⟨jp, hjp⟩ : ∃ q, q + 1 = j := ⟨j - 1, by omega⟩
                    have zjp : (j : Int) = (jp : Int) + 1 := by omega
                    have hj1z' : (1 : Int) ≤ (jp : Int) + 1 := by omega
                    go_wp2_with fail
                    cases hlv2 : (ltOf cf) dj[j]! dj[j - 1]! with
                    | true =>
                      have ea93 : ((jp : Int) + 1).toNat = j := by omega
                      have pa93 : (0 : Int) ≤ (jp : Int) + 1 := by omega
                      have ba93 : (jp : Int) + 1 < (d.size : Int) := by omega
                      have ra93 : IntKind.i64.wrap ((jp : Int) + 1) = (jp : Int) + 1 := by rw [IntKind.wrap_i64]; omega
                      have ec93 : ((jp : Int)).toNat = j - 1 := by omega
                      have pc93 : (0 : Int) ≤ (jp : Int) := by omega
                      have bc93 : (jp : Int) < (d.size : Int) := by omega
                      have rc93 : IntKind.i64.wrap ((jp : Int)) = (jp : Int) := by rw [IntKind.wrap_i64]; omega
                      obtain ⟨x93, hx93⟩ : ∃ x, x = dj[j]! := ⟨_, rfl⟩
                      obtain ⟨y93, hy93⟩ : ∃ x, x = dj[j - 1]! := ⟨_, rfl⟩
                      have l93a := SD.out.ld R (by omega) P (j) (by omega)
                      have l93b := SD.out.ld R (by omega) P (j - 1) (by omega)
                      rw [← hx93] at l93a
                      rw [← hy93] at l93b
                      have hc93 := SD.out.cmp HC.out (by omega) x93 y93
                      have hv93 : cf x93 y93 < 0 := by rw [hx93, hy93]; exact of_decide_eq_true hlv2
                      have hd93 : decide (cf x93 y93 < 0) = true := decide_eq_true hv93
                      clear hx93 hy93
                      go_wp2_with fail
                      go_quiet_grown (first | (go_at_fn g; refine Calls.grown_of (hc93 _ _)))
                      have SD2 : Aside (SWK enc k w0 blk off dj (grow (wr.drewN nq) osq)) := SD.out.grown nq osq
                      clear l93a l93b hc93 SD
                      generalize grow (wr.drewN nq) osq = wd2 at SD2 ⊢
                      clear nq osq
                      go_wp2_with fail
                      have ea94 : ((jp : Int) + 1).toNat = j := by omega
                      have pa94 : (0 : Int) ≤ (jp : Int) + 1 := by omega
                      have ba94 : (jp : Int) + 1 < (d.size : Int) := by omega
                      have ra94 : IntKind.i64.wrap ((jp : Int) + 1) = (jp : Int) + 1 := by rw [IntKind.wrap_i64]; omega
                      have ec94 : ((jp : Int)).toNat = j - 1 := by omega
                      have pc94 : (0 : Int) ≤ (jp : Int) := by omega
                      have bc94 : (jp : Int) < (d.size : Int) := by omega
                      have rc94 : IntKind.i64.wrap ((jp : Int)) = (jp : Int) := by rw [IntKind.wrap_i64]; omega
                      have SD3 : Aside (SWK enc k w0 blk off (swp dj (j) (j - 1)) ((wd2.drew.setCells blk (off + (j) * k) (enc dj[j - 1]!)).setCells blk (off + (j - 1) * k) (enc dj[j]!))) := SD2.out.swapped R (j) (j - 1) (by omega) (by omega)
                      have l94a := SD2.out.ld1 R (by omega) P (j) (by omega)
                      have l94b := SD2.out.ld1 R (by omega) P (j - 1) (by omega)
                      have s94a := SD2.out.st1 R (by omega) P (j) (by omega) dj[j - 1]!
                      have s94b := SD2.out.st2 R (by omega) P (j) (j - 1) (by omega) (by omega) dj[j - 1]! dj[j]!
                      have n94a : (enc dj[j]!).length = k := R.hk _
                      have n94b : (enc dj[j - 1]!).length = k := R.hk _
                      generalize enc dj[j]! = cI94 at SD3 l94a s94b n94a
                      generalize enc dj[j - 1]! = cJ94 at SD3 l94b s94a s94b n94b
                      clear SD2
                      go_wp2_with fail
                      go_big_region_o
                      clear l94a l94b s94a s94b
                      generalize (wd2.drew.setCells blk (off + (j) * k) cJ94).setCells blk (off + (j - 1) * k) cI94 = wd3 at SD3 ⊢
                      go_wp2
                      go_roundg (j - 1)
                      case measure => omega
                      case rel => exact ⟨j - 1, swp dj j (j - 1), by congr 1; omega, by omega, Nat.le_refl _, by rw [size_swp]; exact hsj, SD3, (show Hid _ from by rw [← HDn.out, shiftDown_go (ltOf cf) j dj hj1 hlv2]; exact rfl)⟩
                    | false =>
                      have HD : Hid (fixDown (ltOf cf) a kx (swp dk kx (kx - 1)) = dj) := by show _ = _; unfold fixDown; rw [if_pos hka, ← HDn.out, shiftDown_stop (ltOf cf) j dj (Or.inr hlv2)]
                      have ea95 : ((jp : Int) + 1).toNat = j := by omega
                      have pa95 : (0 : Int) ≤ (jp : Int) + 1 := by omega
                      have ba95 : (jp : Int) + 1 < (d.size : Int) := by omega
                      have ra95 : IntKind.i64.wrap ((jp : Int) + 1) = (jp : Int) + 1 := by rw [IntKind.wrap_i64]; omega
                      have ec95 : ((jp : Int)).toNat = j - 1 := by omega
                      have pc95 : (0 : Int) ≤ (jp : Int) := by omega
                      have bc95 : (jp : Int) < (d.size : Int) := by omega
                      have rc95 : IntKind.i64.wrap ((jp : Int)) = (jp : Int) := by rw [IntKind.wrap_i64]; omega
                      obtain ⟨x95, hx95⟩ : ∃ x, x = dj[j]! := ⟨_, rfl⟩
                      obtain ⟨y95, hy95⟩ : ∃ x, x = dj[j - 1]! := ⟨_, rfl⟩
                      have l95a := SD.out.ld R (by omega) P (j) (by omega)
                      have l95b := SD.out.ld R (by omega) P (j - 1) (by omega)
                      rw [← hx95] at l95a
                      rw [← hy95] at l95b
                      have hc95 := SD.out.cmp HC.out (by omega) x95 y95
                      have hv95 : ¬ cf x95 y95 < 0 := by rw [hx95, hy95]; exact of_decide_eq_false hlv2
                      have hd95 : decide (cf x95 y95 < 0) = false := decide_eq_false hv95
                      clear hx95 hy95
                      go_wp2_with fail
                      go_quiet_grown (first | (go_at_fn g; refine Calls.grown_of (hc95 _ _)))
                      have SD4 : Aside (SWK enc k w0 blk off dj (grow (wr.drewN nq) osq)) := SD.out.grown nq osq
                      clear l95a l95b hc95 SD
                      generalize grow (wr.drewN nq) osq = wd4 at SD4 ⊢
                      clear nq osq
                      by_cases hbk : b - kx ≥ 2
                      ·
                        have hbkz : (2 : Int) ≤ (b : Int) - (kx : Int) := by omega
                        have hbkd : decide ((2 : Int) ≤ (b : Int) - ((kxp : Int) + 1)) = true := decide_eq_true (by omega)
                        go_wp2
                        go_loopg [12] (b - (kx + 1)) (fun g4 vj wr4 => ∃ (ju : Nat) (du : Array α), vj = .int .i64 ju ∧ kx + 1 ≤ ju ∧ ju ≤ b ∧ b - ju ≤ g4 ∧ du.size = d.size ∧ Aside (SWK enc k w0 blk off du wr4) ∧ Hid (shiftUp (ltOf cf) b ju du = shiftUp (ltOf cf) b (kx + 1) dj))
                        case atStart => exact ⟨kx + 1, dj, by first | go_num | (congr 1; omega), Nat.le_refl _, by omega, Nat.le_refl _, hsj, SD4, rfl⟩
                        case round =>
                          clear SD4
                          obtain ⟨ju, du, rfl, hkj, hjb, hg4, hsu, SU, HU⟩ := hrel
                          by_cases hjb' : ju < b
                          · have hjz : (ju : Int) < (b : Int) := by omega
                            obtain ⟨jup, hjup⟩ : ∃ q, q + 1 = ju := ⟨ju - 1, by omega⟩
                            have zjup : (ju : Int) = (jup : Int) + 1 := by omega
                            have hjz' : (jup : Int) + 1 < (b : Int) := by omega
                            go_wp2_with fail
                            cases hlv3 : (ltOf cf) du[ju]! du[ju - 1]! with
                            | true =>
                              have ea96 : ((jup : Int) + 1).toNat = ju := by omega
                              have pa96 : (0 : Int) ≤ (jup : Int) + 1 := by omega
                              have ba96 : (jup : Int) + 1 < (d.size : Int) := by omega
                              have ra96 : IntKind.i64.wrap ((jup : Int) + 1) = (jup : Int) + 1 := by rw [IntKind.wrap_i64]; omega
                              have ec96 : ((jup : Int)).toNat = ju - 1 := by omega
                              have pc96 : (0 : Int) ≤ (jup : Int) := by omega
                              have bc96 : (jup : Int) < (d.size : Int) := by omega
                              have rc96 : IntKind.i64.wrap ((jup : Int)) = (jup : Int) := by rw [IntKind.wrap_i64]; omega
                              obtain ⟨x96, hx96⟩ : ∃ x, x = du[ju]! := ⟨_, rfl⟩
                              obtain ⟨y96, hy96⟩ : ∃ x, x = du[ju - 1]! := ⟨_, rfl⟩
                              have l96a := SU.out.ld R (by omega) P (ju) (by omega)
                              have l96b := SU.out.ld R (by omega) P (ju - 1) (by omega)
                              rw [← hx96] at l96a
                              rw [← hy96] at l96b
                              have hc96 := SU.out.cmp HC.out (by omega) x96 y96
                              have hv96 : cf x96 y96 < 0 := by rw [hx96, hy96]; exact of_decide_eq_true hlv3
                              have hd96 : decide (cf x96 y96 < 0) = true := decide_eq_true hv96
                              clear hx96 hy96
                              go_wp2_with fail
                              go_quiet_grown (first | (go_at_fn g; refine Calls.grown_of (hc96 _ _)))
                              have SU55 : Aside (SWK enc k w0 blk off du (grow (wr.drewN nq) osq)) := SU.out.grown nq osq
                              clear l96a l96b hc96 SU
                              generalize grow (wr.drewN nq) osq = wu56 at SU55 ⊢
                              clear nq osq
                              go_wp2_with fail
                              have ea97 : ((jup : Int) + 1).toNat = ju := by omega
                              have pa97 : (0 : Int) ≤ (jup : Int) + 1 := by omega
                              have ba97 : (jup : Int) + 1 < (d.size : Int) := by omega
                              have ra97 : IntKind.i64.wrap ((jup : Int) + 1) = (jup : Int) + 1 := by rw [IntKind.wrap_i64]; omega
                              have ec97 : ((jup : Int)).toNat = ju - 1 := by omega
                              have pc97 : (0 : Int) ≤ (jup : Int) := by omega
                              have bc97 : (jup : Int) < (d.size : Int) := by omega
                              have rc97 : IntKind.i64.wrap ((jup : Int)) = (jup : Int) := by rw [IntKind.wrap_i64]; omega
                              have SU57 : Aside (SWK enc k w0 blk off (swp du (ju) (ju - 1)) ((wu56.drew.setCells blk (off + (ju) * k) (enc du[ju - 1]!)).setCells blk (off + (ju - 1) * k) (enc du[ju]!))) := SU55.out.swapped R (ju) (ju - 1) (by omega) (by omega)
                              have l97a := SU55.out.ld1 R (by omega) P (ju) (by omega)
                              have l97b := SU55.out.ld1 R (by omega) P (ju - 1) (by omega)
                              have s97a := SU55.out.st1 R (by omega) P (ju) (by omega) du[ju - 1]!
                              have s97b := SU55.out.st2 R (by omega) P (ju) (ju - 1) (by omega) (by omega) du[ju - 1]! du[ju]!
                              have n97a : (enc du[ju]!).length = k := R.hk _
                              have n97b : (enc du[ju - 1]!).length = k := R.hk _
                              generalize enc du[ju]! = cI97 at SU57 l97a s97b n97a
                              generalize enc du[ju - 1]! = cJ97 at SU57 l97b s97a s97b n97b
                              clear SU55
                              go_wp2_with fail
                              go_big_region_o
                              clear l97a l97b s97a s97b
                              generalize (wu56.drew.setCells blk (off + (ju) * k) cJ97).setCells blk (off + (ju - 1) * k) cI97 = wu58 at SU57 ⊢
                              go_wp2
                              go_roundg (b - (ju + 1))
                              case measure => omega
                              case rel => exact ⟨ju + 1, swp du ju (ju - 1), by first | go_num | (congr 1; omega), by omega, by omega, Nat.le_refl _, by rw [size_swp]; exact hsu, SU57, (show Hid _ from by rw [← HU.out, shiftUp_go (ltOf cf) b ju du hjb' hlv3]; exact rfl)⟩
                            | false =>
                              have ea98 : ((jup : Int) + 1).toNat = ju := by omega
                              have pa98 : (0 : Int) ≤ (jup : Int) + 1 := by omega
                              have ba98 : (jup : Int) + 1 < (d.size : Int) := by omega
                              have ra98 : IntKind.i64.wrap ((jup : Int) + 1) = (jup : Int) + 1 := by rw [IntKind.wrap_i64]; omega
                              have ec98 : ((jup : Int)).toNat = ju - 1 := by omega
                              have pc98 : (0 : Int) ≤ (jup : Int) := by omega
                              have bc98 : (jup : Int) < (d.size : Int) := by omega
                              have rc98 : IntKind.i64.wrap ((jup : Int)) = (jup : Int) := by rw [IntKind.wrap_i64]; omega
                              obtain ⟨x98, hx98⟩ : ∃ x, x = du[ju]! := ⟨_, rfl⟩
                              obtain ⟨y98, hy98⟩ : ∃ x, x = du[ju - 1]! := ⟨_, rfl⟩
                              have l98a := SU.out.ld R (by omega) P (ju) (by omega)
                              have l98b := SU.out.ld R (by omega) P (ju - 1) (by omega)
                              rw [← hx98] at l98a
                              rw [← hy98] at l98b
                              have hc98 := SU.out.cmp HC.out (by omega) x98 y98
                              have hv98 : ¬ cf x98 y98 < 0 := by rw [hx98, hy98]; exact of_decide_eq_false hlv3
                              have hd98 : decide (cf x98 y98 < 0) = false := decide_eq_false hv98
                              clear hx98 hy98
                              go_wp2_with fail
                              go_quiet_grown (first | (go_at_fn g; refine Calls.grown_of (hc98 _ _)))
                              have SU59 : Aside (SWK enc k w0 blk off du (grow (wr.drewN nq) osq)) := SU.out.grown nq osq
                              clear l98a l98b hc98 SU
                              generalize grow (wr.drewN nq) osq = wu60 at SU59 ⊢
                              clear nq osq
                              go_wp2
                              go_roundg (5 - (s + 1))
                              case measure => omega
                              case rel => exact ⟨kx, s + 1, du, by first | rfl | (congr 1; omega), by first | go_num | (congr 1; omega), by omega, Nat.le_refl _, by omega, by omega, hsu, SU59, (show Hid _ from by rw [← HO.out, pi_go (ltOf cf) a b s i kx dk hs HK.out (by omega) h50, HD.out, show fixUp (ltOf cf) b kx dj = du from by unfold fixUp; rw [if_pos hbk, ← HU.out, shiftUp_stop (ltOf cf) b ju du (Or.inr hlv3)]]; exact rfl)⟩
                          · have hjz : ¬ (ju : Int) < (b : Int) := by omega
                            go_wp2
                            go_roundg (5 - (s + 1))
                            case measure => omega
                            case rel => exact ⟨kx, s + 1, du, by first | rfl | (congr 1; omega), by first | go_num | (congr 1; omega), by omega, Nat.le_refl _, by omega, by omega, hsu, SU, (show Hid _ from by rw [← HO.out, pi_go (ltOf cf) a b s i kx dk hs HK.out (by omega) h50, HD.out, show fixUp (ltOf cf) b kx dj = du from by unfold fixUp; rw [if_pos hbk, ← HU.out, shiftUp_stop (ltOf cf) b ju du (Or.inl hjb')]]; exact rfl)⟩
                      · have hbkz : ¬ (2 : Int) ≤ (b : Int) - (kx : Int) := by omega
                        have hbkd : decide ((2 : Int) ≤ (b : Int) - ((kxp : Int) + 1)) = false := decide_eq_false (by omega)
                        go_wp2
                        go_roundg (5 - (s + 1))
                        case measure => omega
                        case rel => exact ⟨kx, s + 1, dj, by first | rfl | (congr 1; omega), by first | go_num | (congr 1; omega), by omega, Nat.le_refl _, by omega, by omega, hsj, SD4, (show Hid _ from by rw [← HO.out, pi_go (ltOf cf) a b s i kx dk hs HK.out (by omega) h50, HD.out, show fixUp (ltOf cf) b kx dj = dj from by unfold fixUp; rw [if_neg hbk]]; exact rfl)⟩
                  · have hj1z : ¬ (1 : Int) ≤ (j : Int) := by omega
                    have HD : Hid (fixDown (ltOf cf) a kx (swp dk kx (kx - 1)) = dj) := by show _ = _; unfold fixDown; rw [if_pos hka, ← HDn.out, shiftDown_stop (ltOf cf) j dj (Or.inl (by omega))]
                    by_cases hbk : b - kx ≥ 2
                    ·
                      have hbkz : (2 : Int) ≤ (b : Int) - (kx : Int) := by omega
                      have hbkd : decide ((2 : Int) ≤ (b : Int) - ((kxp : Int) + 1)) = true := decide_eq_true (by omega)
                      go_wp2
                      go_loopg [12] (b - (kx + 1)) (fun g4 vj wr4 => ∃ (ju : Nat) (du : Array α), vj = .int .i64 ju ∧ kx + 1 ≤ ju ∧ ju ≤ b ∧ b - ju ≤ g4 ∧ du.size = d.size ∧ Aside (SWK enc k w0 blk off du wr4) ∧ Hid (shiftUp (ltOf cf) b ju du = shiftUp (ltOf cf) b (kx + 1) dj))
                      case atStart => exact ⟨kx + 1, dj, by first | go_num | (congr 1; omega), Nat.le_refl _, by omega, Nat.le_refl _, hsj, SD, rfl⟩
                      case round =>
                        clear SD
                        obtain ⟨ju, du, rfl, hkj, hjb, hg4, hsu, SU, HU⟩ := hrel
                        by_cases hjb' : ju < b
                        · have hjz : (ju : Int) < (b : Int) := by omega
                          obtain ⟨jup, hjup⟩ : ∃ q, q + 1 = ju := ⟨ju - 1, by omega⟩
                          have zjup : (ju : Int) = (jup : Int) + 1 := by omega
                          have hjz' : (jup : Int) + 1 < (b : Int) := by omega
                          go_wp2_with fail
                          cases hlv3 : (ltOf cf) du[ju]! du[ju - 1]! with
                          | true =>
                            have ea99 : ((jup : Int) + 1).toNat = ju := by omega
                            have pa99 : (0 : Int) ≤ (jup : Int) + 1 := by omega
                            have ba99 : (jup : Int) + 1 < (d.size : Int) := by omega
                            have ra99 : IntKind.i64.wrap ((jup : Int) + 1) = (jup : Int) + 1 := by rw [IntKind.wrap_i64]; omega
                            have ec99 : ((jup : Int)).toNat = ju - 1 := by omega
                            have pc99 : (0 : Int) ≤ (jup : Int) := by omega
                            have bc99 : (jup : Int) < (d.size : Int) := by omega
                            have rc99 : IntKind.i64.wrap ((jup : Int)) = (jup : Int) := by rw [IntKind.wrap_i64]; omega
                            obtain ⟨x99, hx99⟩ : ∃ x, x = du[ju]! := ⟨_, rfl⟩
                            obtain ⟨y99, hy99⟩ : ∃ x, x = du[ju - 1]! := ⟨_, rfl⟩
                            have l99a := SU.out.ld R (by omega) P (ju) (by omega)
                            have l99b := SU.out.ld R (by omega) P (ju - 1) (by omega)
                            rw [← hx99] at l99a
                            rw [← hy99] at l99b
                            have hc99 := SU.out.cmp HC.out (by omega) x99 y99
                            have hv99 : cf x99 y99 < 0 := by rw [hx99, hy99]; exact of_decide_eq_true hlv3
                            have hd99 : decide (cf x99 y99 < 0) = true := decide_eq_true hv99
                            clear hx99 hy99
                            go_wp2_with fail
                            go_quiet_grown (first | (go_at_fn g; refine Calls.grown_of (hc99 _ _)))
                            have SU61 : Aside (SWK enc k w0 blk off du (grow (wr.drewN nq) osq)) := SU.out.grown nq osq
                            clear l99a l99b hc99 SU
                            generalize grow (wr.drewN nq) osq = wu62 at SU61 ⊢
                            clear nq osq
                            go_wp2_with fail
                            have ea100 : ((jup : Int) + 1).toNat = ju := by omega
                            have pa100 : (0 : Int) ≤ (jup : Int) + 1 := by omega
                            have ba100 : (jup : Int) + 1 < (d.size : Int) := by omega
                            have ra100 : IntKind.i64.wrap ((jup : Int) + 1) = (jup : Int) + 1 := by rw [IntKind.wrap_i64]; omega
                            have ec100 : ((jup : Int)).toNat = ju - 1 := by omega
                            have pc100 : (0 : Int) ≤ (jup : Int) := by omega
                            have bc100 : (jup : Int) < (d.size : Int) := by omega
                            have rc100 : IntKind.i64.wrap ((jup : Int)) = (jup : Int) := by rw [IntKind.wrap_i64]; omega
                            have SU63 : Aside (SWK enc k w0 blk off (swp du (ju) (ju - 1)) ((wu62.drew.setCells blk (off + (ju) * k) (enc du[ju - 1]!)).setCells blk (off + (ju - 1) * k) (enc du[ju]!))) := SU61.out.swapped R (ju) (ju - 1) (by omega) (by omega)
                            have l100a := SU61.out.ld1 R (by omega) P (ju) (by omega)
                            have l100b := SU61.out.ld1 R (by omega) P (ju - 1) (by omega)
                            have s100a := SU61.out.st1 R (by omega) P (ju) (by omega) du[ju - 1]!
                            have s100b := SU61.out.st2 R (by omega) P (ju) (ju - 1) (by omega) (by omega) du[ju - 1]! du[ju]!
                            have n100a : (enc du[ju]!).length = k := R.hk _
                            have n100b : (enc du[ju - 1]!).length = k := R.hk _
                            generalize enc du[ju]! = cI100 at SU63 l100a s100b n100a
                            generalize enc du[ju - 1]! = cJ100 at SU63 l100b s100a s100b n100b
                            clear SU61
                            go_wp2_with fail
                            go_big_region_o
                            clear l100a l100b s100a s100b
                            generalize (wu62.drew.setCells blk (off + (ju) * k) cJ100).setCells blk (off + (ju - 1) * k) cI100 = wu64 at SU63 ⊢
                            go_wp2
                            go_roundg (b - (ju + 1))
                            case measure => omega
                            case rel => exact ⟨ju + 1, swp du ju (ju - 1), by first | go_num | (congr 1; omega), by omega, by omega, Nat.le_refl _, by rw [size_swp]; exact hsu, SU63, (show Hid _ from by rw [← HU.out, shiftUp_go (ltOf cf) b ju du hjb' hlv3]; exact rfl)⟩
                          | false =>
                            have ea101 : ((jup : Int) + 1).toNat = ju := by omega
                            have pa101 : (0 : Int) ≤ (jup : Int) + 1 := by omega
                            have ba101 : (jup : Int) + 1 < (d.size : Int) := by omega
                            have ra101 : IntKind.i64.wrap ((jup : Int) + 1) = (jup : Int) + 1 := by rw [IntKind.wrap_i64]; omega
                            have ec101 : ((jup : Int)).toNat = ju - 1 := by omega
                            have pc101 : (0 : Int) ≤ (jup : Int) := by omega
                            have bc101 : (jup : Int) < (d.size : Int) := by omega
                            have rc101 : IntKind.i64.wrap ((jup : Int)) = (jup : Int) := by rw [IntKind.wrap_i64]; omega
                            obtain ⟨x101, hx101⟩ : ∃ x, x = du[ju]! := ⟨_, rfl⟩
                            obtain ⟨y101, hy101⟩ : ∃ x, x = du[ju - 1]! := ⟨_, rfl⟩
                            have l101a := SU.out.ld R (by omega) P (ju) (by omega)
                            have l101b := SU.out.ld R (by omega) P (ju - 1) (by omega)
                            rw [← hx101] at l101a
                            rw [← hy101] at l101b
                            have hc101 := SU.out.cmp HC.out (by omega) x101 y101
                            have hv101 : ¬ cf x101 y101 < 0 := by rw [hx101, hy101]; exact of_decide_eq_false hlv3
                            have hd101 : decide (cf x101 y101 < 0) = false := decide_eq_false hv101
                            clear hx101 hy101
                            go_wp2_with fail
                            go_quiet_grown (first | (go_at_fn g; refine Calls.grown_of (hc101 _ _)))
                            have SU65 : Aside (SWK enc k w0 blk off du (grow (wr.drewN nq) osq)) := SU.out.grown nq osq
                            clear l101a l101b hc101 SU
                            generalize grow (wr.drewN nq) osq = wu66 at SU65 ⊢
                            clear nq osq
                            go_wp2
                            go_roundg (5 - (s + 1))
                            case measure => omega
                            case rel => exact ⟨kx, s + 1, du, by first | rfl | (congr 1; omega), by first | go_num | (congr 1; omega), by omega, Nat.le_refl _, by omega, by omega, hsu, SU65, (show Hid _ from by rw [← HO.out, pi_go (ltOf cf) a b s i kx dk hs HK.out (by omega) h50, HD.out, show fixUp (ltOf cf) b kx dj = du from by unfold fixUp; rw [if_pos hbk, ← HU.out, shiftUp_stop (ltOf cf) b ju du (Or.inr hlv3)]]; exact rfl)⟩
                        · have hjz : ¬ (ju : Int) < (b : Int) := by omega
                          go_wp2
                          go_roundg (5 - (s + 1))
                          case measure => omega
                          case rel => exact ⟨kx, s + 1, du, by first | rfl | (congr 1; omega), by first | go_num | (congr 1; omega), by omega, Nat.le_refl _, by omega, by omega, hsu, SU, (show Hid _ from by rw [← HO.out, pi_go (ltOf cf) a b s i kx dk hs HK.out (by omega) h50, HD.out, show fixUp (ltOf cf) b kx dj = du from by unfold fixUp; rw [if_pos hbk, ← HU.out, shiftUp_stop (ltOf cf) b ju du (Or.inl hjb')]]; exact rfl)⟩
                    · have hbkz : ¬ (2 : Int) ≤ (b : Int) - (kx : Int) := by omega
                      have hbkd : decide ((2 : Int) ≤ (b : Int) - ((kxp : Int) + 1)) = false := decide_eq_false (by omega)
                      go_wp2
                      go_roundg (5 - (s + 1))
                      case measure => omega
                      case rel => exact ⟨kx, s + 1, dj, by first | rfl | (congr 1; omega), by first | go_num | (congr 1; omega), by omega, Nat.le_refl _, by omega, by omega, hsj, SD, (show Hid _ from by rw [← HO.out, pi_go (ltOf cf) a b s i kx dk hs HK.out (by omega) h50, HD.out, show fixUp (ltOf cf) b kx dj = dj from by unfold fixUp; rw [if_neg hbk]]; exact rfl)⟩
              · have hkaz : ¬ (2 : Int) ≤ (kx : Int) - (a : Int) := by omega
                have hkad : decide ((2 : Int) ≤ (kxp : Int) + 1 - (a : Int)) = false := decide_eq_false (by omega)
                have HD : Hid (fixDown (ltOf cf) a kx (swp dk kx (kx - 1)) = (swp dk kx (kx - 1))) := by show _ = _; unfold fixDown; rw [if_neg hka]
                by_cases hbk : b - kx ≥ 2
                ·
                  have hbkz : (2 : Int) ≤ (b : Int) - (kx : Int) := by omega
                  have hbkd : decide ((2 : Int) ≤ (b : Int) - ((kxp : Int) + 1)) = true := decide_eq_true (by omega)
                  go_wp2
                  go_loopg [12] (b - (kx + 1)) (fun g4 vj wr4 => ∃ (ju : Nat) (du : Array α), vj = .int .i64 ju ∧ kx + 1 ≤ ju ∧ ju ≤ b ∧ b - ju ≤ g4 ∧ du.size = d.size ∧ Aside (SWK enc k w0 blk off du wr4) ∧ Hid (shiftUp (ltOf cf) b ju du = shiftUp (ltOf cf) b (kx + 1) (swp dk kx (kx - 1))))
                  case atStart => exact ⟨kx + 1, (swp dk kx (kx - 1)), by first | go_num | (congr 1; omega), Nat.le_refl _, by omega, Nat.le_refl _, hX1, S3, rfl⟩
                  case round =>
                    clear S3
                    obtain ⟨ju, du, rfl, hkj, hjb, hg4, hsu, SU, HU⟩ := hrel
                    by_cases hjb' : ju < b
                    · have hjz : (ju : Int) < (b : Int) := by omega
                      obtain ⟨jup, hjup⟩ : ∃ q, q + 1 = ju := ⟨ju - 1, by omega⟩
                      have zjup : (ju : Int) = (jup : Int) + 1 := by omega
                      have hjz' : (jup : Int) + 1 < (b : Int) := by omega
                      go_wp2_with fail
                      cases hlv3 : (ltOf cf) du[ju]! du[ju - 1]! with
                      | true =>
                        have ea102 : ((jup : Int) + 1).toNat = ju := by omega
                        have pa102 : (0 : Int) ≤ (jup : Int) + 1 := by omega
                        have ba102 : (jup : Int) + 1 < (d.size : Int) := by omega
                        have ra102 : IntKind.i64.wrap ((jup : Int) + 1) = (jup : Int) + 1 := by rw [IntKind.wrap_i64]; omega
                        have ec102 : ((jup : Int)).toNat = ju - 1 := by omega
                        have pc102 : (0 : Int) ≤ (jup : Int) := by omega
                        have bc102 : (jup : Int) < (d.size : Int) := by omega
                        have rc102 : IntKind.i64.wrap ((jup : Int)) = (jup : Int) := by rw [IntKind.wrap_i64]; omega
                        obtain ⟨x102, hx102⟩ : ∃ x, x = du[ju]! := ⟨_, rfl⟩
                        obtain ⟨y102, hy102⟩ : ∃ x, x = du[ju - 1]! := ⟨_, rfl⟩
                        have l102a := SU.out.ld R (by omega) P (ju) (by omega)
                        have l102b := SU.out.ld R (by omega) P (ju - 1) (by omega)
                        rw [← hx102] at l102a
                        rw [← hy102] at l102b
                        have hc102 := SU.out.cmp HC.out (by omega) x102 y102
                        have hv102 : cf x102 y102 < 0 := by rw [hx102, hy102]; exact of_decide_eq_true hlv3
                        have hd102 : decide (cf x102 y102 < 0) = true := decide_eq_true hv102
                        clear hx102 hy102
                        go_wp2_with fail
                        go_quiet_grown (first | (go_at_fn g; refine Calls.grown_of (hc102 _ _)))
                        have SU67 : Aside (SWK enc k w0 blk off du (grow (wr.drewN nq) osq)) := SU.out.grown nq osq
                        clear l102a l102b hc102 SU
                        generalize grow (wr.drewN nq) osq = wu68 at SU67 ⊢
                        clear nq osq
                        go_wp2_with fail
                        have ea103 : ((jup : Int) + 1).toNat = ju := by omega
                        have pa103 : (0 : Int) ≤ (jup : Int) + 1 := by omega
                        have ba103 : (jup : Int) + 1 < (d.size : Int) := by omega
                        have ra103 : IntKind.i64.wrap ((jup : Int) + 1) = (jup : Int) + 1 := by rw [IntKind.wrap_i64]; omega
                        have ec103 : ((jup : Int)).toNat = ju - 1 := by omega
                        have pc103 : (0 : Int) ≤ (jup : Int) := by omega
                        have bc103 : (jup : Int) < (d.size : Int) := by omega
                        have rc103 : IntKind.i64.wrap ((jup : Int)) = (jup : Int) := by rw [IntKind.wrap_i64]; omega
                        have SU69 : Aside (SWK enc k w0 blk off (swp du (ju) (ju - 1)) ((wu68.drew.setCells blk (off + (ju) * k) (enc du[ju - 1]!)).setCells blk (off + (ju - 1) * k) (enc du[ju]!))) := SU67.out.swapped R (ju) (ju - 1) (by omega) (by omega)
                        have l103a := SU67.out.ld1 R (by omega) P (ju) (by omega)
                        have l103b := SU67.out.ld1 R (by omega) P (ju - 1) (by omega)
                        have s103a := SU67.out.st1 R (by omega) P (ju) (by omega) du[ju - 1]!
                        have s103b := SU67.out.st2 R (by omega) P (ju) (ju - 1) (by omega) (by omega) du[ju - 1]! du[ju]!
                        have n103a : (enc du[ju]!).length = k := R.hk _
                        have n103b : (enc du[ju - 1]!).length = k := R.hk _
                        generalize enc du[ju]! = cI103 at SU69 l103a s103b n103a
                        generalize enc du[ju - 1]! = cJ103 at SU69 l103b s103a s103b n103b
                        clear SU67
                        go_wp2_with fail
                        go_big_region_o
                        clear l103a l103b s103a s103b
                        generalize (wu68.drew.setCells blk (off + (ju) * k) cJ103).setCells blk (off + (ju - 1) * k) cI103 = wu70 at SU69 ⊢
                        go_wp2
                        go_roundg (b - (ju + 1))
                        case measure => omega
                        case rel => exact ⟨ju + 1, swp du ju (ju - 1), by first | go_num | (congr 1; omega), by omega, by omega, Nat.le_refl _, by rw [size_swp]; exact hsu, SU69, (show Hid _ from by rw [← HU.out, shiftUp_go (ltOf cf) b ju du hjb' hlv3]; exact rfl)⟩
                      | false =>
                        have ea104 : ((jup : Int) + 1).toNat = ju := by omega
                        have pa104 : (0 : Int) ≤ (jup : Int) + 1 := by omega
                        have ba104 : (jup : Int) + 1 < (d.size : Int) := by omega
                        have ra104 : IntKind.i64.wrap ((jup : Int) + 1) = (jup : Int) + 1 := by rw [IntKind.wrap_i64]; omega
                        have ec104 : ((jup : Int)).toNat = ju - 1 := by omega
                        have pc104 : (0 : Int) ≤ (jup : Int) := by omega
                        have bc104 : (jup : Int) < (d.size : Int) := by omega
                        have rc104 : IntKind.i64.wrap ((jup : Int)) = (jup : Int) := by rw [IntKind.wrap_i64]; omega
                        obtain ⟨x104, hx104⟩ : ∃ x, x = du[ju]! := ⟨_, rfl⟩
                        obtain ⟨y104, hy104⟩ : ∃ x, x = du[ju - 1]! := ⟨_, rfl⟩
                        have l104a := SU.out.ld R (by omega) P (ju) (by omega)
                        have l104b := SU.out.ld R (by omega) P (ju - 1) (by omega)
                        rw [← hx104] at l104a
                        rw [← hy104] at l104b
                        have hc104 := SU.out.cmp HC.out (by omega) x104 y104
                        have hv104 : ¬ cf x104 y104 < 0 := by rw [hx104, hy104]; exact of_decide_eq_false hlv3
                        have hd104 : decide (cf x104 y104 < 0) = false := decide_eq_false hv104
                        clear hx104 hy104
                        go_wp2_with fail
                        go_quiet_grown (first | (go_at_fn g; refine Calls.grown_of (hc104 _ _)))
                        have SU71 : Aside (SWK enc k w0 blk off du (grow (wr.drewN nq) osq)) := SU.out.grown nq osq
                        clear l104a l104b hc104 SU
                        generalize grow (wr.drewN nq) osq = wu72 at SU71 ⊢
                        clear nq osq
                        go_wp2
                        go_roundg (5 - (s + 1))
                        case measure => omega
                        case rel => exact ⟨kx, s + 1, du, by first | rfl | (congr 1; omega), by first | go_num | (congr 1; omega), by omega, Nat.le_refl _, by omega, by omega, hsu, SU71, (show Hid _ from by rw [← HO.out, pi_go (ltOf cf) a b s i kx dk hs HK.out (by omega) h50, HD.out, show fixUp (ltOf cf) b kx (swp dk kx (kx - 1)) = du from by unfold fixUp; rw [if_pos hbk, ← HU.out, shiftUp_stop (ltOf cf) b ju du (Or.inr hlv3)]]; exact rfl)⟩
                    · have hjz : ¬ (ju : Int) < (b : Int) := by omega
                      go_wp2
                      go_roundg (5 - (s + 1))
                      case measure => omega
                      case rel => exact ⟨kx, s + 1, du, by first | rfl | (congr 1; omega), by first | go_num | (congr 1; omega), by omega, Nat.le_refl _, by omega, by omega, hsu, SU, (show Hid _ from by rw [← HO.out, pi_go (ltOf cf) a b s i kx dk hs HK.out (by omega) h50, HD.out, show fixUp (ltOf cf) b kx (swp dk kx (kx - 1)) = du from by unfold fixUp; rw [if_pos hbk, ← HU.out, shiftUp_stop (ltOf cf) b ju du (Or.inl hjb')]]; exact rfl)⟩
                · have hbkz : ¬ (2 : Int) ≤ (b : Int) - (kx : Int) := by omega
                  have hbkd : decide ((2 : Int) ≤ (b : Int) - ((kxp : Int) + 1)) = false := decide_eq_false (by omega)
                  go_wp2
                  go_roundg (5 - (s + 1))
                  case measure => omega
                  case rel => exact ⟨kx, s + 1, (swp dk kx (kx - 1)), by first | rfl | (congr 1; omega), by first | go_num | (congr 1; omega), by omega, Nat.le_refl _, by omega, by omega, hX1, S3, (show Hid _ from by rw [← HO.out, pi_go (ltOf cf) a b s i kx dk hs HK.out (by omega) h50, HD.out, show fixUp (ltOf cf) b kx (swp dk kx (kx - 1)) = (swp dk kx (kx - 1)) from by unfold fixUp; rw [if_neg hbk]]; exact rfl)⟩
        ·
          obtain rfl : kx = b := by omega
          have hkz : ¬ (kx : Int) < (kx : Int) := by omega
          have hkd : decide ((kx : Int) < (kx : Int)) = false := decide_eq_false hkz
          go_wp2_with fail
          go_big_region_o
          have S2 : Aside (SWK enc k w0 blk off dk wr.drew) := S1.out.drew
          clear S1
          generalize wr.drew = w2 at S2 ⊢
          go_wp2
          have hv : Sort.partialInsertionSort (ltOf cf) d a kx = (dk, true) := by
            unfold Sort.partialInsertionSort
            rw [← HO.out, pi_true (ltOf cf) a kx s i dk hs (by rw [← HSc.out, scanSorted_stop (ltOf cf) dk kx kx (Or.inl (by omega))])]
          rw [hv]
          go_ret
          exact ⟨rfl, S2.out⟩
    ·
      obtain rfl : s = 5 := by omega
      go_wp2
      have hv : Sort.partialInsertionSort (ltOf cf) d a b = (dk, false) := by
        unfold Sort.partialInsertionSort
        rw [← HO.out, pi_end]
      rw [hv]
      go_ret
      exact ⟨rfl, S1.out⟩

end Go.Proofs.Ytcamaikogengoaa
