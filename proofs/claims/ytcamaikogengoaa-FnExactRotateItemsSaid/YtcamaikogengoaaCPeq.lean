/- partitionEqualCmpFunc over items computes the plain one. The walk turns the kit's over zsortanyfunc.go to this program. -/
import Derived.Test.YtcamaikogengoaaCKit
import Derived.Shelf.SlSortFuncK.PartitionK
import Derived.Sort.WalkC4
import Derived.Sort.WalkB2
import Derived.Sort.WalkB12
import Derived.Deep.LoopGhost
namespace Go.Proofs.Ytcamaikogengoaa
set_option linter.unusedVariables false
set_option linter.unusedSimpArgs false
set_option linter.unusedSectionVars false
open Go.Shelf Go.RowKit Go.Lib Go.Sort
variable {P : Program} {α : Type} [Inhabited α]

set_option maxHeartbeats 32000000 in
set_option maxRecDepth 1000000 in
theorem partitionEqual_item (L : Inner P) (k : Nat) (aE : ∀ w, (isAgg 78).run P w = .ok true w) (zE : ∀ w, (Go.sizeOf 78).run P w = .ok k w) (enc : α → List Value) (cf : α → α → Int) (g : Nat) (cb : Array Value) (blk off cap a b pivot : Nat) (d0 d : Array α) (w0 w : World)
    (eg : ∀ args w, (callFunc g args).run P w = .ok (.enter g args) w) (hcmp : CmpLays P g cb enc k cf blk off d0.size w0) (R : RowK enc k w0 blk off d0) (hs : d0.size = d.size) (S : SWK enc k w0 blk off d w) (hap : a ≤ pivot) (hpb : pivot < b) (hb : b ≤ d.size) (hsz : d.size < 4611686018427387904) :
    Calls P 134 #[.slice (some ⟨blk, off, none⟩) d.size cap, .int .i64 a, .int .i64 b, .int .i64 pivot, .func (.func g) #[] cb] w fun e w' =>
      e = .returned (.int .i64 (Sort.partitionEqual (ltOf cf) d a b pivot).1) ∧ SWK enc k w0 blk off (Sort.partitionEqual (ltOf cf) d a b pivot).2 w' := by
  have mixed := L.mixed; have t0 := L.t0; have a0 := L.a0; have z0 := L.z0; have v0 := L.v0; have t3 := L.t3; have a3 := L.a3; have z3 := L.z3; have v3 := L.v3; have t4 := L.t4; have a4 := L.a4; have z4 := L.z4; have v4 := L.v4; have t22 := L.t63; have a22 := L.a63; have z22 := L.z63; have v22 := L.v63; have t25 := L.t80; have a25 := L.a80; have z25 := L.z80; have v25 := L.v80
  have FG := L.f134
  have HC : Aside _ := hcmp
  have S0 : Aside (SWK enc k w0 blk off d w) := S
  clear S
  clear hcmp
  go_enter FG, Try.ntmps134
  go_wp2_with fail
  have ea111 : ((a : Int)).toNat = a := by omega
  have pa111 : (0 : Int) ≤ (a : Int) := by omega
  have ba111 : (a : Int) < (d.size : Int) := by omega
  have ra111 : IntKind.i64.wrap ((a : Int)) = (a : Int) := by rw [IntKind.wrap_i64]; omega
  have ec111 : ((pivot : Int)).toNat = pivot := by omega
  have pc111 : (0 : Int) ≤ (pivot : Int) := by omega
  have bc111 : (pivot : Int) < (d.size : Int) := by omega
  have rc111 : IntKind.i64.wrap ((pivot : Int)) = (pivot : Int) := by rw [IntKind.wrap_i64]; omega
  have S1 : Aside (SWK enc k w0 blk off (swp d (a) (pivot)) ((w.drew.setCells blk (off + (a) * k) (enc d[pivot]!)).setCells blk (off + (pivot) * k) (enc d[a]!))) := S0.out.swapped R (a) (pivot) (by omega) (by omega)
  have l111a := S0.out.ld1 R (by omega) P (a) (by omega)
  have l111b := S0.out.ld1 R (by omega) P (pivot) (by omega)
  have s111a := S0.out.st1 R (by omega) P (a) (by omega) d[pivot]!
  have s111b := S0.out.st2 R (by omega) P (a) (pivot) (by omega) (by omega) d[pivot]! d[a]!
  have n111a : (enc d[a]!).length = k := R.hk _
  have n111b : (enc d[pivot]!).length = k := R.hk _
  generalize enc d[a]! = cI111 at S1 l111a s111b n111a
  generalize enc d[pivot]! = cJ111 at S1 l111b s111a s111b n111b
  clear S0
  go_wp2_with fail
  go_big_region_o
  clear l111a l111b s111a s111b
  generalize (w.drew.setCells blk (off + (a) * k) cJ111).setCells blk (off + (pivot) * k) cI111 = w1 at S1 ⊢
  go_wp2
  go_loopw [11, 12] (fun vi vj wr => ∃ (i j : Nat) (dk : Array α), vi = .int .i64 i ∧ vj = .int .i64 j ∧ a < i ∧ i ≤ j + 1 ∧ j < b ∧ dk.size = d.size ∧ Aside (SWK enc k w0 blk off dk wr) ∧
      Sort.partEqLoop (ltOf cf) a i j dk = Sort.partEqLoop (ltOf cf) a (a + 1) (b - 1) (Sort.swp d a pivot))
    (fun vi vj _ => (intOf vj).toNat + 1 - (intOf vi).toNat)
  case atStart => exact ⟨a + 1, b - 1, Sort.swp d a pivot, by go_num, by go_num, by omega, by omega, by omega, size_swp _ _ _, S1, rfl⟩
  case round =>
    clear S1
    obtain ⟨i, j, dk, rfl, rfl, hai, hij, hjb, hs', S1, heq⟩ := hrel
    have AE : Hid (Sort.partEqLoop (ltOf cf) a i j dk = Sort.partEqLoop (ltOf cf) a (a + 1) (b - 1) (Sort.swp d a pivot)) := heq
    clear heq
    go_wp2
    go_loopw [11] (fun vi w1 => ∃ (i' : Nat), vi = .int .i64 i' ∧ i ≤ i' ∧ i' ≤ j + 1 ∧ Aside (SWK enc k w0 blk off dk w1) ∧
        Hid (Sort.scanUp (fun x => !(ltOf cf) dk[a]! x) dk j i' = Sort.scanUp (fun x => !(ltOf cf) dk[a]! x) dk j i))
      (fun vi _ => j + 1 - (intOf vi).toNat)
    case atStart => exact ⟨i, rfl, Nat.le_refl _, hij, S1, rfl⟩
    case round =>
      clear S1
      obtain ⟨i', rfl, hii, hij', SU, hsc⟩ := hrel
      by_cases hle : i' ≤ j
      · have hgu : decide ((i' : Int) ≤ (j : Int)) = true := decide_eq_true (by omega)
        cases hlv : (ltOf cf) dk[a]! dk[i']! with
        | false =>
          have ea112 : ((a : Int)).toNat = a := by omega
          have pa112 : (0 : Int) ≤ (a : Int) := by omega
          have ba112 : (a : Int) < (d.size : Int) := by omega
          have ra112 : IntKind.i64.wrap ((a : Int)) = (a : Int) := by rw [IntKind.wrap_i64]; omega
          have ec112 : ((i' : Int)).toNat = i' := by omega
          have pc112 : (0 : Int) ≤ (i' : Int) := by omega
          have bc112 : (i' : Int) < (d.size : Int) := by omega
          have rc112 : IntKind.i64.wrap ((i' : Int)) = (i' : Int) := by rw [IntKind.wrap_i64]; omega
          obtain ⟨x112, hx112⟩ : ∃ x, x = dk[a]! := ⟨_, rfl⟩
          obtain ⟨y112, hy112⟩ : ∃ x, x = dk[i']! := ⟨_, rfl⟩
          have l112a := SU.out.ld R (by omega) P (a) (by omega)
          have l112b := SU.out.ld R (by omega) P (i') (by omega)
          rw [← hx112] at l112a
          rw [← hy112] at l112b
          have hc112 := SU.out.cmp HC.out (by omega) x112 y112
          have hv112 : ¬ cf x112 y112 < 0 := by rw [hx112, hy112]; exact of_decide_eq_false hlv
          have hd112 : decide (cf x112 y112 < 0) = false := decide_eq_false hv112
          clear hx112 hy112
          go_wp2_with fail
          go_quiet_grown (first | (go_at_fn g; refine Calls.grown_of (hc112 _ _)))
          have SU2 : Aside (SWK enc k w0 blk off dk (grow (wr.drewN nq) osq)) := SU.out.grown nq osq
          clear l112a l112b hc112 SU
          generalize grow (wr.drewN nq) osq = wu2 at SU2 ⊢
          clear nq osq
          go_wp2
          go_roundw
          case rel => exact ⟨i' + 1, by go_num, by omega, by omega, SU2, (scanUp_go (fun x => !(ltOf cf) dk[a]! x) dk j i' hle (by simp [hlv])).symm.trans hsc.out⟩
          case measure => simp [intOf]; omega
        | true =>
          have hi2 : Hid (i' = Sort.scanUp (fun x => !(ltOf cf) dk[a]! x) dk j i) := (scanUp_end (fun x => !(ltOf cf) dk[a]! x) dk j i' (Or.inr (by simp [hlv]))).symm.trans hsc.out
          clear hsc
          have ea113 : ((a : Int)).toNat = a := by omega
          have pa113 : (0 : Int) ≤ (a : Int) := by omega
          have ba113 : (a : Int) < (d.size : Int) := by omega
          have ra113 : IntKind.i64.wrap ((a : Int)) = (a : Int) := by rw [IntKind.wrap_i64]; omega
          have ec113 : ((i' : Int)).toNat = i' := by omega
          have pc113 : (0 : Int) ≤ (i' : Int) := by omega
          have bc113 : (i' : Int) < (d.size : Int) := by omega
          have rc113 : IntKind.i64.wrap ((i' : Int)) = (i' : Int) := by rw [IntKind.wrap_i64]; omega
          obtain ⟨x113, hx113⟩ : ∃ x, x = dk[a]! := ⟨_, rfl⟩
          obtain ⟨y113, hy113⟩ : ∃ x, x = dk[i']! := ⟨_, rfl⟩
          have l113a := SU.out.ld R (by omega) P (a) (by omega)
          have l113b := SU.out.ld R (by omega) P (i') (by omega)
          rw [← hx113] at l113a
          rw [← hy113] at l113b
          have hc113 := SU.out.cmp HC.out (by omega) x113 y113
          have hv113 : cf x113 y113 < 0 := by rw [hx113, hy113]; exact of_decide_eq_true hlv
          have hd113 : decide (cf x113 y113 < 0) = true := decide_eq_true hv113
          clear hx113 hy113
          go_wp2_with fail
          go_quiet_grown (first | (go_at_fn g; refine Calls.grown_of (hc113 _ _)))
          have SU2 : Aside (SWK enc k w0 blk off dk (grow (wr.drewN nq) osq)) := SU.out.grown nq osq
          clear l113a l113b hc113 SU
          generalize grow (wr.drewN nq) osq = wu2 at SU2 ⊢
          clear nq osq
          go_wp2
          go_loopw [12] (fun vj w2 => ∃ (j' : Nat), vj = .int .i64 j' ∧ j' ≤ j ∧ i' ≤ j' + 1 ∧ Aside (SWK enc k w0 blk off dk w2) ∧
              Hid (Sort.scanDown (fun x => (ltOf cf) dk[a]! x) dk i' j' = Sort.scanDown (fun x => (ltOf cf) dk[a]! x) dk i' j))
            (fun vj _ => (intOf vj).toNat)
          case atStart => exact ⟨j, rfl, Nat.le_refl _, hij', SU2, rfl⟩
          case round =>
            clear SU2
            obtain ⟨j', rfl, hjj, hij2, SD, hsd⟩ := hrel
            by_cases hle2 : i' ≤ j'
            · have hgd : decide ((i' : Int) ≤ (j' : Int)) = true := decide_eq_true (by omega)
              cases hlv2 : (ltOf cf) dk[a]! dk[j']! with
              | true =>
                have ea114 : ((a : Int)).toNat = a := by omega
                have pa114 : (0 : Int) ≤ (a : Int) := by omega
                have ba114 : (a : Int) < (d.size : Int) := by omega
                have ra114 : IntKind.i64.wrap ((a : Int)) = (a : Int) := by rw [IntKind.wrap_i64]; omega
                have ec114 : ((j' : Int)).toNat = j' := by omega
                have pc114 : (0 : Int) ≤ (j' : Int) := by omega
                have bc114 : (j' : Int) < (d.size : Int) := by omega
                have rc114 : IntKind.i64.wrap ((j' : Int)) = (j' : Int) := by rw [IntKind.wrap_i64]; omega
                obtain ⟨x114, hx114⟩ : ∃ x, x = dk[a]! := ⟨_, rfl⟩
                obtain ⟨y114, hy114⟩ : ∃ x, x = dk[j']! := ⟨_, rfl⟩
                have l114a := SD.out.ld R (by omega) P (a) (by omega)
                have l114b := SD.out.ld R (by omega) P (j') (by omega)
                rw [← hx114] at l114a
                rw [← hy114] at l114b
                have hc114 := SD.out.cmp HC.out (by omega) x114 y114
                have hv114 : cf x114 y114 < 0 := by rw [hx114, hy114]; exact of_decide_eq_true hlv2
                have hd114 : decide (cf x114 y114 < 0) = true := decide_eq_true hv114
                clear hx114 hy114
                go_wp2_with fail
                go_quiet_grown (first | (go_at_fn g; refine Calls.grown_of (hc114 _ _)))
                have SD2 : Aside (SWK enc k w0 blk off dk (grow (wr.drewN nq) osq)) := SD.out.grown nq osq
                clear l114a l114b hc114 SD
                generalize grow (wr.drewN nq) osq = wd2 at SD2 ⊢
                clear nq osq
                go_wp2
                go_roundw
                case rel => exact ⟨j' - 1, by go_num, by omega, by omega, SD2, (scanDown_go (fun x => (ltOf cf) dk[a]! x) dk i' j' hle2 (by omega) hlv2).symm.trans hsd.out⟩
                case measure => simp [intOf]; omega
              | false =>
                have hj2 : Hid (j' = Sort.scanDown (fun x => (ltOf cf) dk[a]! x) dk i' j) := (scanDown_end (fun x => (ltOf cf) dk[a]! x) dk i' j' (Or.inr hlv2)).symm.trans hsd.out
                have hlt3 := scans_lt (ltOf cf) a i j dk (by omega) hi2.out hj2.out hle2
                clear hsd
                have ea115 : ((a : Int)).toNat = a := by omega
                have pa115 : (0 : Int) ≤ (a : Int) := by omega
                have ba115 : (a : Int) < (d.size : Int) := by omega
                have ra115 : IntKind.i64.wrap ((a : Int)) = (a : Int) := by rw [IntKind.wrap_i64]; omega
                have ec115 : ((j' : Int)).toNat = j' := by omega
                have pc115 : (0 : Int) ≤ (j' : Int) := by omega
                have bc115 : (j' : Int) < (d.size : Int) := by omega
                have rc115 : IntKind.i64.wrap ((j' : Int)) = (j' : Int) := by rw [IntKind.wrap_i64]; omega
                obtain ⟨x115, hx115⟩ : ∃ x, x = dk[a]! := ⟨_, rfl⟩
                obtain ⟨y115, hy115⟩ : ∃ x, x = dk[j']! := ⟨_, rfl⟩
                have l115a := SD.out.ld R (by omega) P (a) (by omega)
                have l115b := SD.out.ld R (by omega) P (j') (by omega)
                rw [← hx115] at l115a
                rw [← hy115] at l115b
                have hc115 := SD.out.cmp HC.out (by omega) x115 y115
                have hv115 : ¬ cf x115 y115 < 0 := by rw [hx115, hy115]; exact of_decide_eq_false hlv2
                have hd115 : decide (cf x115 y115 < 0) = false := decide_eq_false hv115
                clear hx115 hy115
                go_wp2_with fail
                go_quiet_grown (first | (go_at_fn g; refine Calls.grown_of (hc115 _ _)))
                have SD2 : Aside (SWK enc k w0 blk off dk (grow (wr.drewN nq) osq)) := SD.out.grown nq osq
                clear l115a l115b hc115 SD
                generalize grow (wr.drewN nq) osq = wd2 at SD2 ⊢
                clear nq osq
                go_wp2_with fail
                have ea116 : ((i' : Int)).toNat = i' := by omega
                have pa116 : (0 : Int) ≤ (i' : Int) := by omega
                have ba116 : (i' : Int) < (d.size : Int) := by omega
                have ra116 : IntKind.i64.wrap ((i' : Int)) = (i' : Int) := by rw [IntKind.wrap_i64]; omega
                have ec116 : ((j' : Int)).toNat = j' := by omega
                have pc116 : (0 : Int) ≤ (j' : Int) := by omega
                have bc116 : (j' : Int) < (d.size : Int) := by omega
                have rc116 : IntKind.i64.wrap ((j' : Int)) = (j' : Int) := by rw [IntKind.wrap_i64]; omega
                have SD3 : Aside (SWK enc k w0 blk off (swp dk (i') (j')) ((wd2.drew.setCells blk (off + (i') * k) (enc dk[j']!)).setCells blk (off + (j') * k) (enc dk[i']!))) := SD2.out.swapped R (i') (j') (by omega) (by omega)
                have l116a := SD2.out.ld1 R (by omega) P (i') (by omega)
                have l116b := SD2.out.ld1 R (by omega) P (j') (by omega)
                have s116a := SD2.out.st1 R (by omega) P (i') (by omega) dk[j']!
                have s116b := SD2.out.st2 R (by omega) P (i') (j') (by omega) (by omega) dk[j']! dk[i']!
                have n116a : (enc dk[i']!).length = k := R.hk _
                have n116b : (enc dk[j']!).length = k := R.hk _
                generalize enc dk[i']! = cI116 at SD3 l116a s116b n116a
                generalize enc dk[j']! = cJ116 at SD3 l116b s116a s116b n116b
                clear SD2
                go_wp2_with fail
                go_big_region_o
                clear l116a l116b s116a s116b
                generalize (wd2.drew.setCells blk (off + (i') * k) cJ116).setCells blk (off + (j') * k) cI116 = wd3 at SD3 ⊢
                go_wp2
                go_roundw
                case rel =>
                  refine ⟨i' + 1, j' - 1, Sort.swp dk i' j', by go_num, by go_num, by omega, by omega, by omega, by rw [size_swp]; exact hs', SD3, ?_⟩
                  rw [← AE.out]; exact (partEq_go (ltOf cf) a i j dk hi2.out hj2.out (by omega)).symm
                case measure => simp [intOf]; omega
            ·
              have hj2 : Hid (j' = Sort.scanDown (fun x => (ltOf cf) dk[a]! x) dk i' j) := (scanDown_end (fun x => (ltOf cf) dk[a]! x) dk i' j' (Or.inl hle2)).symm.trans hsd.out
              have hgd : decide ((i' : Int) ≤ (j' : Int)) = false := decide_eq_false (by omega)
              clear hsd
              go_wp2_with fail
              go_big_region_o
              have SD2 : Aside (SWK enc k w0 blk off dk wr.drew) := SD.out.drew
              clear SD
              generalize wr.drew = wd2 at SD2 ⊢
              go_wp2
              go_ret
              have e := partEq_break (ltOf cf) a i j dk hi2.out hj2.out (by omega)
              refine ⟨?_, ?_⟩
              · unfold Sort.partitionEqual; rw [← AE.out, e]; rfl
              · unfold Sort.partitionEqual; rw [← AE.out, e]; exact SD2.out
      ·
        have hi2 : Hid (i' = Sort.scanUp (fun x => !(ltOf cf) dk[a]! x) dk j i) := (scanUp_end (fun x => !(ltOf cf) dk[a]! x) dk j i' (Or.inl hle)).symm.trans hsc.out
        have hgu : decide ((i' : Int) ≤ (j : Int)) = false := decide_eq_false (by omega)
        clear hsc
        go_wp2_with fail
        go_big_region_o
        have SU2 : Aside (SWK enc k w0 blk off dk wr.drew) := SU.out.drew
        clear SU
        generalize wr.drew = wu2 at SU2 ⊢
        go_wp2
        go_loopw [12] (fun vj w2 => ∃ (j' : Nat), vj = .int .i64 j' ∧ j' ≤ j ∧ i' ≤ j' + 1 ∧ Aside (SWK enc k w0 blk off dk w2) ∧
            Hid (Sort.scanDown (fun x => (ltOf cf) dk[a]! x) dk i' j' = Sort.scanDown (fun x => (ltOf cf) dk[a]! x) dk i' j))
          (fun vj _ => (intOf vj).toNat)
        case atStart => exact ⟨j, rfl, Nat.le_refl _, hij', SU2, rfl⟩
        case round =>
          clear SU2
          obtain ⟨j', rfl, hjj, hij2, SD, hsd⟩ := hrel
          by_cases hle2 : i' ≤ j'
          · exfalso; omega
          ·
            have hj2 : Hid (j' = Sort.scanDown (fun x => (ltOf cf) dk[a]! x) dk i' j) := (scanDown_end (fun x => (ltOf cf) dk[a]! x) dk i' j' (Or.inl hle2)).symm.trans hsd.out
            have hgd : decide ((i' : Int) ≤ (j' : Int)) = false := decide_eq_false (by omega)
            clear hsd
            go_wp2_with fail
            go_big_region_o
            have SD2 : Aside (SWK enc k w0 blk off dk wr.drew) := SD.out.drew
            clear SD
            generalize wr.drew = wd2 at SD2 ⊢
            go_wp2
            go_ret
            have e := partEq_break (ltOf cf) a i j dk hi2.out hj2.out (by omega)
            refine ⟨?_, ?_⟩
            · unfold Sort.partitionEqual; rw [← AE.out, e]; rfl
            · unfold Sort.partitionEqual; rw [← AE.out, e]; exact SD2.out

end Go.Proofs.Ytcamaikogengoaa
