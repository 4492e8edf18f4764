/- partitionCmpFunc over items computes the plain one. The walk turns the kit's over zsortanyfunc.go to this program. -/
import Derived.Test.YtcamaikogengoaaCKit
import Derived.Shelf.SlSortFuncK.PartitionK
import Derived.Sort.WalkC4
import Derived.Sort.WalkB2
import Derived.Sort.WalkB12
import Derived.Deep.LoopGhost
namespace Go.Proofs.Ytcamaikogengoaa
set_option linter.unusedVariables false
set_option linter.unusedSimpArgs false
set_option linter.unusedSectionVars false
open Go.Shelf Go.RowKit Go.Lib Go.Sort
variable {P : Program} {α : Type} [Inhabited α]

set_option maxHeartbeats 64000000 in
set_option maxRecDepth 1000000 in
theorem partition_item (L : Inner P) (k : Nat) (aE : ∀ w, (isAgg 78).run P w = .ok true w) (zE : ∀ w, (Go.sizeOf 78).run P w = .ok k w) (enc : α → List Value) (cf : α → α → Int) (g : Nat) (cb : Array Value) (blk off cap a b pivot : Nat) (d0 d : Array α) (w0 w : World)
    (eg : ∀ args w, (callFunc g args).run P w = .ok (.enter g args) w) (hcmp : CmpLays P g cb enc k cf blk off d0.size w0) (R : RowK enc k w0 blk off d0) (hs : d0.size = d.size) (S : SWK enc k w0 blk off d w) (hap : a ≤ pivot) (hpb : pivot < b) (hb : b ≤ d.size) (hsz : d.size < 4611686018427387904) :
    Calls P 135 #[.slice (some ⟨blk, off, none⟩) d.size cap, .int .i64 a, .int .i64 b, .int .i64 pivot, .func (.func g) #[] cb] w fun e w' =>
      e = .returned (.tuple #[.int .i64 (Sort.partition (ltOf cf) d a b pivot).1, .bool (Sort.partition (ltOf cf) d a b pivot).2.1]) ∧ SWK enc k w0 blk off (Sort.partition (ltOf cf) d a b pivot).2.2 w' := by
  have mixed := L.mixed; have t0 := L.t0; have a0 := L.a0; have z0 := L.z0; have v0 := L.v0; have t3 := L.t3; have a3 := L.a3; have z3 := L.z3; have v3 := L.v3; have t4 := L.t4; have a4 := L.a4; have z4 := L.z4; have v4 := L.v4; have t22 := L.t63; have a22 := L.a63; have z22 := L.z63; have v22 := L.v63; have t25 := L.t80; have a25 := L.a80; have z25 := L.z80; have v25 := L.v80
  have FG := L.f135
  have HC : Aside _ := hcmp
  have S0 : Aside (SWK enc k w0 blk off d w) := S
  clear S
  clear hcmp
  go_enter FG, Try.ntmps135
  go_wp2_with fail
  have ea164 : ((a : Int)).toNat = a := by omega
  have pa164 : (0 : Int) ≤ (a : Int) := by omega
  have ba164 : (a : Int) < (d.size : Int) := by omega
  have ra164 : IntKind.i64.wrap ((a : Int)) = (a : Int) := by rw [IntKind.wrap_i64]; omega
  have ec164 : ((pivot : Int)).toNat = pivot := by omega
  have pc164 : (0 : Int) ≤ (pivot : Int) := by omega
  have bc164 : (pivot : Int) < (d.size : Int) := by omega
  have rc164 : IntKind.i64.wrap ((pivot : Int)) = (pivot : Int) := by rw [IntKind.wrap_i64]; omega
  have S1 : Aside (SWK enc k w0 blk off (swp d (a) (pivot)) ((w.drew.setCells blk (off + (a) * k) (enc d[pivot]!)).setCells blk (off + (pivot) * k) (enc d[a]!))) := S0.out.swapped R (a) (pivot) (by omega) (by omega)
  have l164a := S0.out.ld1 R (by omega) P (a) (by omega)
  have l164b := S0.out.ld1 R (by omega) P (pivot) (by omega)
  have s164a := S0.out.st1 R (by omega) P (a) (by omega) d[pivot]!
  have s164b := S0.out.st2 R (by omega) P (a) (pivot) (by omega) (by omega) d[pivot]! d[a]!
  have n164a : (enc d[a]!).length = k := R.hk _
  have n164b : (enc d[pivot]!).length = k := R.hk _
  generalize enc d[a]! = cI164 at S1 l164a s164b n164a
  generalize enc d[pivot]! = cJ164 at S1 l164b s164a s164b n164b
  clear S0
  go_wp2_with fail
  go_big_region_o
  clear l164a l164b s164a s164b
  generalize (w.drew.setCells blk (off + (a) * k) cJ164).setCells blk (off + (pivot) * k) cI164 = w1 at S1 ⊢
  obtain ⟨i1, hi⟩ : ∃ i : Nat, i = a + 1 := ⟨_, rfl⟩
  obtain ⟨j1, hj⟩ : ∃ j : Nat, j = b - 1 := ⟨_, rfl⟩
  obtain ⟨dk1, hdk⟩ : ∃ dk : Array α, dk = Sort.swp d a pivot := ⟨_, rfl⟩
  rw [← hdk] at S1
  have hs1 : dk1.size = d.size := by rw [hdk]; exact size_swp _ _ _
  have hai1 : a < i1 := by omega
  have hij1 : i1 ≤ j1 + 1 := by omega
  have hjb1 : j1 < b := by omega
  have Hi : Hid (i1 = a + 1) := hi
  have Hj : Hid (j1 = b - 1) := hj
  have Hdk : Hid (dk1 = Sort.swp d a pivot) := hdk
  have ezi : ((a : Int) + 1) = (i1 : Int) := by omega
  have ezj : ((b : Int) - 1) = (j1 : Int) := by omega
  clear hi hj hdk
  go_wp2
  go_loopw [12] (fun vi w1 => ∃ (p1 : Nat), vi = .int .i64 p1 ∧ i1 ≤ p1 ∧ p1 ≤ j1 + 1 ∧ Aside (SWK enc k w0 blk off dk1 w1) ∧
      Hid (Sort.scanUp (fun x => (ltOf cf) x dk1[a]!) dk1 j1 p1 = Sort.scanUp (fun x => (ltOf cf) x dk1[a]!) dk1 j1 i1))
    (fun vi _ => j1 + 1 - (intOf vi).toNat)
  case atStart => exact ⟨i1, rfl, Nat.le_refl _, hij1, S1, rfl⟩
  case round =>
    clear S1
    obtain ⟨p1, rfl, hii1, hij'1, SU1, hsc1⟩ := hrel
    by_cases hle1 : p1 ≤ j1
    · have hgu1 : decide ((p1 : Int) ≤ (j1 : Int)) = true := decide_eq_true (by omega)
      cases hlv1 : (ltOf cf) dk1[p1]! dk1[a]! with
      | true =>
        have ea157 : ((p1 : Int)).toNat = p1 := by omega
        have pa157 : (0 : Int) ≤ (p1 : Int) := by omega
        have ba157 : (p1 : Int) < (d.size : Int) := by omega
        have ra157 : IntKind.i64.wrap ((p1 : Int)) = (p1 : Int) := by rw [IntKind.wrap_i64]; omega
        have ec157 : ((a : Int)).toNat = a := by omega
        have pc157 : (0 : Int) ≤ (a : Int) := by omega
        have bc157 : (a : Int) < (d.size : Int) := by omega
        have rc157 : IntKind.i64.wrap ((a : Int)) = (a : Int) := by rw [IntKind.wrap_i64]; omega
        obtain ⟨x157, hx157⟩ : ∃ x, x = dk1[p1]! := ⟨_, rfl⟩
        obtain ⟨y157, hy157⟩ : ∃ x, x = dk1[a]! := ⟨_, rfl⟩
        have l157a := SU1.out.ld R (by omega) P (p1) (by omega)
        have l157b := SU1.out.ld R (by omega) P (a) (by omega)
        rw [← hx157] at l157a
        rw [← hy157] at l157b
        have hc157 := SU1.out.cmp HC.out (by omega) x157 y157
        have hv157 : cf x157 y157 < 0 := by rw [hx157, hy157]; exact of_decide_eq_true hlv1
        have hd157 : decide (cf x157 y157 < 0) = true := decide_eq_true hv157
        clear hx157 hy157
        go_wp2_with fail
        go_quiet_grown (first | (go_at_fn g; refine Calls.grown_of (hc157 _ _)))
        have SV1 : Aside (SWK enc k w0 blk off dk1 (grow (wr.drewN nq) osq)) := SU1.out.grown nq osq
        clear l157a l157b hc157 SU1
        generalize grow (wr.drewN nq) osq = wv1 at SV1 ⊢
        clear nq osq
        go_wp2
        go_roundw
        case rel => exact ⟨p1 + 1, by go_num, by omega, by omega, SV1, (scanUp_go (fun x => (ltOf cf) x dk1[a]!) dk1 j1 p1 hle1 hlv1).symm.trans hsc1.out⟩
        case measure => simp [intOf]; omega
      | false =>
        have hi21 : Hid (p1 = Sort.scanUp (fun x => (ltOf cf) x dk1[a]!) dk1 j1 i1) := (scanUp_end (fun x => (ltOf cf) x dk1[a]!) dk1 j1 p1 (Or.inr hlv1)).symm.trans hsc1.out
        clear hsc1
        have ea158 : ((p1 : Int)).toNat = p1 := by omega
        have pa158 : (0 : Int) ≤ (p1 : Int) := by omega
        have ba158 : (p1 : Int) < (d.size : Int) := by omega
        have ra158 : IntKind.i64.wrap ((p1 : Int)) = (p1 : Int) := by rw [IntKind.wrap_i64]; omega
        have ec158 : ((a : Int)).toNat = a := by omega
        have pc158 : (0 : Int) ≤ (a : Int) := by omega
        have bc158 : (a : Int) < (d.size : Int) := by omega
        have rc158 : IntKind.i64.wrap ((a : Int)) = (a : Int) := by rw [IntKind.wrap_i64]; omega
        obtain ⟨x158, hx158⟩ : ∃ x, x = dk1[p1]! := ⟨_, rfl⟩
        obtain ⟨y158, hy158⟩ : ∃ x, x = dk1[a]! := ⟨_, rfl⟩
        have l158a := SU1.out.ld R (by omega) P (p1) (by omega)
        have l158b := SU1.out.ld R (by omega) P (a) (by omega)
        rw [← hx158] at l158a
        rw [← hy158] at l158b
        have hc158 := SU1.out.cmp HC.out (by omega) x158 y158
        have hv158 : ¬ cf x158 y158 < 0 := by rw [hx158, hy158]; exact of_decide_eq_false hlv1
        have hd158 : decide (cf x158 y158 < 0) = false := decide_eq_false hv158
        clear hx158 hy158
        go_wp2_with fail
        go_quiet_grown (first | (go_at_fn g; refine Calls.grown_of (hc158 _ _)))
        have SV1 : Aside (SWK enc k w0 blk off dk1 (grow (wr.drewN nq) osq)) := SU1.out.grown nq osq
        clear l158a l158b hc158 SU1
        generalize grow (wr.drewN nq) osq = wv1 at SV1 ⊢
        clear nq osq
        go_wp2
        go_loopw [13] (fun vj w2 => ∃ (q1 : Nat), vj = .int .i64 q1 ∧ q1 ≤ j1 ∧ p1 ≤ q1 + 1 ∧ Aside (SWK enc k w0 blk off dk1 w2) ∧
            Hid (Sort.scanDown (fun x => !(ltOf cf) x dk1[a]!) dk1 p1 q1 = Sort.scanDown (fun x => !(ltOf cf) x dk1[a]!) dk1 p1 j1))
          (fun vj _ => (intOf vj).toNat)
        case atStart => exact ⟨j1, rfl, Nat.le_refl _, hij'1, SV1, rfl⟩
        case round =>
          clear SV1
          obtain ⟨q1, rfl, hjj1, hij21, SD1, hsd1⟩ := hrel
          by_cases hle21 : p1 ≤ q1
          · have hgd1 : decide ((p1 : Int) ≤ (q1 : Int)) = true := decide_eq_true (by omega)
            cases hlv21 : (ltOf cf) dk1[q1]! dk1[a]! with
            | false =>
              have ea159 : ((q1 : Int)).toNat = q1 := by omega
              have pa159 : (0 : Int) ≤ (q1 : Int) := by omega
              have ba159 : (q1 : Int) < (d.size : Int) := by omega
              have ra159 : IntKind.i64.wrap ((q1 : Int)) = (q1 : Int) := by rw [IntKind.wrap_i64]; omega
              have ec159 : ((a : Int)).toNat = a := by omega
              have pc159 : (0 : Int) ≤ (a : Int) := by omega
              have bc159 : (a : Int) < (d.size : Int) := by omega
              have rc159 : IntKind.i64.wrap ((a : Int)) = (a : Int) := by rw [IntKind.wrap_i64]; omega
              obtain ⟨x159, hx159⟩ : ∃ x, x = dk1[q1]! := ⟨_, rfl⟩
              obtain ⟨y159, hy159⟩ : ∃ x, x = dk1[a]! := ⟨_, rfl⟩
              have l159a := SD1.out.ld R (by omega) P (q1) (by omega)
              have l159b := SD1.out.ld R (by omega) P (a) (by omega)
              rw [← hx159] at l159a
              rw [← hy159] at l159b
              have hc159 := SD1.out.cmp HC.out (by omega) x159 y159
              have hv159 : ¬ cf x159 y159 < 0 := by rw [hx159, hy159]; exact of_decide_eq_false hlv21
              have hd159 : decide (cf x159 y159 < 0) = false := decide_eq_false hv159
              clear hx159 hy159
              go_wp2_with fail
              go_quiet_grown (first | (go_at_fn g; refine Calls.grown_of (hc159 _ _)))
              have SE1 : Aside (SWK enc k w0 blk off dk1 (grow (wr.drewN nq) osq)) := SD1.out.grown nq osq
              clear l159a l159b hc159 SD1
              generalize grow (wr.drewN nq) osq = we1 at SE1 ⊢
              clear nq osq
              go_wp2
              go_roundw
              case rel => exact ⟨q1 - 1, by go_num, by omega, by omega, SE1, (scanDown_go (fun x => !(ltOf cf) x dk1[a]!) dk1 p1 q1 hle21 (by omega) (by simp [hlv21])).symm.trans hsd1.out⟩
              case measure => simp [intOf]; omega
            | true =>
              have hj21 : Hid (q1 = Sort.scanDown (fun x => !(ltOf cf) x dk1[a]!) dk1 p1 j1) := (scanDown_end (fun x => !(ltOf cf) x dk1[a]!) dk1 p1 q1 (Or.inr (by simp [hlv21]))).symm.trans hsd1.out
              have hlt31 := part_scans_lt (ltOf cf) a i1 j1 dk1 (by omega) hi21.out hj21.out hle21
              have hgt1 : decide ((q1 : Int) < (p1 : Int)) = false := decide_eq_false (by omega)
              have hgn1 : decide (q1 < p1) = false := decide_eq_false (by omega)
              clear hsd1
              have ea160 : ((q1 : Int)).toNat = q1 := by omega
              have pa160 : (0 : Int) ≤ (q1 : Int) := by omega
              have ba160 : (q1 : Int) < (d.size : Int) := by omega
              have ra160 : IntKind.i64.wrap ((q1 : Int)) = (q1 : Int) := by rw [IntKind.wrap_i64]; omega
              have ec160 : ((a : Int)).toNat = a := by omega
              have pc160 : (0 : Int) ≤ (a : Int) := by omega
              have bc160 : (a : Int) < (d.size : Int) := by omega
              have rc160 : IntKind.i64.wrap ((a : Int)) = (a : Int) := by rw [IntKind.wrap_i64]; omega
              obtain ⟨x160, hx160⟩ : ∃ x, x = dk1[q1]! := ⟨_, rfl⟩
              obtain ⟨y160, hy160⟩ : ∃ x, x = dk1[a]! := ⟨_, rfl⟩
              have l160a := SD1.out.ld R (by omega) P (q1) (by omega)
              have l160b := SD1.out.ld R (by omega) P (a) (by omega)
              rw [← hx160] at l160a
              rw [← hy160] at l160b
              have hc160 := SD1.out.cmp HC.out (by omega) x160 y160
              have hv160 : cf x160 y160 < 0 := by rw [hx160, hy160]; exact of_decide_eq_true hlv21
              have hd160 : decide (cf x160 y160 < 0) = true := decide_eq_true hv160
              clear hx160 hy160
              go_wp2_with fail
              go_quiet_grown (first | (go_at_fn g; refine Calls.grown_of (hc160 _ _)))
              have SE1 : Aside (SWK enc k w0 blk off dk1 (grow (wr.drewN nq) osq)) := SD1.out.grown nq osq
              clear l160a l160b hc160 SD1
              generalize grow (wr.drewN nq) osq = we1 at SE1 ⊢
              clear nq osq
              go_wp2_with fail
              have ea161 : ((p1 : Int)).toNat = p1 := by omega
              have pa161 : (0 : Int) ≤ (p1 : Int) := by omega
              have ba161 : (p1 : Int) < (d.size : Int) := by omega
              have ra161 : IntKind.i64.wrap ((p1 : Int)) = (p1 : Int) := by rw [IntKind.wrap_i64]; omega
              have ec161 : ((q1 : Int)).toNat = q1 := by omega
              have pc161 : (0 : Int) ≤ (q1 : Int) := by omega
              have bc161 : (q1 : Int) < (d.size : Int) := by omega
              have rc161 : IntKind.i64.wrap ((q1 : Int)) = (q1 : Int) := by rw [IntKind.wrap_i64]; omega
              have SF1 : Aside (SWK enc k w0 blk off (swp dk1 (p1) (q1)) ((we1.drew.setCells blk (off + (p1) * k) (enc dk1[q1]!)).setCells blk (off + (q1) * k) (enc dk1[p1]!))) := SE1.out.swapped R (p1) (q1) (by omega) (by omega)
              have l161a := SE1.out.ld1 R (by omega) P (p1) (by omega)
              have l161b := SE1.out.ld1 R (by omega) P (q1) (by omega)
              have s161a := SE1.out.st1 R (by omega) P (p1) (by omega) dk1[q1]!
              have s161b := SE1.out.st2 R (by omega) P (p1) (q1) (by omega) (by omega) dk1[q1]! dk1[p1]!
              have n161a : (enc dk1[p1]!).length = k := R.hk _
              have n161b : (enc dk1[q1]!).length = k := R.hk _
              generalize enc dk1[p1]! = cI161 at SF1 l161a s161b n161a
              generalize enc dk1[q1]! = cJ161 at SF1 l161b s161a s161b n161b
              clear SE1
              go_wp2_with fail
              go_big_region_o
              clear l161a l161b s161a s161b
              generalize (we1.drew.setCells blk (off + (p1) * k) cJ161).setCells blk (off + (q1) * k) cI161 = wf1 at SF1 ⊢
              go_wp2
              obtain ⟨I0, hI0⟩ : ∃ I0 : Nat, I0 = p1 + 1 := ⟨_, rfl⟩
              obtain ⟨J0, hJ0⟩ : ∃ J0 : Nat, J0 = q1 - 1 := ⟨_, rfl⟩
              obtain ⟨D0, hD0⟩ : ∃ D0 : Array α, D0 = Sort.swp dk1 p1 q1 := ⟨_, rfl⟩
              have PF : Hid (Sort.partition (ltOf cf) d a b pivot = ((Sort.partLoop (ltOf cf) a I0 J0 D0).1, false, Sort.swp (Sort.partLoop (ltOf cf) a I0 J0 D0).2 (Sort.partLoop (ltOf cf) a I0 J0 D0).1 a)) := by
                rw [hI0, hJ0, hD0]; exact part_first_go (ltOf cf) d a b pivot Hi.out Hj.out Hdk.out hi21.out hj21.out (by omega)
              go_loopw [12, 13] (fun vi vj wr => ∃ (i2 j2 : Nat) (dk2 : Array α), vi = .int .i64 i2 ∧ vj = .int .i64 j2 ∧ a < i2 ∧ i2 ≤ j2 + 1 ∧ j2 < b ∧ dk2.size = d.size ∧ Aside (SWK enc k w0 blk off dk2 wr) ∧
                  Sort.partLoop (ltOf cf) a i2 j2 dk2 = Sort.partLoop (ltOf cf) a I0 J0 D0)
                (fun vi vj _ => (intOf vj).toNat + 1 - (intOf vi).toNat)
              case atStart => exact ⟨p1 + 1, q1 - 1, Sort.swp dk1 p1 q1, by go_num, by go_num, by omega, by omega, by omega, by rw [size_swp]; exact hs1, SF1, by rw [hI0, hJ0, hD0]⟩
              case round =>
                clear SF1 hI0 hJ0 hD0 hj21 hi21 hlt31 Hi Hj Hdk
                obtain ⟨i2, j2, dk2, rfl, rfl, hai2, hij2, hjb2, hs2, T1, heq⟩ := hrel
                have AE : Hid (Sort.partLoop (ltOf cf) a i2 j2 dk2 = Sort.partLoop (ltOf cf) a I0 J0 D0) := heq
                clear heq
                go_wp2
                go_loopw [12] (fun vi w1 => ∃ (p2 : Nat), vi = .int .i64 p2 ∧ i2 ≤ p2 ∧ p2 ≤ j2 + 1 ∧ Aside (SWK enc k w0 blk off dk2 w1) ∧
                    Hid (Sort.scanUp (fun x => (ltOf cf) x dk2[a]!) dk2 j2 p2 = Sort.scanUp (fun x => (ltOf cf) x dk2[a]!) dk2 j2 i2))
                  (fun vi _ => j2 + 1 - (intOf vi).toNat)
                case atStart => exact ⟨i2, rfl, Nat.le_refl _, hij2, T1, rfl⟩
                case round =>
                  clear T1
                  obtain ⟨p2, rfl, hii2, hij'2, SU2, hsc2⟩ := hrel
                  by_cases hle2 : p2 ≤ j2
                  · have hgu2 : decide ((p2 : Int) ≤ (j2 : Int)) = true := decide_eq_true (by omega)
                    cases hlv2 : (ltOf cf) dk2[p2]! dk2[a]! with
                    | true =>
                      have ea150 : ((p2 : Int)).toNat = p2 := by omega
                      have pa150 : (0 : Int) ≤ (p2 : Int) := by omega
                      have ba150 : (p2 : Int) < (d.size : Int) := by omega
                      have ra150 : IntKind.i64.wrap ((p2 : Int)) = (p2 : Int) := by rw [IntKind.wrap_i64]; omega
                      have ec150 : ((a : Int)).toNat = a := by omega
                      have pc150 : (0 : Int) ≤ (a : Int) := by omega
                      have bc150 : (a : Int) < (d.size : Int) := by omega
                      have rc150 : IntKind.i64.wrap ((a : Int)) = (a : Int) := by rw [IntKind.wrap_i64]; omega
                      obtain ⟨x150, hx150⟩ : ∃ x, x = dk2[p2]! := ⟨_, rfl⟩
                      obtain ⟨y150, hy150⟩ : ∃ x, x = dk2[a]! := ⟨_, rfl⟩
                      have l150a := SU2.out.ld R (by omega) P (p2) (by omega)
                      have l150b := SU2.out.ld R (by omega) P (a) (by omega)
                      rw [← hx150] at l150a
                      rw [← hy150] at l150b
                      have hc150 := SU2.out.cmp HC.out (by omega) x150 y150
                      have hv150 : cf x150 y150 < 0 := by rw [hx150, hy150]; exact of_decide_eq_true hlv2
                      have hd150 : decide (cf x150 y150 < 0) = true := decide_eq_true hv150
                      clear hx150 hy150
                      go_wp2_with fail
                      go_quiet_grown (first | (go_at_fn g; refine Calls.grown_of (hc150 _ _)))
                      have SV2 : Aside (SWK enc k w0 blk off dk2 (grow (wr.drewN nq) osq)) := SU2.out.grown nq osq
                      clear l150a l150b hc150 SU2
                      generalize grow (wr.drewN nq) osq = wv2 at SV2 ⊢
                      clear nq osq
                      go_wp2
                      go_roundw
                      case rel => exact ⟨p2 + 1, by go_num, by omega, by omega, SV2, (scanUp_go (fun x => (ltOf cf) x dk2[a]!) dk2 j2 p2 hle2 hlv2).symm.trans hsc2.out⟩
                      case measure => simp [intOf]; omega
                    | false =>
                      have hi22 : Hid (p2 = Sort.scanUp (fun x => (ltOf cf) x dk2[a]!) dk2 j2 i2) := (scanUp_end (fun x => (ltOf cf) x dk2[a]!) dk2 j2 p2 (Or.inr hlv2)).symm.trans hsc2.out
                      clear hsc2
                      have ea151 : ((p2 : Int)).toNat = p2 := by omega
                      have pa151 : (0 : Int) ≤ (p2 : Int) := by omega
                      have ba151 : (p2 : Int) < (d.size : Int) := by omega
                      have ra151 : IntKind.i64.wrap ((p2 : Int)) = (p2 : Int) := by rw [IntKind.wrap_i64]; omega
                      have ec151 : ((a : Int)).toNat = a := by omega
                      have pc151 : (0 : Int) ≤ (a : Int) := by omega
                      have bc151 : (a : Int) < (d.size : Int) := by omega
                      have rc151 : IntKind.i64.wrap ((a : Int)) = (a : Int) := by rw [IntKind.wrap_i64]; omega
                      obtain ⟨x151, hx151⟩ : ∃ x, x = dk2[p2]! := ⟨_, rfl⟩
                      obtain ⟨y151, hy151⟩ : ∃ x, x = dk2[a]! := ⟨_, rfl⟩
                      have l151a := SU2.out.ld R (by omega) P (p2) (by omega)
                      have l151b := SU2.out.ld R (by omega) P (a) (by omega)
                      rw [← hx151] at l151a
                      rw [← hy151] at l151b
                      have hc151 := SU2.out.cmp HC.out (by omega) x151 y151
                      have hv151 : ¬ cf x151 y151 < 0 := by rw [hx151, hy151]; exact of_decide_eq_false hlv2
                      have hd151 : decide (cf x151 y151 < 0) = false := decide_eq_false hv151
                      clear hx151 hy151
                      go_wp2_with fail
                      go_quiet_grown (first | (go_at_fn g; refine Calls.grown_of (hc151 _ _)))
                      have SV2 : Aside (SWK enc k w0 blk off dk2 (grow (wr.drewN nq) osq)) := SU2.out.grown nq osq
                      clear l151a l151b hc151 SU2
                      generalize grow (wr.drewN nq) osq = wv2 at SV2 ⊢
                      clear nq osq
                      go_wp2
                      go_loopw [13] (fun vj w2 => ∃ (q2 : Nat), vj = .int .i64 q2 ∧ q2 ≤ j2 ∧ p2 ≤ q2 + 1 ∧ Aside (SWK enc k w0 blk off dk2 w2) ∧
                          Hid (Sort.scanDown (fun x => !(ltOf cf) x dk2[a]!) dk2 p2 q2 = Sort.scanDown (fun x => !(ltOf cf) x dk2[a]!) dk2 p2 j2))
                        (fun vj _ => (intOf vj).toNat)
                      case atStart => exact ⟨j2, rfl, Nat.le_refl _, hij'2, SV2, rfl⟩
                      case round =>
                        clear SV2
                        obtain ⟨q2, rfl, hjj2, hij22, SD2, hsd2⟩ := hrel
                        by_cases hle22 : p2 ≤ q2
                        · have hgd2 : decide ((p2 : Int) ≤ (q2 : Int)) = true := decide_eq_true (by omega)
                          cases hlv22 : (ltOf cf) dk2[q2]! dk2[a]! with
                          | false =>
                            have ea152 : ((q2 : Int)).toNat = q2 := by omega
                            have pa152 : (0 : Int) ≤ (q2 : Int) := by omega
                            have ba152 : (q2 : Int) < (d.size : Int) := by omega
                            have ra152 : IntKind.i64.wrap ((q2 : Int)) = (q2 : Int) := by rw [IntKind.wrap_i64]; omega
                            have ec152 : ((a : Int)).toNat = a := by omega
                            have pc152 : (0 : Int) ≤ (a : Int) := by omega
                            have bc152 : (a : Int) < (d.size : Int) := by omega
                            have rc152 : IntKind.i64.wrap ((a : Int)) = (a : Int) := by rw [IntKind.wrap_i64]; omega
                            obtain ⟨x152, hx152⟩ : ∃ x, x = dk2[q2]! := ⟨_, rfl⟩
                            obtain ⟨y152, hy152⟩ : ∃ x, x = dk2[a]! := ⟨_, rfl⟩
                            have l152a := SD2.out.ld R (by omega) P (q2) (by omega)
                            have l152b := SD2.out.ld R (by omega) P (a) (by omega)
                            rw [← hx152] at l152a
                            rw [← hy152] at l152b
                            have hc152 := SD2.out.cmp HC.out (by omega) x152 y152
                            have hv152 : ¬ cf x152 y152 < 0 := by rw [hx152, hy152]; exact of_decide_eq_false hlv22
                            have hd152 : decide (cf x152 y152 < 0) = false := decide_eq_false hv152
                            clear hx152 hy152
                            go_wp2_with fail
                            go_quiet_grown (first | (go_at_fn g; refine Calls.grown_of (hc152 _ _)))
                            have SE2 : Aside (SWK enc k w0 blk off dk2 (grow (wr.drewN nq) osq)) := SD2.out.grown nq osq
                            clear l152a l152b hc152 SD2
                            generalize grow (wr.drewN nq) osq = we2 at SE2 ⊢
                            clear nq osq
                            go_wp2
                            go_roundw
                            case rel => exact ⟨q2 - 1, by go_num, by omega, by omega, SE2, (scanDown_go (fun x => !(ltOf cf) x dk2[a]!) dk2 p2 q2 hle22 (by omega) (by simp [hlv22])).symm.trans hsd2.out⟩
                            case measure => simp [intOf]; omega
                          | true =>
                            have hj22 : Hid (q2 = Sort.scanDown (fun x => !(ltOf cf) x dk2[a]!) dk2 p2 j2) := (scanDown_end (fun x => !(ltOf cf) x dk2[a]!) dk2 p2 q2 (Or.inr (by simp [hlv22]))).symm.trans hsd2.out
                            have hlt32 := part_scans_lt (ltOf cf) a i2 j2 dk2 (by omega) hi22.out hj22.out hle22
                            have hgt2 : decide ((q2 : Int) < (p2 : Int)) = false := decide_eq_false (by omega)
                            have hgn2 : decide (q2 < p2) = false := decide_eq_false (by omega)
                            clear hsd2
                            have ea153 : ((q2 : Int)).toNat = q2 := by omega
                            have pa153 : (0 : Int) ≤ (q2 : Int) := by omega
                            have ba153 : (q2 : Int) < (d.size : Int) := by omega
                            have ra153 : IntKind.i64.wrap ((q2 : Int)) = (q2 : Int) := by rw [IntKind.wrap_i64]; omega
                            have ec153 : ((a : Int)).toNat = a := by omega
                            have pc153 : (0 : Int) ≤ (a : Int) := by omega
                            have bc153 : (a : Int) < (d.size : Int) := by omega
                            have rc153 : IntKind.i64.wrap ((a : Int)) = (a : Int) := by rw [IntKind.wrap_i64]; omega
                            obtain ⟨x153, hx153⟩ : ∃ x, x = dk2[q2]! := ⟨_, rfl⟩
                            obtain ⟨y153, hy153⟩ : ∃ x, x = dk2[a]! := ⟨_, rfl⟩
                            have l153a := SD2.out.ld R (by omega) P (q2) (by omega)
                            have l153b := SD2.out.ld R (by omega) P (a) (by omega)
                            rw [← hx153] at l153a
                            rw [← hy153] at l153b
                            have hc153 := SD2.out.cmp HC.out (by omega) x153 y153
                            have hv153 : cf x153 y153 < 0 := by rw [hx153, hy153]; exact of_decide_eq_true hlv22
                            have hd153 : decide (cf x153 y153 < 0) = true := decide_eq_true hv153
                            clear hx153 hy153
                            go_wp2_with fail
                            go_quiet_grown (first | (go_at_fn g; refine Calls.grown_of (hc153 _ _)))
                            have SE2 : Aside (SWK enc k w0 blk off dk2 (grow (wr.drewN nq) osq)) := SD2.out.grown nq osq
                            clear l153a l153b hc153 SD2
                            generalize grow (wr.drewN nq) osq = we2 at SE2 ⊢
                            clear nq osq
                            go_wp2_with fail
                            have ea154 : ((p2 : Int)).toNat = p2 := by omega
                            have pa154 : (0 : Int) ≤ (p2 : Int) := by omega
                            have ba154 : (p2 : Int) < (d.size : Int) := by omega
                            have ra154 : IntKind.i64.wrap ((p2 : Int)) = (p2 : Int) := by rw [IntKind.wrap_i64]; omega
                            have ec154 : ((q2 : Int)).toNat = q2 := by omega
                            have pc154 : (0 : Int) ≤ (q2 : Int) := by omega
                            have bc154 : (q2 : Int) < (d.size : Int) := by omega
                            have rc154 : IntKind.i64.wrap ((q2 : Int)) = (q2 : Int) := by rw [IntKind.wrap_i64]; omega
                            have SF2 : Aside (SWK enc k w0 blk off (swp dk2 (p2) (q2)) ((we2.drew.setCells blk (off + (p2) * k) (enc dk2[q2]!)).setCells blk (off + (q2) * k) (enc dk2[p2]!))) := SE2.out.swapped R (p2) (q2) (by omega) (by omega)
                            have l154a := SE2.out.ld1 R (by omega) P (p2) (by omega)
                            have l154b := SE2.out.ld1 R (by omega) P (q2) (by omega)
                            have s154a := SE2.out.st1 R (by omega) P (p2) (by omega) dk2[q2]!
                            have s154b := SE2.out.st2 R (by omega) P (p2) (q2) (by omega) (by omega) dk2[q2]! dk2[p2]!
                            have n154a : (enc dk2[p2]!).length = k := R.hk _
                            have n154b : (enc dk2[q2]!).length = k := R.hk _
                            generalize enc dk2[p2]! = cI154 at SF2 l154a s154b n154a
                            generalize enc dk2[q2]! = cJ154 at SF2 l154b s154a s154b n154b
                            clear SE2
                            go_wp2_with fail
                            go_big_region_o
                            clear l154a l154b s154a s154b
                            generalize (we2.drew.setCells blk (off + (p2) * k) cJ154).setCells blk (off + (q2) * k) cI154 = wf2 at SF2 ⊢
                            go_wp2
                            go_roundw
                            case rel =>
                              refine ⟨p2 + 1, q2 - 1, Sort.swp dk2 p2 q2, by go_num, by go_num, by omega, by omega, by omega, by rw [size_swp]; exact hs2, SF2, ?_⟩
                              rw [← AE.out]; exact (part_go (ltOf cf) a i2 j2 dk2 hi22.out hj22.out (by omega)).symm
                            case measure => simp [intOf]; omega
                        ·
                          have hj22 : Hid (q2 = Sort.scanDown (fun x => !(ltOf cf) x dk2[a]!) dk2 p2 j2) := (scanDown_end (fun x => !(ltOf cf) x dk2[a]!) dk2 p2 q2 (Or.inl hle22)).symm.trans hsd2.out
                          have hgd2 : decide ((p2 : Int) ≤ (q2 : Int)) = false := decide_eq_false (by omega)
                          have hgt2 : decide ((q2 : Int) < (p2 : Int)) = true := decide_eq_true (by omega)
                          have hgn2 : decide (q2 < p2) = true := decide_eq_true (by omega)
                          clear hsd2
                          go_wp2_with fail
                          go_big_region_o
                          have SE2 : Aside (SWK enc k w0 blk off dk2 wr.drew) := SD2.out.drew
                          clear SD2
                          generalize wr.drew = we2 at SE2 ⊢
                          go_wp2_with fail
                          have ea155 : ((q2 : Int)).toNat = q2 := by omega
                          have pa155 : (0 : Int) ≤ (q2 : Int) := by omega
                          have ba155 : (q2 : Int) < (d.size : Int) := by omega
                          have ra155 : IntKind.i64.wrap ((q2 : Int)) = (q2 : Int) := by rw [IntKind.wrap_i64]; omega
                          have ec155 : ((a : Int)).toNat = a := by omega
                          have pc155 : (0 : Int) ≤ (a : Int) := by omega
                          have bc155 : (a : Int) < (d.size : Int) := by omega
                          have rc155 : IntKind.i64.wrap ((a : Int)) = (a : Int) := by rw [IntKind.wrap_i64]; omega
                          have SF2 : Aside (SWK enc k w0 blk off (swp dk2 (q2) (a)) ((we2.drew.setCells blk (off + (q2) * k) (enc dk2[a]!)).setCells blk (off + (a) * k) (enc dk2[q2]!))) := SE2.out.swapped R (q2) (a) (by omega) (by omega)
                          have l155a := SE2.out.ld1 R (by omega) P (q2) (by omega)
                          have l155b := SE2.out.ld1 R (by omega) P (a) (by omega)
                          have s155a := SE2.out.st1 R (by omega) P (q2) (by omega) dk2[a]!
                          have s155b := SE2.out.st2 R (by omega) P (q2) (a) (by omega) (by omega) dk2[a]! dk2[q2]!
                          have n155a : (enc dk2[q2]!).length = k := R.hk _
                          have n155b : (enc dk2[a]!).length = k := R.hk _
                          generalize enc dk2[q2]! = cI155 at SF2 l155a s155b n155a
                          generalize enc dk2[a]! = cJ155 at SF2 l155b s155a s155b n155b
                          clear SE2
                          go_wp2_with fail
                          go_big_region_o
                          clear l155a l155b s155a s155b
                          generalize (we2.drew.setCells blk (off + (q2) * k) cJ155).setCells blk (off + (a) * k) cI155 = wf2 at SF2 ⊢
                          go_wp2
                          go_ret2
                          have e := part_break (ltOf cf) a i2 j2 dk2 hi22.out hj22.out (by omega)
                          rw [PF.out, ← AE.out, e]
                          exact ⟨rfl, SF2.out⟩
                  ·
                    have hi22 : Hid (p2 = Sort.scanUp (fun x => (ltOf cf) x dk2[a]!) dk2 j2 i2) := (scanUp_end (fun x => (ltOf cf) x dk2[a]!) dk2 j2 p2 (Or.inl hle2)).symm.trans hsc2.out
                    have hgu2 : decide ((p2 : Int) ≤ (j2 : Int)) = false := decide_eq_false (by omega)
                    clear hsc2
                    go_wp2_with fail
                    go_big_region_o
                    have SV2 : Aside (SWK enc k w0 blk off dk2 wr.drew) := SU2.out.drew
                    clear SU2
                    generalize wr.drew = wv2 at SV2 ⊢
                    go_wp2
                    go_loopw [13] (fun vj w2 => ∃ (q2 : Nat), vj = .int .i64 q2 ∧ q2 ≤ j2 ∧ p2 ≤ q2 + 1 ∧ Aside (SWK enc k w0 blk off dk2 w2) ∧
                        Hid (Sort.scanDown (fun x => !(ltOf cf) x dk2[a]!) dk2 p2 q2 = Sort.scanDown (fun x => !(ltOf cf) x dk2[a]!) dk2 p2 j2))
                      (fun vj _ => (intOf vj).toNat)
                    case atStart => exact ⟨j2, rfl, Nat.le_refl _, hij'2, SV2, rfl⟩
                    case round =>
                      clear SV2
                      obtain ⟨q2, rfl, hjj2, hij22, SD2, hsd2⟩ := hrel
                      by_cases hle22 : p2 ≤ q2
                      · exfalso; omega
                      ·
                        have hj22 : Hid (q2 = Sort.scanDown (fun x => !(ltOf cf) x dk2[a]!) dk2 p2 j2) := (scanDown_end (fun x => !(ltOf cf) x dk2[a]!) dk2 p2 q2 (Or.inl hle22)).symm.trans hsd2.out
                        have hgd2 : decide ((p2 : Int) ≤ (q2 : Int)) = false := decide_eq_false (by omega)
                        have hgt2 : decide ((q2 : Int) < (p2 : Int)) = true := decide_eq_true (by omega)
                        have hgn2 : decide (q2 < p2) = true := decide_eq_true (by omega)
                        clear hsd2
                        go_wp2_with fail
                        go_big_region_o
                        have SE2 : Aside (SWK enc k w0 blk off dk2 wr.drew) := SD2.out.drew
                        clear SD2
                        generalize wr.drew = we2 at SE2 ⊢
                        go_wp2_with fail
                        have ea156 : ((q2 : Int)).toNat = q2 := by omega
                        have pa156 : (0 : Int) ≤ (q2 : Int) := by omega
                        have ba156 : (q2 : Int) < (d.size : Int) := by omega
                        have ra156 : IntKind.i64.wrap ((q2 : Int)) = (q2 : Int) := by rw [IntKind.wrap_i64]; omega
                        have ec156 : ((a : Int)).toNat = a := by omega
                        have pc156 : (0 : Int) ≤ (a : Int) := by omega
                        have bc156 : (a : Int) < (d.size : Int) := by omega
                        have rc156 : IntKind.i64.wrap ((a : Int)) = (a : Int) := by rw [IntKind.wrap_i64]; omega
                        have SF2 : Aside (SWK enc k w0 blk off (swp dk2 (q2) (a)) ((we2.drew.setCells blk (off + (q2) * k) (enc dk2[a]!)).setCells blk (off + (a) * k) (enc dk2[q2]!))) := SE2.out.swapped R (q2) (a) (by omega) (by omega)
                        have l156a := SE2.out.ld1 R (by omega) P (q2) (by omega)
                        have l156b := SE2.out.ld1 R (by omega) P (a) (by omega)
                        have s156a := SE2.out.st1 R (by omega) P (q2) (by omega) dk2[a]!
                        have s156b := SE2.out.st2 R (by omega) P (q2) (a) (by omega) (by omega) dk2[a]! dk2[q2]!
                        have n156a : (enc dk2[q2]!).length = k := R.hk _
                        have n156b : (enc dk2[a]!).length = k := R.hk _
                        generalize enc dk2[q2]! = cI156 at SF2 l156a s156b n156a
                        generalize enc dk2[a]! = cJ156 at SF2 l156b s156a s156b n156b
                        clear SE2
                        go_wp2_with fail
                        go_big_region_o
                        clear l156a l156b s156a s156b
                        generalize (we2.drew.setCells blk (off + (q2) * k) cJ156).setCells blk (off + (a) * k) cI156 = wf2 at SF2 ⊢
                        go_wp2
                        go_ret2
                        have e := part_break (ltOf cf) a i2 j2 dk2 hi22.out hj22.out (by omega)
                        rw [PF.out, ← AE.out, e]
                        exact ⟨rfl, SF2.out⟩
          ·
            have hj21 : Hid (q1 = Sort.scanDown (fun x => !(ltOf cf) x dk1[a]!) dk1 p1 j1) := (scanDown_end (fun x => !(ltOf cf) x dk1[a]!) dk1 p1 q1 (Or.inl hle21)).symm.trans hsd1.out
            have hgd1 : decide ((p1 : Int) ≤ (q1 : Int)) = false := decide_eq_false (by omega)
            have hgt1 : decide ((q1 : Int) < (p1 : Int)) = true := decide_eq_true (by omega)
            have hgn1 : decide (q1 < p1) = true := decide_eq_true (by omega)
            clear hsd1
            go_wp2_with fail
            go_big_region_o
            have SE1 : Aside (SWK enc k w0 blk off dk1 wr.drew) := SD1.out.drew
            clear SD1
            generalize wr.drew = we1 at SE1 ⊢
            go_wp2_with fail
            have ea162 : ((q1 : Int)).toNat = q1 := by omega
            have pa162 : (0 : Int) ≤ (q1 : Int) := by omega
            have ba162 : (q1 : Int) < (d.size : Int) := by omega
            have ra162 : IntKind.i64.wrap ((q1 : Int)) = (q1 : Int) := by rw [IntKind.wrap_i64]; omega
            have ec162 : ((a : Int)).toNat = a := by omega
            have pc162 : (0 : Int) ≤ (a : Int) := by omega
            have bc162 : (a : Int) < (d.size : Int) := by omega
            have rc162 : IntKind.i64.wrap ((a : Int)) = (a : Int) := by rw [IntKind.wrap_i64]; omega
            have SF1 : Aside (SWK enc k w0 blk off (swp dk1 (q1) (a)) ((we1.drew.setCells blk (off + (q1) * k) (enc dk1[a]!)).setCells blk (off + (a) * k) (enc dk1[q1]!))) := SE1.out.swapped R (q1) (a) (by omega) (by omega)
            have l162a := SE1.out.ld1 R (by omega) P (q1) (by omega)
            have l162b := SE1.out.ld1 R (by omega) P (a) (by omega)
            have s162a := SE1.out.st1 R (by omega) P (q1) (by omega) dk1[a]!
            have s162b := SE1.out.st2 R (by omega) P (q1) (a) (by omega) (by omega) dk1[a]! dk1[q1]!
            have n162a : (enc dk1[q1]!).length = k := R.hk _
            have n162b : (enc dk1[a]!).length = k := R.hk _
            generalize enc dk1[q1]! = cI162 at SF1 l162a s162b n162a
            generalize enc dk1[a]! = cJ162 at SF1 l162b s162a s162b n162b
            clear SE1
            go_wp2_with fail
            go_big_region_o
            clear l162a l162b s162a s162b
            generalize (we1.drew.setCells blk (off + (q1) * k) cJ162).setCells blk (off + (a) * k) cI162 = wf1 at SF1 ⊢
            go_wp2
            go_ret2
            have e := part_first_break (ltOf cf) d a b pivot Hi.out Hj.out Hdk.out hi21.out hj21.out (by omega)
            rw [e]
            exact ⟨rfl, SF1.out⟩
    ·
      have hi21 : Hid (p1 = Sort.scanUp (fun x => (ltOf cf) x dk1[a]!) dk1 j1 i1) := (scanUp_end (fun x => (ltOf cf) x dk1[a]!) dk1 j1 p1 (Or.inl hle1)).symm.trans hsc1.out
      have hgu1 : decide ((p1 : Int) ≤ (j1 : Int)) = false := decide_eq_false (by omega)
      clear hsc1
      go_wp2_with fail
      go_big_region_o
      have SV1 : Aside (SWK enc k w0 blk off dk1 wr.drew) := SU1.out.drew
      clear SU1
      generalize wr.drew = wv1 at SV1 ⊢
      go_wp2
      go_loopw [13] (fun vj w2 => ∃ (q1 : Nat), vj = .int .i64 q1 ∧ q1 ≤ j1 ∧ p1 ≤ q1 + 1 ∧ Aside (SWK enc k w0 blk off dk1 w2) ∧
          Hid (Sort.scanDown (fun x => !(ltOf cf) x dk1[a]!) dk1 p1 q1 = Sort.scanDown (fun x => !(ltOf cf) x dk1[a]!) dk1 p1 j1))
        (fun vj _ => (intOf vj).toNat)
      case atStart => exact ⟨j1, rfl, Nat.le_refl _, hij'1, SV1, rfl⟩
      case round =>
        clear SV1
        obtain ⟨q1, rfl, hjj1, hij21, SD1, hsd1⟩ := hrel
        by_cases hle21 : p1 ≤ q1
        · exfalso; omega
        ·
          have hj21 : Hid (q1 = Sort.scanDown (fun x => !(ltOf cf) x dk1[a]!) dk1 p1 j1) := (scanDown_end (fun x => !(ltOf cf) x dk1[a]!) dk1 p1 q1 (Or.inl hle21)).symm.trans hsd1.out
          have hgd1 : decide ((p1 : Int) ≤ (q1 : Int)) = false := decide_eq_false (by omega)
          have hgt1 : decide ((q1 : Int) < (p1 : Int)) = true := decide_eq_true (by omega)
          have hgn1 : decide (q1 < p1) = true := decide_eq_true (by omega)
          clear hsd1
          go_wp2_with fail
          go_big_region_o
          have SE1 : Aside (SWK enc k w0 blk off dk1 wr.drew) := SD1.out.drew
          clear SD1
          generalize wr.drew = we1 at SE1 ⊢
          go_wp2_with fail
          have ea163 : ((q1 : Int)).toNat = q1 := by omega
          have pa163 : (0 : Int) ≤ (q1 : Int) := by omega
          have ba163 : (q1 : Int) < (d.size : Int) := by omega
          have ra163 : IntKind.i64.wrap ((q1 : Int)) = (q1 : Int) := by rw [IntKind.wrap_i64]; omega
          have ec163 : ((a : Int)).toNat = a := by omega
          have pc163 : (0 : Int) ≤ (a : Int) := by omega
          have bc163 : (a : Int) < (d.size : Int) := by omega
          have rc163 : IntKind.i64.wrap ((a : Int)) = (a : Int) := by rw [IntKind.wrap_i64]; omega
          have SF1 : Aside (SWK enc k w0 blk off (swp dk1 (q1) (a)) ((we1.drew.setCells blk (off + (q1) * k) (enc dk1[a]!)).setCells blk (off + (a) * k) (enc dk1[q1]!))) := SE1.out.swapped R (q1) (a) (by omega) (by omega)
          have l163a := SE1.out.ld1 R (by omega) P (q1) (by omega)
          have l163b := SE1.out.ld1 R (by omega) P (a) (by omega)
          have s163a := SE1.out.st1 R (by omega) P (q1) (by omega) dk1[a]!
          have s163b := SE1.out.st2 R (by omega) P (q1) (a) (by omega) (by omega) dk1[a]! dk1[q1]!
          have n163a : (enc dk1[q1]!).length = k := R.hk _
          have n163b : (enc dk1[a]!).length = k := R.hk _
          generalize enc dk1[q1]! = cI163 at SF1 l163a s163b n163a
          generalize enc dk1[a]! = cJ163 at SF1 l163b s163a s163b n163b
          clear SE1
          go_wp2_with fail
          go_big_region_o
          clear l163a l163b s163a s163b
          generalize (we1.drew.setCells blk (off + (q1) * k) cJ163).setCells blk (off + (a) * k) cI163 = wf1 at SF1 ⊢
          go_wp2
          go_ret2
          have e := part_first_break (ltOf cf) d a b pivot Hi.out Hj.out Hdk.out hi21.out hj21.out (by omega)
          rw [e]
          exact ⟨rfl, SF1.out⟩

end Go.Proofs.Ytcamaikogengoaa
