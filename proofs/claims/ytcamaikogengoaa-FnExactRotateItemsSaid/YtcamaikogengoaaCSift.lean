/- siftDownCmpFunc over items computes the plain one. The walk turns the kit's over zsortanyfunc.go to this program. -/
import Derived.Test.YtcamaikogengoaaCKit
import Derived.Sort.WalkB2
import Derived.Sort.WalkB12
import Derived.Deep.LoopGhost
namespace Go.Proofs.Ytcamaikogengoaa
set_option linter.unusedVariables false
set_option linter.unusedSimpArgs false
set_option linter.unusedSectionVars false
open Go.Shelf Go.RowKit Go.Lib Go.Sort
variable {P : Program} {α : Type} [Inhabited α]

set_option maxHeartbeats 8000000 in
set_option maxRecDepth 1000000 in
theorem siftDown_item (L : Inner P) (k : Nat) (aE : ∀ w, (isAgg 78).run P w = .ok true w) (zE : ∀ w, (Go.sizeOf 78).run P w = .ok k w) (enc : α → List Value) (cf : α → α → Int) (g : Nat) (cb : Array Value) (blk off cap lo hi first : Nat) (d0 d : Array α) (w0 w : World)
    (eg : ∀ args w, (callFunc g args).run P w = .ok (.enter g args) w) (hcmp : CmpLays P g cb enc k cf blk off d0.size w0) (R : RowK enc k w0 blk off d0) (hs : d0.size = d.size) (S : SWK enc k w0 blk off d w) (hlo : lo ≤ hi) (hb : first + hi ≤ d.size) (hsz : d.size < 4611686018427387904) :
    Calls P 136 #[.slice (some ⟨blk, off, none⟩) d.size cap, .int .i64 lo, .int .i64 hi, .int .i64 first, .func (.func g) #[] cb] w fun e w' =>
      e = .returned (.tuple #[]) ∧ SWK enc k w0 blk off (siftDown (ltOf cf) hi first lo d) w' := by
  have mixed := L.mixed; have t0 := L.t0; have a0 := L.a0; have z0 := L.z0; have v0 := L.v0; have t3 := L.t3; have a3 := L.a3; have z3 := L.z3; have v3 := L.v3; have t4 := L.t4; have a4 := L.a4; have z4 := L.z4; have v4 := L.v4; have t22 := L.t63; have a22 := L.a63; have z22 := L.z63; have v22 := L.v63; have t25 := L.t80; have a25 := L.a80; have z25 := L.z80; have v25 := L.v80
  have FG := L.f136
  have HC : Aside _ := hcmp
  have S0 : Aside _ := S
  clear hcmp S
  go_enter FG, Try.ntmps136
  go_wp2
  go_loopg [10] (hi - lo) (fun kx s10 wr => ∃ (root : Nat) (dk : Array α), s10 = .int .i64 root ∧ root ≤ hi ∧ hi - root ≤ kx ∧ dk.size = d.size ∧ Aside (SWK enc k w0 blk off dk wr) ∧ Hid (siftDown (ltOf cf) hi first root dk = siftDown (ltOf cf) hi first lo d))
  case atStart => exact ⟨lo, d, rfl, hlo, Nat.le_refl _, rfl, S0, rfl⟩
  case round =>
    obtain ⟨root, dk, rfl, hr, hkx, hds, S1, HE⟩ := hrel
    clear S0
    by_cases h0 : hi ≤ 2 * root + 1
    ·
      have h0z : (hi : Int) ≤ 2 * (root : Int) + 1 := by omega
      go_wp2
      go_end0
      refine ⟨rfl, ?_⟩
      rw [← HE.out, sd_end (ltOf cf) dk h0]
      exact S1.out
    · have h0z : ¬ ((hi : Int) ≤ 2 * (root : Int) + 1) := by omega
      have rch : IntKind.i64.wrap (2 * (root : Int) + 1 + 1) = 2 * (root : Int) + 1 + 1 := by rw [IntKind.wrap_i64]; omega
      by_cases h1 : 2 * root + 2 < hi
      ·
        have h1z : 2 * (root : Int) + 1 + 1 < (hi : Int) := by omega
        cases hL : ltOf cf dk[first + (2 * root + 1)]! dk[first + (2 * root + 2)]! with
        | true =>
          have ea24 : ((first : Int) + (2 * (root : Int) + 1)).toNat = first + (2 * root + 1) := by omega
          have pa24 : (0 : Int) ≤ (first : Int) + (2 * (root : Int) + 1) := by omega
          have ba24 : (first : Int) + (2 * (root : Int) + 1) < (d.size : Int) := by omega
          have ra24 : IntKind.i64.wrap ((first : Int) + (2 * (root : Int) + 1)) = (first : Int) + (2 * (root : Int) + 1) := by rw [IntKind.wrap_i64]; omega
          have ec24 : ((first : Int) + (2 * (root : Int) + 1) + 1).toNat = first + (2 * root + 2) := by omega
          have pc24 : (0 : Int) ≤ (first : Int) + (2 * (root : Int) + 1) + 1 := by omega
          have bc24 : (first : Int) + (2 * (root : Int) + 1) + 1 < (d.size : Int) := by omega
          have rc24 : IntKind.i64.wrap ((first : Int) + (2 * (root : Int) + 1) + 1) = (first : Int) + (2 * (root : Int) + 1) + 1 := by rw [IntKind.wrap_i64]; omega
          obtain ⟨x24, hx24⟩ : ∃ x, x = dk[first + (2 * root + 1)]! := ⟨_, rfl⟩
          obtain ⟨y24, hy24⟩ : ∃ x, x = dk[first + (2 * root + 2)]! := ⟨_, rfl⟩
          have l24a := S1.out.ld R (by omega) P (first + (2 * root + 1)) (by omega)
          have l24b := S1.out.ld R (by omega) P (first + (2 * root + 2)) (by omega)
          rw [← hx24] at l24a
          rw [← hy24] at l24b
          have hc24 := S1.out.cmp HC.out (by omega) x24 y24
          have hv24 : cf x24 y24 < 0 := by rw [hx24, hy24]; exact of_decide_eq_true hL
          have hd24 : decide (cf x24 y24 < 0) = true := decide_eq_true hv24
          clear hx24 hy24
          go_wp2_with fail
          go_quiet_grown (first | (go_at_fn g; refine Calls.grown_of (hc24 _ _)))
          have S2 : Aside (SWK enc k w0 blk off dk (grow (wr.drewN nq) osq)) := S1.out.grown nq osq
          clear l24a l24b hc24 S1
          generalize grow (wr.drewN nq) osq = w2 at S2 ⊢
          clear nq osq
          go_wp2_with fail
          cases hG : ltOf cf dk[first + root]! dk[first + (2 * root + 2)]! with
          | true =>
            have ea25 : ((first : Int) + (root : Int)).toNat = first + root := by omega
            have pa25 : (0 : Int) ≤ (first : Int) + (root : Int) := by omega
            have ba25 : (first : Int) + (root : Int) < (d.size : Int) := by omega
            have ra25 : IntKind.i64.wrap ((first : Int) + (root : Int)) = (first : Int) + (root : Int) := by rw [IntKind.wrap_i64]; omega
            have ec25 : ((first : Int) + (2 * (root : Int) + 1 + 1)).toNat = first + (2 * root + 2) := by omega
            have pc25 : (0 : Int) ≤ (first : Int) + (2 * (root : Int) + 1 + 1) := by omega
            have bc25 : (first : Int) + (2 * (root : Int) + 1 + 1) < (d.size : Int) := by omega
            have rc25 : IntKind.i64.wrap ((first : Int) + (2 * (root : Int) + 1 + 1)) = (first : Int) + (2 * (root : Int) + 1 + 1) := by rw [IntKind.wrap_i64]; omega
            obtain ⟨x25, hx25⟩ : ∃ x, x = dk[first + root]! := ⟨_, rfl⟩
            obtain ⟨y25, hy25⟩ : ∃ x, x = dk[first + (2 * root + 2)]! := ⟨_, rfl⟩
            have l25a := S2.out.ld R (by omega) P (first + root) (by omega)
            have l25b := S2.out.ld R (by omega) P (first + (2 * root + 2)) (by omega)
            rw [← hx25] at l25a
            rw [← hy25] at l25b
            have hc25 := S2.out.cmp HC.out (by omega) x25 y25
            have hv25 : cf x25 y25 < 0 := by rw [hx25, hy25]; exact of_decide_eq_true hG
            have hd25 : decide (cf x25 y25 < 0) = true := decide_eq_true hv25
            clear hx25 hy25
            go_wp2_with fail
            go_quiet_grown (first | (go_at_fn g; refine Calls.grown_of (hc25 _ _)))
            have S3 : Aside (SWK enc k w0 blk off dk (grow (w2.drewN nq) osq)) := S2.out.grown nq osq
            clear l25a l25b hc25 S2
            generalize grow (w2.drewN nq) osq = w3 at S3 ⊢
            clear nq osq
            have ea26 : ((first : Int) + (root : Int)).toNat = first + root := by omega
            have pa26 : (0 : Int) ≤ (first : Int) + (root : Int) := by omega
            have ba26 : (first : Int) + (root : Int) < (d.size : Int) := by omega
            have ra26 : IntKind.i64.wrap ((first : Int) + (root : Int)) = (first : Int) + (root : Int) := by rw [IntKind.wrap_i64]; omega
            have ec26 : ((first : Int) + (2 * (root : Int) + 1 + 1)).toNat = first + (2 * root + 2) := by omega
            have pc26 : (0 : Int) ≤ (first : Int) + (2 * (root : Int) + 1 + 1) := by omega
            have bc26 : (first : Int) + (2 * (root : Int) + 1 + 1) < (d.size : Int) := by omega
            have rc26 : IntKind.i64.wrap ((first : Int) + (2 * (root : Int) + 1 + 1)) = (first : Int) + (2 * (root : Int) + 1 + 1) := by rw [IntKind.wrap_i64]; omega
            have S4 : Aside (SWK enc k w0 blk off (swp dk (first + root) (first + (2 * root + 2))) ((w3.drew.setCells blk (off + (first + root) * k) (enc dk[first + (2 * root + 2)]!)).setCells blk (off + (first + (2 * root + 2)) * k) (enc dk[first + root]!))) := S3.out.swapped R (first + root) (first + (2 * root + 2)) (by omega) (by omega)
            have l26a := S3.out.ld1 R (by omega) P (first + root) (by omega)
            have l26b := S3.out.ld1 R (by omega) P (first + (2 * root + 2)) (by omega)
            have s26a := S3.out.st1 R (by omega) P (first + root) (by omega) dk[first + (2 * root + 2)]!
            have s26b := S3.out.st2 R (by omega) P (first + root) (first + (2 * root + 2)) (by omega) (by omega) dk[first + (2 * root + 2)]! dk[first + root]!
            have n26a : (enc dk[first + root]!).length = k := R.hk _
            have n26b : (enc dk[first + (2 * root + 2)]!).length = k := R.hk _
            generalize enc dk[first + root]! = cI26 at S4 l26a s26b n26a
            generalize enc dk[first + (2 * root + 2)]! = cJ26 at S4 l26b s26a s26b n26b
            clear S3
            go_wp2_with fail
            go_big_region_o
            clear l26a l26b s26a s26b
            generalize (w3.drew.setCells blk (off + (first + root) * k) cJ26).setCells blk (off + (first + (2 * root + 2)) * k) cI26 = w4 at S4 ⊢
            go_wp2
            go_roundg (hi - (2 * root + 2))
            case measure => omega
            case rel => exact ⟨2 * root + 2, swp dk (first + root) (first + (2 * root + 2)), by go_num, by omega, Nat.le_refl _, by rw [size_swp]; exact hds, S4, (show Hid _ from by rw [← HE.out, sd_right_go (ltOf cf) dk h1 hL hG]; exact rfl)⟩
          | false =>
            have ea27 : ((first : Int) + (root : Int)).toNat = first + root := by omega
            have pa27 : (0 : Int) ≤ (first : Int) + (root : Int) := by omega
            have ba27 : (first : Int) + (root : Int) < (d.size : Int) := by omega
            have ra27 : IntKind.i64.wrap ((first : Int) + (root : Int)) = (first : Int) + (root : Int) := by rw [IntKind.wrap_i64]; omega
            have ec27 : ((first : Int) + (2 * (root : Int) + 1 + 1)).toNat = first + (2 * root + 2) := by omega
            have pc27 : (0 : Int) ≤ (first : Int) + (2 * (root : Int) + 1 + 1) := by omega
            have bc27 : (first : Int) + (2 * (root : Int) + 1 + 1) < (d.size : Int) := by omega
            have rc27 : IntKind.i64.wrap ((first : Int) + (2 * (root : Int) + 1 + 1)) = (first : Int) + (2 * (root : Int) + 1 + 1) := by rw [IntKind.wrap_i64]; omega
            obtain ⟨x27, hx27⟩ : ∃ x, x = dk[first + root]! := ⟨_, rfl⟩
            obtain ⟨y27, hy27⟩ : ∃ x, x = dk[first + (2 * root + 2)]! := ⟨_, rfl⟩
            have l27a := S2.out.ld R (by omega) P (first + root) (by omega)
            have l27b := S2.out.ld R (by omega) P (first + (2 * root + 2)) (by omega)
            rw [← hx27] at l27a
            rw [← hy27] at l27b
            have hc27 := S2.out.cmp HC.out (by omega) x27 y27
            have hv27 : ¬ cf x27 y27 < 0 := by rw [hx27, hy27]; exact of_decide_eq_false hG
            have hd27 : decide (cf x27 y27 < 0) = false := decide_eq_false hv27
            clear hx27 hy27
            go_wp2_with fail
            go_quiet_grown (first | (go_at_fn g; refine Calls.grown_of (hc27 _ _)))
            have S3 : Aside (SWK enc k w0 blk off dk (grow (w2.drewN nq) osq)) := S2.out.grown nq osq
            clear l27a l27b hc27 S2
            generalize grow (w2.drewN nq) osq = w3 at S3 ⊢
            clear nq osq
            go_wp2
            (try simp only [Exit.inBlock, Exit.then]); refine bodyPost_ret (results_none rfl _ _ _) rfl ?_
            refine ⟨rfl, ?_⟩
            rw [← HE.out, sd_right_stop (ltOf cf) dk h1 hL hG]
            exact S3.out
        | false =>
          have ea28 : ((first : Int) + (2 * (root : Int) + 1)).toNat = first + (2 * root + 1) := by omega
          have pa28 : (0 : Int) ≤ (first : Int) + (2 * (root : Int) + 1) := by omega
          have ba28 : (first : Int) + (2 * (root : Int) + 1) < (d.size : Int) := by omega
          have ra28 : IntKind.i64.wrap ((first : Int) + (2 * (root : Int) + 1)) = (first : Int) + (2 * (root : Int) + 1) := by rw [IntKind.wrap_i64]; omega
          have ec28 : ((first : Int) + (2 * (root : Int) + 1) + 1).toNat = first + (2 * root + 2) := by omega
          have pc28 : (0 : Int) ≤ (first : Int) + (2 * (root : Int) + 1) + 1 := by omega
          have bc28 : (first : Int) + (2 * (root : Int) + 1) + 1 < (d.size : Int) := by omega
          have rc28 : IntKind.i64.wrap ((first : Int) + (2 * (root : Int) + 1) + 1) = (first : Int) + (2 * (root : Int) + 1) + 1 := by rw [IntKind.wrap_i64]; omega
          obtain ⟨x28, hx28⟩ : ∃ x, x = dk[first + (2 * root + 1)]! := ⟨_, rfl⟩
          obtain ⟨y28, hy28⟩ : ∃ x, x = dk[first + (2 * root + 2)]! := ⟨_, rfl⟩
          have l28a := S1.out.ld R (by omega) P (first + (2 * root + 1)) (by omega)
          have l28b := S1.out.ld R (by omega) P (first + (2 * root + 2)) (by omega)
          rw [← hx28] at l28a
          rw [← hy28] at l28b
          have hc28 := S1.out.cmp HC.out (by omega) x28 y28
          have hv28 : ¬ cf x28 y28 < 0 := by rw [hx28, hy28]; exact of_decide_eq_false hL
          have hd28 : decide (cf x28 y28 < 0) = false := decide_eq_false hv28
          clear hx28 hy28
          go_wp2_with fail
          go_quiet_grown (first | (go_at_fn g; refine Calls.grown_of (hc28 _ _)))
          have S2 : Aside (SWK enc k w0 blk off dk (grow (wr.drewN nq) osq)) := S1.out.grown nq osq
          clear l28a l28b hc28 S1
          generalize grow (wr.drewN nq) osq = w2 at S2 ⊢
          clear nq osq
          go_wp2_with fail
          cases hG : ltOf cf dk[first + root]! dk[first + (2 * root + 1)]! with
          | true =>
            have ea29 : ((first : Int) + (root : Int)).toNat = first + root := by omega
            have pa29 : (0 : Int) ≤ (first : Int) + (root : Int) := by omega
            have ba29 : (first : Int) + (root : Int) < (d.size : Int) := by omega
            have ra29 : IntKind.i64.wrap ((first : Int) + (root : Int)) = (first : Int) + (root : Int) := by rw [IntKind.wrap_i64]; omega
            have ec29 : ((first : Int) + (2 * (root : Int) + 1)).toNat = first + (2 * root + 1) := by omega
            have pc29 : (0 : Int) ≤ (first : Int) + (2 * (root : Int) + 1) := by omega
            have bc29 : (first : Int) + (2 * (root : Int) + 1) < (d.size : Int) := by omega
            have rc29 : IntKind.i64.wrap ((first : Int) + (2 * (root : Int) + 1)) = (first : Int) + (2 * (root : Int) + 1) := by rw [IntKind.wrap_i64]; omega
            obtain ⟨x29, hx29⟩ : ∃ x, x = dk[first + root]! := ⟨_, rfl⟩
            obtain ⟨y29, hy29⟩ : ∃ x, x = dk[first + (2 * root + 1)]! := ⟨_, rfl⟩
            have l29a := S2.out.ld R (by omega) P (first + root) (by omega)
            have l29b := S2.out.ld R (by omega) P (first + (2 * root + 1)) (by omega)
            rw [← hx29] at l29a
            rw [← hy29] at l29b
            have hc29 := S2.out.cmp HC.out (by omega) x29 y29
            have hv29 : cf x29 y29 < 0 := by rw [hx29, hy29]; exact of_decide_eq_true hG
            have hd29 : decide (cf x29 y29 < 0) = true := decide_eq_true hv29
            clear hx29 hy29
            go_wp2_with fail
            go_quiet_grown (first | (go_at_fn g; refine Calls.grown_of (hc29 _ _)))
            have S3 : Aside (SWK enc k w0 blk off dk (grow (w2.drewN nq) osq)) := S2.out.grown nq osq
            clear l29a l29b hc29 S2
            generalize grow (w2.drewN nq) osq = w3 at S3 ⊢
            clear nq osq
            have ea30 : ((first : Int) + (root : Int)).toNat = first + root := by omega
            have pa30 : (0 : Int) ≤ (first : Int) + (root : Int) := by omega
            have ba30 : (first : Int) + (root : Int) < (d.size : Int) := by omega
            have ra30 : IntKind.i64.wrap ((first : Int) + (root : Int)) = (first : Int) + (root : Int) := by rw [IntKind.wrap_i64]; omega
            have ec30 : ((first : Int) + (2 * (root : Int) + 1)).toNat = first + (2 * root + 1) := by omega
            have pc30 : (0 : Int) ≤ (first : Int) + (2 * (root : Int) + 1) := by omega
            have bc30 : (first : Int) + (2 * (root : Int) + 1) < (d.size : Int) := by omega
            have rc30 : IntKind.i64.wrap ((first : Int) + (2 * (root : Int) + 1)) = (first : Int) + (2 * (root : Int) + 1) := by rw [IntKind.wrap_i64]; omega
            have S4 : Aside (SWK enc k w0 blk off (swp dk (first + root) (first + (2 * root + 1))) ((w3.drew.setCells blk (off + (first + root) * k) (enc dk[first + (2 * root + 1)]!)).setCells blk (off + (first + (2 * root + 1)) * k) (enc dk[first + root]!))) := S3.out.swapped R (first + root) (first + (2 * root + 1)) (by omega) (by omega)
            have l30a := S3.out.ld1 R (by omega) P (first + root) (by omega)
            have l30b := S3.out.ld1 R (by omega) P (first + (2 * root + 1)) (by omega)
            have s30a := S3.out.st1 R (by omega) P (first + root) (by omega) dk[first + (2 * root + 1)]!
            have s30b := S3.out.st2 R (by omega) P (first + root) (first + (2 * root + 1)) (by omega) (by omega) dk[first + (2 * root + 1)]! dk[first + root]!
            have n30a : (enc dk[first + root]!).length = k := R.hk _
            have n30b : (enc dk[first + (2 * root + 1)]!).length = k := R.hk _
            generalize enc dk[first + root]! = cI30 at S4 l30a s30b n30a
            generalize enc dk[first + (2 * root + 1)]! = cJ30 at S4 l30b s30a s30b n30b
            clear S3
            go_wp2_with fail
            go_big_region_o
            clear l30a l30b s30a s30b
            generalize (w3.drew.setCells blk (off + (first + root) * k) cJ30).setCells blk (off + (first + (2 * root + 1)) * k) cI30 = w4 at S4 ⊢
            go_wp2
            go_roundg (hi - (2 * root + 1))
            case measure => omega
            case rel => exact ⟨2 * root + 1, swp dk (first + root) (first + (2 * root + 1)), by go_num, by omega, Nat.le_refl _, by rw [size_swp]; exact hds, S4, (show Hid _ from by rw [← HE.out, sd_left_go (ltOf cf) dk (by omega) (fun _ => hL) hG]; exact rfl)⟩
          | false =>
            have ea31 : ((first : Int) + (root : Int)).toNat = first + root := by omega
            have pa31 : (0 : Int) ≤ (first : Int) + (root : Int) := by omega
            have ba31 : (first : Int) + (root : Int) < (d.size : Int) := by omega
            have ra31 : IntKind.i64.wrap ((first : Int) + (root : Int)) = (first : Int) + (root : Int) := by rw [IntKind.wrap_i64]; omega
            have ec31 : ((first : Int) + (2 * (root : Int) + 1)).toNat = first + (2 * root + 1) := by omega
            have pc31 : (0 : Int) ≤ (first : Int) + (2 * (root : Int) + 1) := by omega
            have bc31 : (first : Int) + (2 * (root : Int) + 1) < (d.size : Int) := by omega
            have rc31 : IntKind.i64.wrap ((first : Int) + (2 * (root : Int) + 1)) = (first : Int) + (2 * (root : Int) + 1) := by rw [IntKind.wrap_i64]; omega
            obtain ⟨x31, hx31⟩ : ∃ x, x = dk[first + root]! := ⟨_, rfl⟩
            obtain ⟨y31, hy31⟩ : ∃ x, x = dk[first + (2 * root + 1)]! := ⟨_, rfl⟩
            have l31a := S2.out.ld R (by omega) P (first + root) (by omega)
            have l31b := S2.out.ld R (by omega) P (first + (2 * root + 1)) (by omega)
            rw [← hx31] at l31a
            rw [← hy31] at l31b
            have hc31 := S2.out.cmp HC.out (by omega) x31 y31
            have hv31 : ¬ cf x31 y31 < 0 := by rw [hx31, hy31]; exact of_decide_eq_false hG
            have hd31 : decide (cf x31 y31 < 0) = false := decide_eq_false hv31
            clear hx31 hy31
            go_wp2_with fail
            go_quiet_grown (first | (go_at_fn g; refine Calls.grown_of (hc31 _ _)))
            have S3 : Aside (SWK enc k w0 blk off dk (grow (w2.drewN nq) osq)) := S2.out.grown nq osq
            clear l31a l31b hc31 S2
            generalize grow (w2.drewN nq) osq = w3 at S3 ⊢
            clear nq osq
            go_wp2
            (try simp only [Exit.inBlock, Exit.then]); refine bodyPost_ret (results_none rfl _ _ _) rfl ?_
            refine ⟨rfl, ?_⟩
            rw [← HE.out, sd_left_stop (ltOf cf) dk (by omega) (fun _ => hL) hG]
            exact S3.out
      ·
        have h1z : ¬ (2 * (root : Int) + 1 + 1 < (hi : Int)) := by omega
        have h1d : decide (2 * (root : Int) + 1 + 1 < (hi : Int)) = false := decide_eq_false h1z
        go_wp2_with fail
        go_big_region_o
        have S2 : Aside (SWK enc k w0 blk off dk wr.drew) := S1.out.drew
        clear S1
        generalize wr.drew = w2 at S2 ⊢
        go_wp2_with fail
        cases hG : ltOf cf dk[first + root]! dk[first + (2 * root + 1)]! with
        | true =>
          have ea32 : ((first : Int) + (root : Int)).toNat = first + root := by omega
          have pa32 : (0 : Int) ≤ (first : Int) + (root : Int) := by omega
          have ba32 : (first : Int) + (root : Int) < (d.size : Int) := by omega
          have ra32 : IntKind.i64.wrap ((first : Int) + (root : Int)) = (first : Int) + (root : Int) := by rw [IntKind.wrap_i64]; omega
          have ec32 : ((first : Int) + (2 * (root : Int) + 1)).toNat = first + (2 * root + 1) := by omega
          have pc32 : (0 : Int) ≤ (first : Int) + (2 * (root : Int) + 1) := by omega
          have bc32 : (first : Int) + (2 * (root : Int) + 1) < (d.size : Int) := by omega
          have rc32 : IntKind.i64.wrap ((first : Int) + (2 * (root : Int) + 1)) = (first : Int) + (2 * (root : Int) + 1) := by rw [IntKind.wrap_i64]; omega
          obtain ⟨x32, hx32⟩ : ∃ x, x = dk[first + root]! := ⟨_, rfl⟩
          obtain ⟨y32, hy32⟩ : ∃ x, x = dk[first + (2 * root + 1)]! := ⟨_, rfl⟩
          have l32a := S2.out.ld R (by omega) P (first + root) (by omega)
          have l32b := S2.out.ld R (by omega) P (first + (2 * root + 1)) (by omega)
          rw [← hx32] at l32a
          rw [← hy32] at l32b
          have hc32 := S2.out.cmp HC.out (by omega) x32 y32
          have hv32 : cf x32 y32 < 0 := by rw [hx32, hy32]; exact of_decide_eq_true hG
          have hd32 : decide (cf x32 y32 < 0) = true := decide_eq_true hv32
          clear hx32 hy32
          go_wp2_with fail
          go_quiet_grown (first | (go_at_fn g; refine Calls.grown_of (hc32 _ _)))
          have S3 : Aside (SWK enc k w0 blk off dk (grow (w2.drewN nq) osq)) := S2.out.grown nq osq
          clear l32a l32b hc32 S2
          generalize grow (w2.drewN nq) osq = w3 at S3 ⊢
          clear nq osq
          have ea33 : ((first : Int) + (root : Int)).toNat = first + root := by omega
          have pa33 : (0 : Int) ≤ (first : Int) + (root : Int) := by omega
          have ba33 : (first : Int) + (root : Int) < (d.size : Int) := by omega
          have ra33 : IntKind.i64.wrap ((first : Int) + (root : Int)) = (first : Int) + (root : Int) := by rw [IntKind.wrap_i64]; omega
          have ec33 : ((first : Int) + (2 * (root : Int) + 1)).toNat = first + (2 * root + 1) := by omega
          have pc33 : (0 : Int) ≤ (first : Int) + (2 * (root : Int) + 1) := by omega
          have bc33 : (first : Int) + (2 * (root : Int) + 1) < (d.size : Int) := by omega
          have rc33 : IntKind.i64.wrap ((first : Int) + (2 * (root : Int) + 1)) = (first : Int) + (2 * (root : Int) + 1) := by rw [IntKind.wrap_i64]; omega
          have S4 : Aside (SWK enc k w0 blk off (swp dk (first + root) (first + (2 * root + 1))) ((w3.drew.setCells blk (off + (first + root) * k) (enc dk[first + (2 * root + 1)]!)).setCells blk (off + (first + (2 * root + 1)) * k) (enc dk[first + root]!))) := S3.out.swapped R (first + root) (first + (2 * root + 1)) (by omega) (by omega)
          have l33a := S3.out.ld1 R (by omega) P (first + root) (by omega)
          have l33b := S3.out.ld1 R (by omega) P (first + (2 * root + 1)) (by omega)
          have s33a := S3.out.st1 R (by omega) P (first + root) (by omega) dk[first + (2 * root + 1)]!
          have s33b := S3.out.st2 R (by omega) P (first + root) (first + (2 * root + 1)) (by omega) (by omega) dk[first + (2 * root + 1)]! dk[first + root]!
          have n33a : (enc dk[first + root]!).length = k := R.hk _
          have n33b : (enc dk[first + (2 * root + 1)]!).length = k := R.hk _
          generalize enc dk[first + root]! = cI33 at S4 l33a s33b n33a
          generalize enc dk[first + (2 * root + 1)]! = cJ33 at S4 l33b s33a s33b n33b
          clear S3
          go_wp2_with fail
          go_big_region_o
          clear l33a l33b s33a s33b
          generalize (w3.drew.setCells blk (off + (first + root) * k) cJ33).setCells blk (off + (first + (2 * root + 1)) * k) cI33 = w4 at S4 ⊢
          go_wp2
          go_roundg (hi - (2 * root + 1))
          case measure => omega
          case rel => exact ⟨2 * root + 1, swp dk (first + root) (first + (2 * root + 1)), by go_num, by omega, Nat.le_refl _, by rw [size_swp]; exact hds, S4, (show Hid _ from by rw [← HE.out, sd_left_go (ltOf cf) dk (by omega) (fun h => absurd h h1) hG]; exact rfl)⟩
        | false =>
          have ea34 : ((first : Int) + (root : Int)).toNat = first + root := by omega
          have pa34 : (0 : Int) ≤ (first : Int) + (root : Int) := by omega
          have ba34 : (first : Int) + (root : Int) < (d.size : Int) := by omega
          have ra34 : IntKind.i64.wrap ((first : Int) + (root : Int)) = (first : Int) + (root : Int) := by rw [IntKind.wrap_i64]; omega
          have ec34 : ((first : Int) + (2 * (root : Int) + 1)).toNat = first + (2 * root + 1) := by omega
          have pc34 : (0 : Int) ≤ (first : Int) + (2 * (root : Int) + 1) := by omega
          have bc34 : (first : Int) + (2 * (root : Int) + 1) < (d.size : Int) := by omega
          have rc34 : IntKind.i64.wrap ((first : Int) + (2 * (root : Int) + 1)) = (first : Int) + (2 * (root : Int) + 1) := by rw [IntKind.wrap_i64]; omega
          obtain ⟨x34, hx34⟩ : ∃ x, x = dk[first + root]! := ⟨_, rfl⟩
          obtain ⟨y34, hy34⟩ : ∃ x, x = dk[first + (2 * root + 1)]! := ⟨_, rfl⟩
          have l34a := S2.out.ld R (by omega) P (first + root) (by omega)
          have l34b := S2.out.ld R (by omega) P (first + (2 * root + 1)) (by omega)
          rw [← hx34] at l34a
          rw [← hy34] at l34b
          have hc34 := S2.out.cmp HC.out (by omega) x34 y34
          have hv34 : ¬ cf x34 y34 < 0 := by rw [hx34, hy34]; exact of_decide_eq_false hG
          have hd34 : decide (cf x34 y34 < 0) = false := decide_eq_false hv34
          clear hx34 hy34
          go_wp2_with fail
          go_quiet_grown (first | (go_at_fn g; refine Calls.grown_of (hc34 _ _)))
          have S3 : Aside (SWK enc k w0 blk off dk (grow (w2.drewN nq) osq)) := S2.out.grown nq osq
          clear l34a l34b hc34 S2
          generalize grow (w2.drewN nq) osq = w3 at S3 ⊢
          clear nq osq
          go_wp2
          (try simp only [Exit.inBlock, Exit.then]); refine bodyPost_ret (results_none rfl _ _ _) rfl ?_
          refine ⟨rfl, ?_⟩
          rw [← HE.out, sd_left_stop (ltOf cf) dk (by omega) (fun h => absurd h h1) hG]
          exact S3.out

end Go.Proofs.Ytcamaikogengoaa
