/- reverseRangeCmpFunc over items computes the plain one. The walk turns the kit's over zsortanyfunc.go to this program. -/
import Derived.Test.YtcamaikogengoaaCKit
import Derived.Sort.WalkB2
import Derived.Sort.WalkB12
import Derived.Deep.LoopGhost
namespace Go.Proofs.Ytcamaikogengoaa
set_option linter.unusedVariables false
set_option linter.unusedSimpArgs false
set_option linter.unusedSectionVars false
open Go.Shelf Go.RowKit Go.Lib Go.Sort
variable {P : Program} {α : Type} [Inhabited α]

set_option maxHeartbeats 4000000 in
set_option maxRecDepth 1000000 in
theorem reverseRange_item (L : Inner P) (k : Nat) (aE : ∀ w, (isAgg 78).run P w = .ok true w) (zE : ∀ w, (Go.sizeOf 78).run P w = .ok k w) (enc : α → List Value) (g : Nat) (cb : Array Value) (blk off cap a b : Nat) (d0 d : Array α) (w0 w : World)
    (R : RowK enc k w0 blk off d0) (hs : d0.size = d.size) (S : SWK enc k w0 blk off d w) (hab : a ≤ b) (hb : b ≤ d.size) (hsz : d.size < 4611686018427387904) :
    Calls P 132 #[.slice (some ⟨blk, off, none⟩) d.size cap, .int .i64 a, .int .i64 b, .func (.func g) #[] cb] w fun e w' => e = .returned (.tuple #[]) ∧ SWK enc k w0 blk off (reverseRange d a b) w' := by
  have mixed := L.mixed; have t0 := L.t0; have a0 := L.a0; have z0 := L.z0; have v0 := L.v0; have t3 := L.t3; have a3 := L.a3; have z3 := L.z3; have v3 := L.v3; have t4 := L.t4; have a4 := L.a4; have z4 := L.z4; have v4 := L.v4; have t22 := L.t63; have a22 := L.a63; have z22 := L.z63; have v22 := L.v63; have t25 := L.t80; have a25 := L.a80; have z25 := L.z80; have v25 := L.v80
  have FG := L.f132
  have S0 : Aside (SWK enc k w0 blk off d w) := S
  clear S
  go_enter FG, Try.ntmps132
  go_wp2
  go_loopg [8, 9] (b - a) (fun kx s8 s9 wr => ∃ (i jn : Nat) (jz : Int) (dk : Array α), s8 = .int .i64 i ∧ s9 = .int .i64 jz ∧ ((i : Int) < jz → jz = jn ∧ jn < d.size) ∧ (¬ (i : Int) < jz → ¬ i < jn) ∧ jn - i ≤ kx ∧
    dk.size = d.size ∧ Aside (SWK enc k w0 blk off dk wr) ∧ reverseLoop i jn dk = reverseLoop a (b - 1) d)
  case atStart => exact ⟨a, b - 1, (b : Int) - 1, d, rfl, rfl, fun h => ⟨by omega, by omega⟩, fun h => by omega, by omega, rfl, S0, rfl⟩
  case round =>
    clear S0
    obtain ⟨i, jn, jz, dk, rfl, rfl, h1, h2, hkx, hds, S1, heq⟩ := hrel
    by_cases hlt : (i : Int) < jz
    · obtain ⟨rfl, hjn⟩ := h1 hlt
      have hij : i < jn := by omega
      clear h1 h2
      go_wp2_with fail
      have ea44 : ((i : Int)).toNat = i := by omega
      have pa44 : (0 : Int) ≤ (i : Int) := by omega
      have ba44 : (i : Int) < (d.size : Int) := by omega
      have ra44 : IntKind.i64.wrap ((i : Int)) = (i : Int) := by rw [IntKind.wrap_i64]; omega
      have ec44 : ((jn : Int)).toNat = jn := by omega
      have pc44 : (0 : Int) ≤ (jn : Int) := by omega
      have bc44 : (jn : Int) < (d.size : Int) := by omega
      have rc44 : IntKind.i64.wrap ((jn : Int)) = (jn : Int) := by rw [IntKind.wrap_i64]; omega
      have S2 : Aside (SWK enc k w0 blk off (swp dk (i) (jn)) ((wr.drew.setCells blk (off + (i) * k) (enc dk[jn]!)).setCells blk (off + (jn) * k) (enc dk[i]!))) := S1.out.swapped R (i) (jn) (by omega) (by omega)
      have l44a := S1.out.ld1 R (by omega) P (i) (by omega)
      have l44b := S1.out.ld1 R (by omega) P (jn) (by omega)
      have s44a := S1.out.st1 R (by omega) P (i) (by omega) dk[jn]!
      have s44b := S1.out.st2 R (by omega) P (i) (jn) (by omega) (by omega) dk[jn]! dk[i]!
      have n44a : (enc dk[i]!).length = k := R.hk _
      have n44b : (enc dk[jn]!).length = k := R.hk _
      generalize enc dk[i]! = cI44 at S2 l44a s44b n44a
      generalize enc dk[jn]! = cJ44 at S2 l44b s44a s44b n44b
      clear S1
      go_wp2_with fail
      go_big_region_o
      clear l44a l44b s44a s44b
      generalize (wr.drew.setCells blk (off + (i) * k) cJ44).setCells blk (off + (jn) * k) cI44 = w2 at S2 ⊢
      go_wp2
      go_roundg (jn - 1 - (i + 1))
      case measure => omega
      case rel =>
        rw [reverseLoop, if_pos hij] at heq
        exact ⟨i + 1, jn - 1, (jn : Int) - 1, swp dk i jn, by simp, rfl, fun h => ⟨by omega, by omega⟩, fun h => by omega, Nat.le_refl _, by rw [size_swp]; exact hds, S2, heq⟩
    · have hnot := h2 hlt
      go_wp2
      go_end0
      refine ⟨rfl, ?_⟩
      rw [reverseLoop, if_neg hnot] at heq
      rw [reverseRange, ← heq]
      exact S1.out

end Go.Proofs.Ytcamaikogengoaa
