/- swapRangeCmpFunc and rotateCmpFunc over items compute the plain exchange of two ranges and the plain rotation. -/
import Derived.Test.YtcamaikogengoaaCKit
import Derived.Test.YtcamaikogengoaaPlainRot
import Derived.Sort.WalkB2
import Derived.Sort.WalkB12
import Derived.Deep.LoopGhost
import Derived.Lib.Hide
import Derived.Deep.Cut
namespace Go.Proofs.Ytcamaikogengoaa
set_option linter.unusedVariables false
set_option linter.unusedSimpArgs false
set_option linter.unusedSectionVars false
open Go.Shelf Go.RowKit Go.Lib Go.Sort
variable {P : Program} {α : Type} [Inhabited α]

set_option maxHeartbeats 4000000 in
set_option maxRecDepth 1000000 in
theorem swapRange_item (L : Inner P) (k : Nat) (aE : ∀ w, (isAgg 78).run P w = .ok true w) (zE : ∀ w, (Go.sizeOf 78).run P w = .ok k w) (enc : α → List Value) (g : Nat) (cb : Array Value) (blk off cap a b n : Nat) (d0 d : Array α) (w0 w : World)
    (R : RowK enc k w0 blk off d0) (hs : d0.size = d.size) (S : SWK enc k w0 blk off d w) (ha : a + n ≤ d.size) (hb : b + n ≤ d.size) (hsz : d.size < 4611686018427387904) :
    Calls P 138 #[.slice (some ⟨blk, off, none⟩) d.size cap, .int .i64 a, .int .i64 b, .int .i64 n, .func (.func g) #[] cb] w fun e w' => e = .returned (.tuple #[]) ∧ SWK enc k w0 blk off (swapRange d a b n) w' := by
  have mixed := L.mixed; have t0 := L.t0; have a0 := L.a0; have z0 := L.z0; have v0 := L.v0; have t3 := L.t3; have a3 := L.a3; have z3 := L.z3; have v3 := L.v3; have t4 := L.t4; have a4 := L.a4; have z4 := L.z4; have v4 := L.v4; have t36 := L.t36; have a36 := L.a36; have z36 := L.z36; have v36 := L.v36; have t22 := L.t63; have a22 := L.a63; have z22 := L.z63; have v22 := L.v63; have t25 := L.t80; have a25 := L.a80; have z25 := L.z80; have v25 := L.v80
  have FG := L.f138
  have S0 : Aside (SWK enc k w0 blk off d w) := S
  clear S
  go_enter FG, Try.ntmps138
  go_wp2
  go_loopg [10] n (fun kx s10 wr => ∃ (i : Nat) (dk : Array α), s10 = .int .i64 i ∧ i ≤ n ∧ n - i ≤ kx ∧ dk.size = d.size ∧ Aside (SWK enc k w0 blk off dk wr) ∧ Hid (swapLoop a b n i dk = swapLoop a b n 0 d))
  case atStart => exact ⟨0, d, rfl, Nat.zero_le _, by omega, rfl, S0, rfl⟩
  case round =>
    clear S0
    obtain ⟨i, dk, rfl, hi, hkx, hds, S1, HE⟩ := hrel
    by_cases hlt : i < n
    · have hltz : (i : Int) < (n : Int) := by omega
      go_wp2_with fail
      have ea1 : ((a : Int) + (i : Int)).toNat = a + i := by omega
      have pa1 : (0 : Int) ≤ (a : Int) + (i : Int) := by omega
      have ba1 : (a : Int) + (i : Int) < (d.size : Int) := by omega
      have ra1 : IntKind.i64.wrap ((a : Int) + (i : Int)) = (a : Int) + (i : Int) := by rw [IntKind.wrap_i64]; omega
      have ec1 : ((b : Int) + (i : Int)).toNat = b + i := by omega
      have pc1 : (0 : Int) ≤ (b : Int) + (i : Int) := by omega
      have bc1 : (b : Int) + (i : Int) < (d.size : Int) := by omega
      have rc1 : IntKind.i64.wrap ((b : Int) + (i : Int)) = (b : Int) + (i : Int) := by rw [IntKind.wrap_i64]; omega
      have S2 : Aside (SWK enc k w0 blk off (swp dk (a + i) (b + i)) ((wr.drew.setCells blk (off + (a + i) * k) (enc dk[b + i]!)).setCells blk (off + (b + i) * k) (enc dk[a + i]!))) := S1.out.swapped R (a + i) (b + i) (by omega) (by omega)
      have l1a := S1.out.ld1 R (by omega) P (a + i) (by omega)
      have l1b := S1.out.ld1 R (by omega) P (b + i) (by omega)
      have s1a := S1.out.st1 R (by omega) P (a + i) (by omega) dk[b + i]!
      have s1b := S1.out.st2 R (by omega) P (a + i) (b + i) (by omega) (by omega) dk[b + i]! dk[a + i]!
      have n1a : (enc dk[a + i]!).length = k := R.hk _
      have n1b : (enc dk[b + i]!).length = k := R.hk _
      generalize enc dk[a + i]! = cI1 at S2 l1a s1b n1a
      generalize enc dk[b + i]! = cJ1 at S2 l1b s1a s1b n1b
      clear S1
      go_wp2_with fail
      go_big_region_o
      clear l1a l1b s1a s1b
      generalize (wr.drew.setCells blk (off + (a + i) * k) cJ1).setCells blk (off + (b + i) * k) cI1 = w2 at S2 ⊢
      go_wp2
      go_roundg (n - (i + 1))
      case measure => omega
      case rel => exact ⟨i + 1, swp dk (a + i) (b + i), by go_num, by omega, Nat.le_refl _, by rw [size_swp]; exact hds, S2, (show Hid _ from (swapLoop_go hlt).symm.trans HE.out)⟩
    · have hltz : ¬ (i : Int) < (n : Int) := by omega
      go_wp2
      go_end0
      refine ⟨rfl, ?_⟩
      have := HE.out
      rw [swapLoop_end hlt] at this
      unfold swapRange
      rw [← this]
      exact S1.out

theorem size_swapRange_le (a b : Nat) : ∀ (n t i : Nat) (d : Array α), n - i ≤ t → (swapLoop a b n i d).size = d.size := by
  intro n t
  induction t with
  | zero => intro i d h; rw [swapLoop_end (by omega)]
  | succ t ih =>
    intro i d h
    by_cases c : i < n
    · rw [swapLoop_go c, ih _ _ (by omega), size_swp]
    · rw [swapLoop_end c]
theorem size_swapRange_all (a b n : Nat) (d : Array α) : (swapRange d a b n).size = d.size := size_swapRange_le a b n _ 0 d (Nat.le_refl _)

set_option maxHeartbeats 4000000 in
set_option maxRecDepth 1000000 in
theorem rotate_item (L : Inner P) (k : Nat) (aE : ∀ w, (isAgg 78).run P w = .ok true w) (zE : ∀ w, (Go.sizeOf 78).run P w = .ok k w) (enc : α → List Value) (g : Nat) (cb : Array Value) (blk off cap a m b : Nat) (d0 d : Array α) (w0 w : World)
    (R : RowK enc k w0 blk off d0) (hs : d0.size = d.size) (S : SWK enc k w0 blk off d w) (ham : a < m) (hmb : m < b) (hb : b ≤ d.size) (hsz : d.size < 4611686018427387904) :
    Calls P 125 #[.slice (some ⟨blk, off, none⟩) d.size cap, .int .i64 a, .int .i64 m, .int .i64 b, .func (.func g) #[] cb] w fun e w' => e = .returned (.tuple #[]) ∧ SWK enc k w0 blk off (rotate d a m b) w' := by
  have mixed := L.mixed; have t0 := L.t0; have a0 := L.a0; have z0 := L.z0; have v0 := L.v0; have t3 := L.t3; have a3 := L.a3; have z3 := L.z3; have v3 := L.v3; have t4 := L.t4; have a4 := L.a4; have z4 := L.z4; have v4 := L.v4; have t36 := L.t36; have a36 := L.a36; have z36 := L.z36; have v36 := L.v36; have t22 := L.t63; have a22 := L.a63; have z22 := L.z63; have v22 := L.v63; have t25 := L.t80; have a25 := L.a80; have z25 := L.z80; have v25 := L.v80
  have e138 : ∀ args w, (callFunc 138 args).run P w = .ok (.enter 138 args) w := enters_of L.f138 (by kernel_rfl) rfl
  have FG := L.f125
  have S0 : Aside (SWK enc k w0 blk off d w) := S
  clear S
  go_enter FG, Try.ntmps125
  go_wp2
  go_loopg [10, 11] (b - a) (fun kx s10 s11 wr => ∃ (i j : Nat) (dk : Array α), s10 = .int .i64 i ∧ s11 = .int .i64 j ∧ 0 < i ∧ 0 < j ∧ i ≤ m ∧ m + j ≤ b ∧ i + j ≤ kx ∧ dk.size = d.size ∧ Aside (SWK enc k w0 blk off dk wr) ∧ Hid (rotLoop m i j dk = rotLoop m (m - a) (b - m) d))
  case atStart => exact ⟨m - a, b - m, d, by congr 1; omega, by congr 1; omega, by omega, by omega, by omega, by omega, by omega, rfl, S0, rfl⟩
  case round =>
    clear S0
    obtain ⟨i, j, dk, rfl, rfl, hi0, hj0, him, hjb, hkx, hds, S1, HE⟩ := hrel
    by_cases hij : i = j
    · have hne : ((i : Int) != (j : Int)) = false := by simp [hij]
      have HIJ := Lib.hid hij
      have hc := swapRange_item L k aE zE enc g cb blk off cap (m - i) m i d0 dk w0 wr R (by omega) S1.out (by omega) (by omega) (by omega)
      rw [show ((m - i : Nat) : Int) = (m : Int) - (i : Int) from by omega, hds] at hc
      clear hij S1
      go_wp2_with (go_at_call 138; refine hc.mono ?_; rintro e w1 ⟨rfl, hw1⟩)
      go_end0
      refine ⟨rfl, ?_⟩
      have := HE.out
      have e := HIJ.out
      subst e
      rw [rot_end] at this
      unfold rotate
      rw [← this]
      exact hw1
    · have hne : ((i : Int) != (j : Int)) = true := by simp; omega
      by_cases hgt : j < i
      · have hz : (j : Int) < (i : Int) := by omega
        have hc := swapRange_item L k aE zE enc g cb blk off cap (m - i) m j d0 dk w0 wr R (by omega) S1.out (by omega) (by omega) (by omega)
        rw [show ((m - i : Nat) : Int) = (m : Int) - (i : Int) from by omega, hds] at hc
        clear S1
        go_wp2_with (go_at_call 138; refine hc.mono ?_; rintro e w1 ⟨rfl, hw1⟩)
        go_roundg (i - j + j)
        case measure => omega
        case rel => exact ⟨i - j, j, swapRange dk (m - i) m j, by congr 1; omega, rfl, by omega, by omega, by omega, by omega, Nat.le_refl _, by rw [size_swapRange_all]; exact hds, hw1, (show Hid _ from (rot_left hgt hj0).symm.trans HE.out)⟩
      · have hz : ¬ (j : Int) < (i : Int) := by omega
        have hc := swapRange_item L k aE zE enc g cb blk off cap (m - i) (m + j - i) i d0 dk w0 wr R (by omega) S1.out (by omega) (by omega) (by omega)
        rw [show ((m - i : Nat) : Int) = (m : Int) - (i : Int) from by omega, show ((m + j - i : Nat) : Int) = (m : Int) + (j : Int) - (i : Int) from by omega, hds] at hc
        clear S1
        go_wp2_with (go_at_call 138; refine hc.mono ?_; rintro e w1 ⟨rfl, hw1⟩)
        go_roundg (i + (j - i))
        case measure => omega
        case rel => exact ⟨i, j - i, swapRange dk (m - i) (m + j - i) i, rfl, by congr 1; omega, by omega, by omega, by omega, by omega, Nat.le_refl _, by rw [size_swapRange_all]; exact hds, hw1, (show Hid _ from (rot_right (by omega) hi0).symm.trans HE.out)⟩

end Go.Proofs.Ytcamaikogengoaa
