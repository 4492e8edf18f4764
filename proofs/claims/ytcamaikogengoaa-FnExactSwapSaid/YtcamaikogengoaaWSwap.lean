/- swapRangeOrdered and rotateOrdered at int compute the plain ones. -/
import Derived.Test.YtcamaikogengoaaPlainRot
import Derived.Test.YtcamaikogengoaaRows
import Derived.Sort.WalkB2
import Derived.Sort.WalkA
import Derived.WalkKit
import Derived.BigRegion
import Derived.Lib.Hide
namespace Go.Proofs.Ytcamaikogengoaa
set_option linter.unusedVariables false
set_option linter.unusedSimpArgs false
set_option linter.unusedSectionVars false
open Go.Sort Go.RowKit

set_option maxHeartbeats 1000000 in
set_option maxRecDepth 100000 in
theorem swapRange_int (blk off cap a b n : Nat) (d : Array Int) (w : World) (hH : Holds (Value.int .i64) w blk off d) (hab : a + n ≤ b ∨ b + n ≤ a) (ha : a + n ≤ d.size) (hb : b + n ≤ d.size) (hsz : d.size < 4611686018427387904) :
    Calls Try.prog 107 #[.slice (some ⟨blk, off, none⟩) d.size cap, .int .i64 a, .int .i64 b, .int .i64 n] w fun e w' =>
      e = .returned (.tuple #[]) ∧ ∃ q, w' = putRow (Value.int .i64) (Sort.ahead w q) blk off (swapRange d a b n) := by
  go_enter Try.func107, Try.ntmps107
  go_wp2
  go_loopw [8] (fun vi wr => ∃ (i m : Nat) (dk : Array Int), vi = .int .i64 i ∧ i ≤ n ∧ dk.size = d.size ∧ wr = putRow (Value.int .i64) (Sort.ahead w m) blk off dk ∧
      Hid (swapLoop a b n i dk = swapLoop a b n 0 d)) (fun vi _ => n - (intOf vi).toNat)
  case atStart => exact ⟨0, 0, d, rfl, Nat.zero_le _, rfl, (putRow_self _ _ _ _ _ hH).symm, rfl⟩
  case round =>
    obtain ⟨i, m, dk, rfl, hi, hsk, hwr, HO⟩ := hrel
    have HW : Hid (wr = putRow (Value.int .i64) (Sort.ahead w m) blk off dk) := hwr
    by_cases hlt : i < n
    · have hltz : (i : Int) < (n : Int) := by omega
      have hHk : Holds (Value.int .i64) wr blk off dk := by rw [hwr]; exact holds_putRow _ _ _ _ d dk (holds_ahead _ _ _ _ _ _ hH) hsk
      obtain ⟨x, hx⟩ : ∃ x, dk[a + i]! = x := ⟨_, rfl⟩
      obtain ⟨y, hy⟩ : ∃ y, dk[b + i]! = y := ⟨_, rfl⟩
      have k1 := (hHk (a + i) (by omega)).1
      have k2 := (hHk (b + i) (by omega)).1
      have f1 := (hHk (a + i) (by omega)).2
      have f2 := (hHk (b + i) (by omega)).2
      rw [hx] at k1
      rw [hy] at k2
      have HX : Hid (dk[a + i]! = x) := hx
      have HY : Hid (dk[b + i]! = y) := hy
      have z1 : (a : Int) + (i : Int) < (d.size : Int) := by omega
      have z2 : (b : Int) + (i : Int) < (d.size : Int) := by omega
      have hne : ¬ a + i = b + i := by omega
      clear hwr hHk hx hy hH
      go_wp2_with fail
      go_region
      all_goals go_wp2
      go_roundw
      case rel =>
        refine ⟨i + 1, m + 1, swp dk (a + i) (b + i), by go_num, by omega, by rw [size_swp]; exact hsk, ?_, ?_⟩
        · rw [HW.out, ← HX.out, ← HY.out]
          exact swap_worldA _ w m 1 blk off dk (a + i) (b + i) (by omega) (by omega)
        · show _ = _
          rw [← HO.out, ← swapLoop_go hlt]
      case measure => simp [intOf]; omega
    · have hltz : ¬ (i : Int) < (n : Int) := by omega
      clear hwr
      go_wp2
      go_end0
      refine ⟨rfl, m, ?_⟩
      have := HO.out
      rw [swapLoop_end hlt] at this
      rw [HW.out, this]; rfl

theorem size_swapRange {a b n : Nat} {d : Array Int} (hab : a + n ≤ b ∨ b + n ≤ a) (ha : a + n ≤ d.size) (hb : b + n ≤ d.size) : (swapRange d a b n).size = d.size := (swapRange_spec hab ha hb).1

set_option maxHeartbeats 1000000 in
set_option maxRecDepth 100000 in
theorem rotate_int (blk off cap a m b : Nat) (d : Array Int) (w : World) (hH : Holds (Value.int .i64) w blk off d) (ham : a < m) (hmb : m < b) (hb : b ≤ d.size) (hsz : d.size < 4611686018427387904) :
    Calls Try.prog 117 #[.slice (some ⟨blk, off, none⟩) d.size cap, .int .i64 a, .int .i64 m, .int .i64 b] w fun e w' =>
      e = .returned (.tuple #[]) ∧ ∃ q, w' = putRow (Value.int .i64) (Sort.ahead w q) blk off (rotate d a m b) := by
  go_enter Try.func117, Try.ntmps117
  go_wp2
  go_loopw [8, 9] (fun vi vj wr => ∃ (i j q : Nat) (dk : Array Int), vi = .int .i64 i ∧ vj = .int .i64 j ∧ 0 < i ∧ 0 < j ∧ i ≤ m ∧ m + j ≤ b ∧ dk.size = d.size ∧ wr = putRow (Value.int .i64) (Sort.ahead w q) blk off dk ∧
      Hid (rotLoop m i j dk = rotLoop m (m - a) (b - m) d)) (fun vi vj _ => (intOf vi).toNat + (intOf vj).toNat)
  case atStart => exact ⟨m - a, b - m, 0, d, by congr 1; omega, by congr 1; omega, by omega, by omega, by omega, by omega, rfl, (putRow_self _ _ _ _ _ hH).symm, rfl⟩
  case round =>
    obtain ⟨i, j, q, dk, rfl, rfl, hi0, hj0, him, hjb, hsk, hwr, HO⟩ := hrel
    have HW : Hid (wr = putRow (Value.int .i64) (Sort.ahead w q) blk off dk) := hwr
    have hHk : Holds (Value.int .i64) wr blk off dk := by rw [hwr]; exact holds_putRow _ _ _ _ d dk (holds_ahead _ _ _ _ _ _ hH) hsk
    clear hwr
    by_cases hij : i = j
    · have hne : ((i : Int) != (j : Int)) = false := by simp [hij]
      have HIJ : Hid (i = j) := hij
      have hc := swapRange_int blk off cap (m - i) m i dk wr hHk (by omega) (by omega) (by omega) (by omega)
      rw [show ((m - i : Nat) : Int) = (m : Int) - (i : Int) from by omega, hsk] at hc
      have HC := Lib.hid hc
      clear hij hHk hc
      go_wp2_with (go_at_call 107; refine (HC.out).mono ?_; rintro e w1 ⟨rfl, hw1⟩)
      go_end0
      obtain ⟨q1, hw1⟩ := hw1
      refine ⟨rfl, q + q1, ?_⟩
      rw [hw1, HW.out]
      have hs := size_swapRange (a := m - i) (b := m) (n := i) (d := dk) (by have := HIJ.out; omega) (by omega) (by have := HIJ.out; omega)
      rw [putRow_ahead_putRow _ _ _ _ _ _ _ _ hs]
      congr 1
      unfold rotate
      rw [← HO.out]
      have := HIJ.out
      subst this
      rw [rot_end]
    · have hne : ((i : Int) != (j : Int)) = true := by simp; omega
      by_cases hgt : j < i
      · have hz : (j : Int) < (i : Int) := by omega
        have hc := swapRange_int blk off cap (m - i) m j dk wr hHk (by omega) (by omega) (by omega) (by omega)
        rw [show ((m - i : Nat) : Int) = (m : Int) - (i : Int) from by omega, hsk] at hc
        have HC := Lib.hid hc
        have hs := size_swapRange (a := m - i) (b := m) (n := j) (d := dk) (by omega) (by omega) (by omega)
        have HS := Lib.hid hs
        clear hHk hc hs
        go_wp2_with (go_at_call 107; refine (HC.out).mono ?_; rintro e w1 ⟨rfl, hw1⟩)
        obtain ⟨q1, hw1⟩ := hw1
        go_roundw
        case rel =>
          refine ⟨i - j, j, q + q1, swapRange dk (m - i) m j, by congr 1; omega, rfl, by omega, by omega, by omega, by omega, by rw [HS.out]; exact hsk, ?_, ?_⟩
          · rw [hw1, HW.out, putRow_ahead_putRow _ _ _ _ _ _ _ _ HS.out]
          · show _ = _
            rw [← HO.out, ← rot_left hgt hj0]
        case measure => simp [intOf]; omega
      · have hz : ¬ (j : Int) < (i : Int) := by omega
        have hc := swapRange_int blk off cap (m - i) (m + j - i) i dk wr hHk (by omega) (by omega) (by omega) (by omega)
        rw [show ((m - i : Nat) : Int) = (m : Int) - (i : Int) from by omega, show ((m + j - i : Nat) : Int) = (m : Int) + (j : Int) - (i : Int) from by omega, hsk] at hc
        have HC := Lib.hid hc
        have hs := size_swapRange (a := m - i) (b := m + j - i) (n := i) (d := dk) (by omega) (by omega) (by omega)
        have HS := Lib.hid hs
        clear hHk hc hs
        go_wp2_with (go_at_call 107; refine (HC.out).mono ?_; rintro e w1 ⟨rfl, hw1⟩)
        obtain ⟨q1, hw1⟩ := hw1
        go_roundw
        case rel =>
          refine ⟨i, j - i, q + q1, swapRange dk (m - i) (m + j - i) i, rfl, by congr 1; omega, by omega, by omega, by omega, by omega, by rw [HS.out]; exact hsk, ?_, ?_⟩
          · rw [hw1, HW.out, putRow_ahead_putRow _ _ _ _ _ _ _ _ HS.out]
          · show _ = _
            rw [← HO.out, ← rot_right (by omega) hi0]
        case measure => simp [intOf]; omega
end Go.Proofs.Ytcamaikogengoaa
