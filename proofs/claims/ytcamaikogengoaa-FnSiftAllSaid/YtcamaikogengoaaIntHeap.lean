/- The reference spec.Heap says yes of a heap. -/
import Derived.Test.YtcamaikogengoaaBase1
import Derived.Test.YtcamaikogengoaaPlainHeap
namespace Go.Proofs.Ytcamaikogengoaa
set_option linter.unusedVariables false
set_option linter.unusedSimpArgs false
set_option linter.unusedSectionVars false
open Go.RowKit Go.Sort

set_option maxHeartbeats 4000000 in
set_option maxRecDepth 100000 in
theorem Heap_at (v : Value) (D : Array Int) (hi first : Nat) (w : World) (hb : first + hi ≤ D.size) (hn : D.size ≤ 2147483647) (h : SlAt HI 0 w v D) (hok : ∀ i, i < hi → Ok ltInt first hi D i) :
    Calls Try.prog 57 #[v, .int .i64 0, .int .i64 hi, .int .i64 first] w fun e w' => e = .returned (.bool true) ∧ RowKit.Below w.heap.size w w' := by
  have HOK := Lib.hid hok
  obtain ⟨A, cap, rfl, hcp, hh⟩ := h
  clear hok
  go_enter Try.func57, Try.ntmps57
  go_wp2
  go_loopw [9] (fun vi wr => ∃ i : Nat, vi = .int .i64 i ∧ i ≤ hi ∧ RowKit.Below w.heap.size w wr) (fun vi _ => hi - (intOf vi).toNat)
  case atStart => exact ⟨0, rfl, Nat.zero_le _, RowKit.Below.refl _ _⟩
  case round =>
    obtain ⟨i, rfl, hib, hb0⟩ := hrel
    by_cases hlt : i < hi
    · have hltz : (i : Int) < (hi : Int) := by omega
      obtain ⟨bk, off, rfl, _, g2, hH⟩ := hh (by omega)
      obtain ⟨wo, rfl⟩ : ∃ wo : World, wo = wr := ⟨_, rfl⟩
      clear hh
      go_wp2
      go_loopw [26] (fun vt wr => ∃ t : Nat, vt = .int .i64 t ∧ t ≤ 2 ∧ RowKit.Below (wo.heap.size + 1) (wo.alloc (.cells #[.int .i64 (2 * (i : Int) + 1), .int .i64 (2 * (i : Int) + 2)] 3)) wr) (fun vt _ => 2 - (intOf vt).toNat)
      case atStart => exact ⟨0, rfl, by omega, RowKit.Below.refl _ _⟩
      case round =>
        obtain ⟨t, rfl, ht, hbw⟩ := hrel
        have hbo : RowKit.Below wo.heap.size wo wr := ((RowKit.Below.refl wo.heap.size wo).alloc (Nat.le_refl _) _).trans (hbw.mono (by omega))
        have hb1 : RowKit.Below w.heap.size w wr := hb0.trans (hbo.mono hb0.size)
        by_cases ht2 : t < 2
        · have htz : (t : Int) < 2 := by omega
          have cg : wr.cell? ⟨wo.heap.size, t, none⟩ = some (.int .i64 ((2 * i + 1 + t : Nat) : Int)) := by
            rw [hbw.cell (p := ⟨wo.heap.size, t, none⟩) (by show wo.heap.size < _; omega)]
            rcases (show t = 0 ∨ t = 1 by omega) with rfl | rfl <;> simp <;> omega
          obtain ⟨c, hc⟩ : ∃ c, c = 2 * i + 1 + t := ⟨_, rfl⟩
          rw [← hc] at cg
          have HC : Hid (c = 2 * i + 1 + t) := hc
          have hcle : c ≤ 2 * i + 2 := by omega
          clear hc
          by_cases hch : c < hi
          · have hcz : (c : Int) < (hi : Int) := by omega
            have hno := HOK.out i hlt c (by have := HC.out; omega) hch
            obtain ⟨x, hx⟩ : ∃ x, D[first + i]! = x := ⟨_, rfl⟩
            obtain ⟨y, hy⟩ : ∃ y, D[first + c]! = y := ⟨_, rfl⟩
            rw [hx, hy] at hno
            have hyx : decide (x < y) = false := hno
            have hyx2 : y ≤ x := by have := of_decide_eq_false hyx; omega
            have k1 : wr.cell? ⟨bk, off + (first + i), none⟩ = some (.int .i64 x) := by rw [hb1.cell (p := ⟨bk, off + (first + i), none⟩) g2, (hH (first + i) (by omega)).1, hx]
            have k2 : wr.cell? ⟨bk, off + (first + c), none⟩ = some (.int .i64 y) := by rw [hb1.cell (p := ⟨bk, off + (first + c), none⟩) g2, (hH (first + c) (by omega)).1, hy]
            have z1 : (first : Int) + (i : Int) < (D.size : Int) := by omega
            have z2 : (first : Int) + (c : Int) < (D.size : Int) := by omega
            clear hx hy hno
            go_wp2_with fail
            go_quiet (fail)
            go_wp2
            go_roundw
            case rel => exact ⟨t + 1, by go_num, by omega, below_drewN hbw _⟩
            case measure => simp [intOf]; omega
          · have hcz : decide ((c : Int) < (hi : Int)) = false := decide_eq_false (by omega)
            have hcz' : (hi : Int) ≤ (c : Int) := by omega
            go_wp2_with fail
            go_quiet (fail)
            go_wp2
            go_roundw
            case rel => exact ⟨t + 1, by go_num, by omega, below_drewN hbw _⟩
            case measure => simp [intOf]; omega
        · have htz : ¬ (t : Int) < 2 := by omega
          go_wp2
          go_roundw
          case rel => exact ⟨i + 1, by go_num, by omega, hb1⟩
          case measure => simp [intOf]; omega
    · have hltz : ¬ (i : Int) < (hi : Int) := by omega
      go_wp2
      go_ret
      exact ⟨rfl, hb0⟩
end Go.Proofs.Ytcamaikogengoaa
