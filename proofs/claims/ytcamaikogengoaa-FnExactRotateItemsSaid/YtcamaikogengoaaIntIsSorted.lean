/- slices.IsSorted at numbers. -/
import Derived.Test.YtcamaikogengoaaBase1
import Derived.Test.YtcamaikogengoaaIntCut
import Derived.Test.YtcamaikogengoaaWLess
namespace Go.Proofs.Ytcamaikogengoaa
set_option linter.unusedVariables false
set_option linter.unusedSimpArgs false
set_option linter.unusedSectionVars false
open Go.RowKit Go.Sort

/-- No number is less than the one ahead of it. -/
def Adj (D : Array Int) : Prop := ∀ t, 0 < t → t < D.size → ltInt D[t]! D[t - 1]! = false

set_option maxRecDepth 100000 in
set_option maxHeartbeats 1000000 in
theorem IsSorted_yes (v : Value) (D : Array Int) (w : World) (h : SlAt HI 0 w v D) (hn : D.size ≤ 2147483647) (ha : Adj D) :
    Calls Try.prog 66 #[v] w fun e w' => e = .returned (.bool true) ∧ RowKit.Below w.heap.size w w' := by
  obtain ⟨A, cap, rfl, hcp, hh⟩ := h
  have HA := Lib.hid ha
  clear ha
  go_enter Try.func66, Try.ntmps66
  go_wp2
  go_loopw [3] (fun vi wr => ∃ i : Nat, vi = .int .i64 ((i : Int) - 1) ∧ i ≤ D.size ∧ RowKit.Below w.heap.size w wr) (fun vi _ => (intOf vi + 1).toNat)
  case atStart => exact ⟨D.size, rfl, Nat.le_refl _, RowKit.Below.refl _ _⟩
  case round =>
    obtain ⟨i, rfl, hi, hb⟩ := hrel
    by_cases h0 : 2 ≤ i
    · obtain ⟨i, rfl⟩ : ∃ k, i = k + 2 := ⟨i - 2, by omega⟩
      have ei : ((i + 2 : Nat) : Int) - 1 = ((i + 1 : Nat) : Int) := by omega
      rw [ei]
      have hz : (0 : Int) < ((i + 1 : Nat) : Int) := by omega
      have ez : ((i + 1 : Nat) : Int) - 1 = (i : Int) := by omega
      obtain ⟨bk, off, rfl, _, g2, hH⟩ := hh (by omega)
      have hc := HA.out (i + 1) (by omega) (by omega)
      rw [show i + 1 - 1 = i from by omega] at hc
      obtain ⟨x, hx⟩ : ∃ x, D[i + 1]! = x := ⟨_, rfl⟩
      obtain ⟨y, hy⟩ : ∃ y, D[i]! = y := ⟨_, rfl⟩
      rw [hx, hy] at hc
      have k1 : wr.cell? ⟨bk, off + (i + 1), none⟩ = some (.int .i64 x) := by rw [hb.cell (p := ⟨bk, off + (i + 1), none⟩) g2, (hH (i + 1) (by omega)).1, hx]
      have k2 : wr.cell? ⟨bk, off + i, none⟩ = some (.int .i64 y) := by rw [hb.cell (p := ⟨bk, off + i, none⟩) g2, (hH i (by omega)).1, hy]
      have LS : ∀ W, Calls Try.prog 94 #[.int .i64 x, .int .i64 y] W fun e w' => e = .returned (.bool false) ∧ w' = W := fun W => by
        have := cmp_Less_int x y W
        rwa [hc] at this
      have z1 : ((i + 1 : Nat) : Int) < (D.size : Int) := by omega
      have z2 : (i : Int) < (D.size : Int) := by omega
      have tt : ((i + 1 : Nat) : Int).toNat = i + 1 := by omega
      obtain ⟨t, ht⟩ : ∃ t, t = i + 1 := ⟨_, rfl⟩
      rw [← ht] at hz ez k1 z1 tt ⊢
      have ht2 : t ≤ D.size := by omega
      clear hx hy hc ht
      go_wp2_with fail
      go_quiet (first | (go_at_call 94; refine Calls.quiet_of_same (LS _)))
      go_wp2
      go_roundw
      case rel => exact ⟨i + 1, by go_num, by omega, below_drewN hb _⟩
      case measure => simp [intOf]; omega
    · have hz : ¬ (0 : Int) < (i : Int) - 1 := by omega
      have hz' : decide ((0 : Int) < (i : Int) - 1) = false := decide_eq_false hz
      go_wp2
      go_ret
      exact ⟨rfl, hb⟩

set_option maxRecDepth 100000 in
set_option maxHeartbeats 1000000 in
theorem IsSorted_no (v : Value) (D : Array Int) (w : World) (h : SlAt HI 0 w v D) (hn : D.size ≤ 2147483647) (ha : ¬ Adj D) :
    Calls Try.prog 66 #[v] w fun e w' => e = .returned (.bool false) ∧ RowKit.Below w.heap.size w w' := by
  obtain ⟨A, cap, rfl, hcp, hh⟩ := h
  obtain ⟨t0, ht0, ht1, ht2⟩ : ∃ t, 0 < t ∧ t < D.size ∧ ltInt D[t]! D[t - 1]! = true := Classical.byContradiction fun hn => ha fun t h1 h2 => by
    cases e : ltInt D[t]! D[t - 1]! with
    | false => rfl
    | true => exact absurd ⟨t, h1, h2, e⟩ hn
  have HT := Lib.hid ht2
  clear ht2
  clear ha
  go_enter Try.func66, Try.ntmps66
  go_wp2
  go_loopw [3] (fun vi wr => ∃ i : Nat, vi = .int .i64 ((i : Int) - 1) ∧ i ≤ D.size ∧ t0 < i ∧ RowKit.Below w.heap.size w wr) (fun vi _ => (intOf vi + 1).toNat)
  case atStart => exact ⟨D.size, rfl, Nat.le_refl _, ht1, RowKit.Below.refl _ _⟩
  case round =>
    obtain ⟨i, rfl, hi, hti, hb⟩ := hrel
    by_cases h0 : 2 ≤ i
    · obtain ⟨i, rfl⟩ : ∃ k, i = k + 2 := ⟨i - 2, by omega⟩
      have ei : ((i + 2 : Nat) : Int) - 1 = ((i + 1 : Nat) : Int) := by omega
      rw [ei]
      have hz : (0 : Int) < ((i + 1 : Nat) : Int) := by omega
      have ez : ((i + 1 : Nat) : Int) - 1 = (i : Int) := by omega
      obtain ⟨bk, off, rfl, _, g2, hH⟩ := hh (by omega)
      obtain ⟨x, hx⟩ : ∃ x, D[i + 1]! = x := ⟨_, rfl⟩
      obtain ⟨y, hy⟩ : ∃ y, D[i]! = y := ⟨_, rfl⟩
      have k1 : wr.cell? ⟨bk, off + (i + 1), none⟩ = some (.int .i64 x) := by rw [hb.cell (p := ⟨bk, off + (i + 1), none⟩) g2, (hH (i + 1) (by omega)).1, hx]
      have k2 : wr.cell? ⟨bk, off + i, none⟩ = some (.int .i64 y) := by rw [hb.cell (p := ⟨bk, off + i, none⟩) g2, (hH i (by omega)).1, hy]
      cases hc : ltInt x y with
      | false =>
        have LS : ∀ W, Calls Try.prog 94 #[.int .i64 x, .int .i64 y] W fun e w' => e = .returned (.bool false) ∧ w' = W := fun W => by
          have := cmp_Less_int x y W
          rwa [hc] at this
        have z1 : ((i + 1 : Nat) : Int) < (D.size : Int) := by omega
        have z2 : (i : Int) < (D.size : Int) := by omega
        have tt : ((i + 1 : Nat) : Int).toNat = i + 1 := by omega
        obtain ⟨t, ht⟩ : ∃ t, t = i + 1 := ⟨_, rfl⟩
        rw [← ht] at hz ez k1 z1 tt ⊢
        have ht2 : t ≤ D.size := by omega
        have hne : t0 ≠ i + 1 := by
          intro e
          have := HT.out
          rw [e, show i + 1 - 1 = i from by omega, hx, hy, hc] at this
          cases this
        clear hx hy hc ht
        go_wp2_with fail
        go_quiet (first | (go_at_call 94; refine Calls.quiet_of_same (LS _)))
        go_wp2
        go_roundw
        case rel => exact ⟨i + 1, by go_num, by omega, by omega, below_drewN hb _⟩
        case measure => simp [intOf]; omega
      | true =>
        have LS : ∀ W, Calls Try.prog 94 #[.int .i64 x, .int .i64 y] W fun e w' => e = .returned (.bool true) ∧ w' = W := fun W => by
          have := cmp_Less_int x y W
          rwa [hc] at this
        have z1 : ((i + 1 : Nat) : Int) < (D.size : Int) := by omega
        have z2 : (i : Int) < (D.size : Int) := by omega
        have tt : ((i + 1 : Nat) : Int).toNat = i + 1 := by omega
        obtain ⟨t, ht⟩ : ∃ t, t = i + 1 := ⟨_, rfl⟩
        rw [← ht] at hz ez k1 z1 tt ⊢
        have ht2 : t ≤ D.size := by omega
        clear hx hy hc ht
        go_wp2_with fail
        go_quiet (first | (go_at_call 94; refine Calls.quiet_of_same (LS _)))
        go_wp2
        go_ret
        exact ⟨rfl, below_drewN hb _⟩
    · exfalso; omega

end Go.Proofs.Ytcamaikogengoaa
