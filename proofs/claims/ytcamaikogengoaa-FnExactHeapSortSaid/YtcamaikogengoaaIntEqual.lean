/- slices.Equal at numbers says whether two lists are one; the world is as it was but for draws. -/
import Derived.Test.YtcamaikogengoaaBase1
import Derived.Test.YtcamaikogengoaaPlain1
import Derived.WalkSpells
namespace Go.Proofs.Ytcamaikogengoaa
set_option linter.unusedVariables false
set_option linter.unusedSimpArgs false
set_option linter.unusedSectionVars false
open Go.RowKit Go.Sort

def eqB (d1 d2 : Array Int) : Bool := decide (d1 = d2)
theorem eqB_size {d1 d2 : Array Int} (h : d1.size ≠ d2.size) : eqB d1 d2 = false := by unfold eqB; exact decide_eq_false (fun e => h (by rw [e]))
theorem eqB_true {d1 d2 : Array Int} (hs : d1.size = d2.size) (h : ∀ j, j < d1.size → d1[j]! = d2[j]!) : eqB d1 d2 = true := by unfold eqB; exact decide_eq_true (ext_at hs h)
theorem eqB_false {d1 d2 : Array Int} {j : Nat} (h : d1[j]! ≠ d2[j]!) : eqB d1 d2 = false := by unfold eqB; exact decide_eq_false (fun e => h (by rw [e]))

set_option maxHeartbeats 1000000 in
set_option maxRecDepth 100000 in
theorem equal_at (v1 v2 : Value) (d1 d2 : Array Int) (w : World) (h1 : SlAt HI 0 w v1 d1) (h2 : SlAt HI 0 w v2 d2) (hn1 : d1.size ≤ 2147483647) (hn2 : d2.size ≤ 2147483647) :
    Calls Try.prog 36 #[v1, v2] w fun e w' => e = .returned (.bool (eqB d1 d2)) ∧ ∃ n, w' = w.drewN n := by
  obtain ⟨A1, c1, rfl, hcp1, hh1⟩ := h1
  obtain ⟨A2, c2, rfl, hcp2, hh2⟩ := h2
  by_cases hs : d1.size = d2.size
  · have hne : ((d1.size : Int) != (d2.size : Int)) = false := by simp [hs]
    have HS : Hid (d1.size = d2.size) := hs
    have hle : d1.size ≤ d2.size := by omega
    have hle2 : d2.size ≤ d1.size := by omega
    clear hs
    go_enter Try.func36, Try.ntmps36
    go_wp2
    go_loopw [13] (fun vi wr => ∃ (k n : Nat), vi = .int .i64 k ∧ k ≤ d1.size ∧ wr = w.drewN n ∧ Hid (∀ j, j < k → d1[j]! = d2[j]!)) (fun vi _ => d1.size - (intOf vi).toNat)
    case atStart => exact ⟨0, 0, rfl, Nat.zero_le _, rfl, fun j hj => by omega⟩
    case round =>
      obtain ⟨k, n, rfl, hk, rfl, HR⟩ := hrel
      by_cases hlt : k < d1.size
      · obtain ⟨b1, o1, rfl, _, _, g1⟩ := hh1 (by omega)
        obtain ⟨b2, o2, rfl, _, _, g2⟩ := hh2 (by omega)
        obtain ⟨x, hx⟩ : ∃ x, d1[k]! = x := ⟨_, rfl⟩
        obtain ⟨y, hy⟩ : ∃ y, d2[k]! = y := ⟨_, rfl⟩
        have k1 := (g1 k hlt).1
        have k2 := (g2 k (by omega)).1
        rw [hx] at k1
        rw [hy] at k2
        have HX : Hid (d1[k]! = x) := hx
        have HY : Hid (d2[k]! = y) := hy
        clear hx hy g1 g2 hh1 hh2
        have hz : (k : Int) < (d1.size : Int) := by omega
        have hz2 : (k : Int) < (d2.size : Int) := by omega
        go_wp2_with fail
        go_quiet (fail)
        go_wp2
        · go_ret
          have hxy : (x != y) = true := by assumption
          exact ⟨congrArg (fun b => Ending.returned (.bool b)) (eqB_false (j := k) (by rw [HX.out, HY.out]; simpa using hxy)).symm, n + nq, by rw [World.drewN_drewN]⟩
        · go_roundw
          case rel =>
            have hxy : (x != y) = false := by assumption
            refine ⟨k + 1, n + nq, by go_num, by omega, rfl, fun j hj => ?_⟩
            by_cases e : j = k
            · subst e; rw [HX.out, HY.out]; simpa using hxy
            · exact HR.out j (by omega)
          case measure => simp [intOf]; omega
      · go_wp2
        go_ret
        exact ⟨congrArg (fun b => Ending.returned (.bool b)) (eqB_true HS.out fun j hj => HR.out j (by omega)).symm, n, rfl⟩
  · have hne : ((d1.size : Int) != (d2.size : Int)) = true := by simp; omega
    rw [eqB_size hs]
    clear hs
    go_enter Try.func36, Try.ntmps36
    go_wp2
    go_ret
    exact ⟨rfl, 0, rfl⟩
/-- Two slices that read as one list. -/
theorem equal_yes (v1 v2 : Value) (d : Array Int) (w : World) (h1 : SlAt HI 0 w v1 d) (h2 : SlAt HI 0 w v2 d) (hn : d.size ≤ 2147483647) :
    Calls Try.prog 36 #[v1, v2] w fun e w' => e = .returned (.bool true) ∧ RowKit.Below w.heap.size w w' :=
  (equal_at v1 v2 d d w h1 h2 hn hn).mono fun e w' ⟨he, n, hw⟩ => ⟨by rw [he]; unfold eqB; simp, by rw [hw]; exact below_drewN (RowKit.Below.refl _ _) n⟩
end Go.Proofs.Ytcamaikogengoaa
