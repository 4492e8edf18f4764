/- slices.Min at numbers. -/
import Derived.Test.YtcamaikogengoaaBase1
import Derived.Test.YtcamaikogengoaaIntCut
namespace Go.Proofs.Ytcamaikogengoaa
set_option linter.unusedVariables false
set_option linter.unusedSimpArgs false
set_option linter.unusedSectionVars false
open Go.RowKit Go.Sort

set_option maxRecDepth 100000 in
set_option maxHeartbeats 1000000 in
theorem Min_at (v : Value) (D : Array Int) (w : World) (h : SlAt HI 0 w v D) (h0 : 0 < D.size) (hn : D.size ≤ 2147483647) :
    Calls Try.prog 62 #[v] w fun e w' => ∃ m, e = .returned (.int .i64 m) ∧ (∃ i, i < D.size ∧ D[i]! = m) ∧ (∀ i, i < D.size → m ≤ D[i]!) ∧ RowKit.Below w.heap.size w w' := by
  obtain ⟨A, cap, rfl, hcp, hh⟩ := h
  obtain ⟨bk, off, rfl, _, g2, hH⟩ := hh h0
  have z0 : ¬ (D.size : Int) < 1 := by omega
  obtain ⟨x0, hx0⟩ : ∃ x, D[0]! = x := ⟨_, rfl⟩
  have k0 : w.cell? ⟨bk, off, none⟩ = some (.int .i64 x0) := by rw [← hx0]; exact (hH 0 h0).1
  have HX0 := Lib.hid hx0
  clear hx0
  have z1 : 0 < D.size := h0
  go_enter Try.func62, Try.ntmps62
  go_wp2
  go_loopw [3, 4] (fun vm vi wr => ∃ (m : Int) (i : Nat), vm = .int .i64 m ∧ vi = .int .i64 i ∧ 0 < i ∧ i ≤ D.size ∧ Hid ((∃ t, t < D.size ∧ D[t]! = m) ∧ ∀ t, t < i → m ≤ D[t]!) ∧ RowKit.Below w.heap.size w wr) (fun _ vi _ => D.size - (intOf vi).toNat)
  case atStart =>
    refine ⟨x0, 1, rfl, rfl, by omega, by omega, Lib.hid ⟨⟨0, h0, HX0.out⟩, fun t ht => ?_⟩, RowKit.Below.refl _ _⟩
    have e : t = 0 := by omega
    rw [e, HX0.out]
    exact Int.le_refl _
  case round =>
    obtain ⟨m, i, rfl, rfl, hi0, hi, HM, hb⟩ := hrel
    by_cases hlt : i < D.size
    · have hz : (i : Int) < (D.size : Int) := by omega
      obtain ⟨x, hx⟩ : ∃ x, D[i]! = x := ⟨_, rfl⟩
      have k1 : wr.cell? ⟨bk, off + i, none⟩ = some (.int .i64 x) := by rw [hb.cell (p := ⟨bk, off + i, none⟩) g2, (hH i hlt).1, hx]
      have HX := Lib.hid hx
      clear hx k0
      go_wp2
      go_roundw
      case rel =>
        refine ⟨min m x, i + 1, ?_, by go_num, by omega, by omega, Lib.hid ⟨?_, fun t ht => ?_⟩, hb⟩
        · rfl
        · obtain ⟨t, h1, h2⟩ := HM.out.1
          rcases Int.le_total m x with h | h
          · exact ⟨t, h1, by rw [Int.min_eq_left h]; exact h2⟩
          · exact ⟨i, hlt, by rw [Int.min_eq_right h]; exact HX.out⟩
        · by_cases e : t = i
          · rw [e, HX.out]; exact Int.min_le_right _ _
          · exact Int.le_trans (Int.min_le_left _ _) (HM.out.2 t (by omega))
      case measure => simp [intOf]; omega
    · have hz : ¬ (i : Int) < (D.size : Int) := by omega
      go_wp2
      go_ret
      exact ⟨m, rfl, HM.out.1, fun t ht => HM.out.2 t (by omega), hb⟩

end Go.Proofs.Ytcamaikogengoaa
