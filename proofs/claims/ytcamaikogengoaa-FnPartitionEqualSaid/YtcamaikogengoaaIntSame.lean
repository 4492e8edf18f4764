/- The reference spec.Same says yes of two lists that are one outside a range and permuted in it. -/
import Derived.Test.YtcamaikogengoaaIntEqual
import Derived.Test.YtcamaikogengoaaIntSorted
import Derived.Test.YtcamaikogengoaaIntCut
import Derived.Deep.RegionHeld3
namespace Go.Proofs.Ytcamaikogengoaa
set_option linter.unusedVariables false
set_option linter.unusedSimpArgs false
set_option linter.unusedSectionVars false
open Go.RowKit Go.Sort

set_option maxHeartbeats 2000000 in
set_option maxRecDepth 100000 in
theorem Same_at (v1 v2 : Value) (D1 D2 : Array Int) (a b : Nat) (w : World) (h1 : SlAt HI 0 w v1 D1) (h2 : SlAt HI 0 w v2 D2) (hab : a ≤ b) (hb : b ≤ D2.size) (hn : D2.size ≤ 2147483647) (hp : PermIn a b D2 D1) :
    Calls Try.prog 53 #[v1, v2, .int .i64 a, .int .i64 b] w fun e w' => e = .returned (.bool true) ∧ RowKit.Below w.heap.size w w' := by
  have h1' := h1
  have h2' := h2
  obtain ⟨A1, c1, rfl, hcp1, hh1⟩ := h1
  obtain ⟨A2, c2, rfl, hcp2, hh2⟩ := h2
  have hs := hp.1
  have hb1 : b ≤ D1.size := by omega
  have e1 : eqB (D1.extract 0 a) (D2.extract 0 a) = true := eqB_true (by simp; omega) fun j hj => by
    rw [part_size _ (by omega)] at hj
    rw [part_at _ (by omega) hj, part_at _ (by omega) hj]
    exact hp.2.1 _ (by omega)
  have e2 : eqB (D1.extract b D1.size) (D2.extract b D2.size) = true := eqB_true (by simp; omega) fun j hj => by
    rw [part_size _ (by omega)] at hj
    rw [part_at _ (by omega) (by omega), part_at _ (by omega) (by omega)]
    exact hp.2.1 _ (by omega)
  have e3 : insertionSort ltInt D1 a b = insertionSort ltInt D2 a b := insertionSort_perm swo_ltInt anti_int hab hb hp
  have z3 : (insertionSort ltInt D2 a b).size = D2.size := (insertionSort_holds swo_ltInt D2 a b hab hb).1.1
  have e4 : eqB (insertionSort ltInt D2 a b) (insertionSort ltInt D2 a b) = true := by unfold eqB; simp
  have p1 := fun W hW => (SlAt.part (B := 0) (w := W) (A := A1) (cap := c1) (D := D1) hW (Nat.zero_le a) (by omega))
  have p2 := fun W hW => (SlAt.part (B := 0) (w := W) (A := A2) (cap := c2) (D := D2) hW (Nat.zero_le a) (by omega))
  simp only [cutA_zero, Nat.sub_zero] at p1 p2
  have E1 : ∀ W, RowKit.Below w.heap.size w W → Calls Try.prog 36 #[.slice A1 a c1, .slice A2 a c2] W fun e w' => e = .returned (.bool true) ∧ RowKit.Below W.heap.size W w' := fun W hW => by
    have := equal_at _ _ _ _ W (p1 W (keepI h1' hW)) (p2 W (keepI h2' hW)) (by simp; omega) (by simp; omega)
    rw [e1] at this; exact this.mono fun e w' ⟨he, n, hw⟩ => ⟨he, by rw [hw]; exact below_drewN (RowKit.Below.refl _ _) n⟩
  have E2 : ∀ W, RowKit.Below w.heap.size w W → Calls Try.prog 36 #[.slice (cutA A1 c1 b 1) (D1.size - b) (c1 - b), .slice (cutA A2 c2 b 1) (D2.size - b) (c2 - b)] W fun e w' => e = .returned (.bool true) ∧ RowKit.Below W.heap.size W w' := fun W hW => by
    have := equal_at _ _ _ _ W ((keepI h1' hW).part hb1 (Nat.le_refl _)) ((keepI h2' hW).part hb (Nat.le_refl _)) (by simp; omega) (by simp; omega)
    rw [e2] at this; exact this.mono fun e w' ⟨he, n, hw⟩ => ⟨he, by rw [hw]; exact below_drewN (RowKit.Below.refl _ _) n⟩
  have S1 : ∀ W, RowKit.Below w.heap.size w W → Calls Try.prog 50 #[.slice A1 D1.size c1, .int .i64 a, .int .i64 b] W fun e w' => ∃ v', e = .returned v' ∧ SlAt HI W.heap.size w' v' (insertionSort ltInt D2 a b) ∧ RowKit.Below W.heap.size W w' := fun W hW => by
    have := Sorted_at _ _ a b W (keepI h1' hW) hab hb1 (by omega)
    rw [e3] at this; exact this
  have S2 : ∀ W, RowKit.Below w.heap.size w W → Calls Try.prog 50 #[.slice A2 D2.size c2, .int .i64 a, .int .i64 b] W fun e w' => ∃ v', e = .returned v' ∧ SlAt HI W.heap.size w' v' (insertionSort ltInt D2 a b) ∧ RowKit.Below W.heap.size W w' := fun W hW =>
    Sorted_at _ _ a b W (keepI h2' hW) hab hb (by omega)
  have E3 : ∀ W v3 v4, SlAt HI 0 W v3 (insertionSort ltInt D2 a b) → SlAt HI 0 W v4 (insertionSort ltInt D2 a b) → Calls Try.prog 36 #[v3, v4] W fun e w' => e = .returned (.bool true) ∧ RowKit.Below W.heap.size W w' := fun W v3 v4 g3 g4 => by
    have := equal_at _ _ _ _ W g3 g4 (by omega) (by omega)
    rw [e4] at this; exact this.mono fun e w' ⟨he, n, hw⟩ => ⟨he, by rw [hw]; exact below_drewN (RowKit.Below.refl _ _) n⟩
  have hle : ((D1.size : Int) == (D2.size : Int)) = true := by simp [hs]
  have q1 := fun W => run_cut_h Try.underlying27 Try.sizeOf3 A1 D1.size c1 a (by omega) W
  have q2 := fun W => run_cut_h Try.underlying27 Try.sizeOf3 A2 D2.size c2 a (by omega) W
  have q3 := fun W => run_cut_l Try.underlying27 Try.sizeOf3 A1 D1.size c1 b hb1 W
  have q4 := fun W => run_cut_l Try.underlying27 Try.sizeOf3 A2 D2.size c2 b hb W
  have hb0 : RowKit.Below w.heap.size w w.drew := below_drewN (RowKit.Below.refl _ _) 1
  have F1 := Lib.hid E1
  have F2 := Lib.hid E2
  have F3 := Lib.hid E3
  have G1 := Lib.hid S1
  have G2 := Lib.hid S2
  clear hs e1 e2 e3 z3 e4 p1 p2 E1 E2 E3 S1 S2 hp hh1 hh2 h1' h2'
  go_enter Try.func53, Try.ntmps53
  go_wp2_with fail
  go_region_held3 (fun _ => True) (trivial) (first
    | (go_at_call 36; (with_reducible refine (F1.out _ hb0).mono ?_); rintro e w1 ⟨rfl, hb1⟩; have hb1' := hb0.trans (hb1.mono hb0.size))
    | (go_at_call 36; (with_reducible refine (F2.out _ hb1').mono ?_); rintro e w2 ⟨rfl, hb2⟩; have hb2' := hb1'.trans (hb2.mono hb1'.size))
    | (go_at_call 50; (with_reducible refine (G1.out _ hb2').mono ?_); rintro e w3 ⟨v3, rfl, hs3, hb3⟩; have hb3' := hb2'.trans (hb3.mono hb2'.size))
    | (go_at_call 50; (with_reducible refine (G2.out _ hb3').mono ?_); rintro e w4 ⟨v4, rfl, hs4, hb4⟩; have hb4' := hb3'.trans (hb4.mono hb3'.size))
    | (go_at_call 36; (with_reducible refine (F3.out _ _ _ (keepI hs3 hb4) hs4.any).mono ?_); rintro e w5 ⟨rfl, hb5⟩; have hb5' := hb4'.trans (hb5.mono hb4'.size)))
  go_wp2
  go_ret
  exact ⟨rfl, hb5'⟩
end Go.Proofs.Ytcamaikogengoaa
