/- The reference spec.SameItems says yes of two lists of items that are one outside a range and permuted in it. -/
import Derived.Test.YtcamaikogengoaaItEqual
import Derived.Test.YtcamaikogengoaaItSorted
import Derived.Deep.RegionHeld3
namespace Go.Proofs.Ytcamaikogengoaa
set_option linter.unusedVariables false
set_option linter.unusedSimpArgs false
set_option linter.unusedSectionVars false
open Go.RowKit Go.Sort

theorem part_same {α : Type} [Inhabited α] {D1 D2 : Array α} {a b l h l' h' : Nat} (hp : PermIn a b D2 D1) (hh : h ≤ D1.size) (hh' : h' ≤ D2.size) (e : l = l') (e2 : h = h') (hq : ∀ i, l ≤ i → i < h → i < a ∨ b ≤ i) : D1.extract l h = D2.extract l' h' := by
  subst e; subst e2
  refine ext_at (by simp; omega) fun j hj => ?_
  have hj2 : j < h - l := by simp at hj; omega
  rw [part_at _ hh hj2, part_at _ hh' hj2]
  exact hp.2.1 _ (hq _ (by omega) (by omega))

set_option maxHeartbeats 2000000 in
set_option maxRecDepth 100000 in
theorem SameItems_at (v1 v2 : Value) (D1 D2 : Array It) (a b : Nat) (w : World) (h1 : SlAt HT 0 w v1 D1) (h2 : SlAt HT 0 w v2 D2) (hab : a ≤ b) (hb : b ≤ D2.size) (hn : D2.size ≤ 2147483647) (hp : PermIn a b D2 D1) :
    Calls Try.prog 48 #[v1, v2, .int .i64 a, .int .i64 b] w fun e w' => e = .returned (.bool true) ∧ RowKit.Below w.heap.size w w' := by
  have h1' := h1
  have h2' := h2
  obtain ⟨A1, c1, rfl, hcp1, hh1⟩ := h1
  obtain ⟨A2, c2, rfl, hcp2, hh2⟩ := h2
  have hs := hp.1
  have hb1 : b ≤ D1.size := by omega
  have e1 : D1.extract 0 a = D2.extract 0 a := part_same hp (by omega) (by omega) rfl rfl fun i _ hi => .inl hi
  have e2 : D1.extract b D1.size = D2.extract b D2.size := part_same hp (Nat.le_refl _) (Nat.le_refl _) rfl hs fun i hi _ => .inr hi
  have e3 : insertionSort ltF D1 a b = insertionSort ltF D2 a b := insertionSort_perm swo_ltF anti_ltF hab hb hp
  have z3 : (insertionSort ltF D2 a b).size = D2.size := (insertionSort_holds swo_ltF D2 a b hab hb).1.1
  have p1 := fun W hW => (SlAt.partT (B := 0) (w := W) (A := A1) (cap := c1) (D := D1) hW (Nat.zero_le a) (by omega))
  have p2 := fun W hW => (SlAt.partT (B := 0) (w := W) (A := A2) (cap := c2) (D := D2) hW (Nat.zero_le a) (by omega))
  simp only [cutA_zero, Nat.sub_zero] at p1 p2
  have E1 : ∀ W, RowKit.Below w.heap.size w W → Calls Try.prog 59 #[.slice A1 a c1, .slice A2 a c2] W fun e w' => e = .returned (.bool true) ∧ RowKit.Below W.heap.size W w' := fun W hW => by
    have q1 := p1 W (keepT h1' hW)
    rw [e1] at q1
    exact (equalT_yes _ _ _ W q1 (p2 W (keepT h2' hW)) (by simp; omega)).mono fun e w' ⟨he, n, hw⟩ => ⟨he, by rw [hw]; exact below_drewN (RowKit.Below.refl _ _) n⟩
  have E2 : ∀ W, RowKit.Below w.heap.size w W → Calls Try.prog 59 #[.slice (cutA A1 c1 b 2) (D1.size - b) (c1 - b), .slice (cutA A2 c2 b 2) (D2.size - b) (c2 - b)] W fun e w' => e = .returned (.bool true) ∧ RowKit.Below W.heap.size W w' := fun W hW => by
    have q1 := (keepT h1' hW).partT hb1 (Nat.le_refl _)
    rw [e2] at q1
    exact (equalT_yes _ _ _ W q1 ((keepT h2' hW).partT hb (Nat.le_refl _)) (by simp; omega)).mono fun e w' ⟨he, n, hw⟩ => ⟨he, by rw [hw]; exact below_drewN (RowKit.Below.refl _ _) n⟩
  have S1 : ∀ W, RowKit.Below w.heap.size w W → Calls Try.prog 84 #[.slice A1 D1.size c1, .int .i64 a, .int .i64 b] W fun e w' => ∃ v', e = .returned v' ∧ SlAt HT W.heap.size w' v' (insertionSort ltF D2 a b) ∧ RowKit.Below W.heap.size W w' := fun W hW => by
    have := Full_at _ _ a b W (keepT h1' hW) hab hb1 (by omega)
    rw [e3] at this; exact this
  have S2 : ∀ W, RowKit.Below w.heap.size w W → Calls Try.prog 84 #[.slice A2 D2.size c2, .int .i64 a, .int .i64 b] W fun e w' => ∃ v', e = .returned v' ∧ SlAt HT W.heap.size w' v' (insertionSort ltF D2 a b) ∧ RowKit.Below W.heap.size W w' := fun W hW =>
    Full_at _ _ a b W (keepT h2' hW) hab hb (by omega)
  have E3 : ∀ W v3 v4, SlAt HT 0 W v3 (insertionSort ltF D2 a b) → SlAt HT 0 W v4 (insertionSort ltF D2 a b) → Calls Try.prog 59 #[v3, v4] W fun e w' => e = .returned (.bool true) ∧ RowKit.Below W.heap.size W w' := fun W v3 v4 g3 g4 =>
    (equalT_yes _ _ _ W g3 g4 (by omega)).mono fun e w' ⟨he, n, hw⟩ => ⟨he, by rw [hw]; exact below_drewN (RowKit.Below.refl _ _) n⟩
  have hle : ((D1.size : Int) == (D2.size : Int)) = true := by simp [hs]
  have q1 := fun W => run_cut_h Try.underlying39 size50 A1 D1.size c1 a (by omega) W
  have q2 := fun W => run_cut_h Try.underlying39 size50 A2 D2.size c2 a (by omega) W
  have q3 := fun W => run_cut_l Try.underlying39 size50 A1 D1.size c1 b hb1 W
  have q4 := fun W => run_cut_l Try.underlying39 size50 A2 D2.size c2 b hb W
  have hb0 : RowKit.Below w.heap.size w w.drew := below_drewN (RowKit.Below.refl _ _) 1
  have F1 := Lib.hid E1
  have F2 := Lib.hid E2
  have F3 := Lib.hid E3
  have G1 := Lib.hid S1
  have G2 := Lib.hid S2
  clear hs e1 e2 e3 z3 p1 p2 E1 E2 E3 S1 S2 hp hh1 hh2 h1' h2'
  go_enter Try.func48, Try.ntmps48
  go_wp2_with fail
  go_region_held3 (fun _ => True) (trivial) (first
    | (go_at_call 59; (with_reducible refine (F1.out _ hb0).mono ?_); rintro e w1 ⟨rfl, hb1⟩; have hb1' := hb0.trans (hb1.mono hb0.size))
    | (go_at_call 59; (with_reducible refine (F2.out _ hb1').mono ?_); rintro e w2 ⟨rfl, hb2⟩; have hb2' := hb1'.trans (hb2.mono hb1'.size))
    | (go_at_call 84; (with_reducible refine (G1.out _ hb2').mono ?_); rintro e w3 ⟨v3, rfl, hs3, hb3⟩; have hb3' := hb2'.trans (hb3.mono hb2'.size))
    | (go_at_call 84; (with_reducible refine (G2.out _ hb3').mono ?_); rintro e w4 ⟨v4, rfl, hs4, hb4⟩; have hb4' := hb3'.trans (hb4.mono hb3'.size))
    | (go_at_call 59; (with_reducible refine (F3.out _ _ _ (keepT hs3 hb4) hs4.any).mono ?_); rintro e w5 ⟨rfl, hb5⟩; have hb5' := hb4'.trans (hb5.mono hb4'.size)))
  go_wp2
  go_ret
  exact ⟨rfl, hb5'⟩
end Go.Proofs.Ytcamaikogengoaa
