/- The reference spec.Sorted sorts a range of a copy as plain insertion does. -/
import Derived.Test.YtcamaikogengoaaIntClone
import Derived.BigGuard
import Derived.BigCall
import Derived.CellFam
namespace Go.Proofs.Ytcamaikogengoaa
set_option linter.unusedVariables false
set_option linter.unusedSimpArgs false
set_option linter.unusedSectionVars false
open Go.RowKit Go.Sort

theorem swp_comm {α : Type} [Inhabited α] {d : Array α} {i j : Nat} (hi : i < d.size) (hj : j < d.size) : swp d i j = swp d j i := by
  refine ext_at (by rw [size_swp, size_swp]) fun k _ => ?_
  rw [swp_get d hi hj, swp_get d hj hi]
  by_cases h1 : k = i <;> by_cases h2 : k = j <;> simp_all

set_option maxHeartbeats 2000000 in
set_option maxRecDepth 100000 in
theorem Sorted_at (v : Value) (d : Array Int) (a b : Nat) (w : World) (h : SlAt HI 0 w v d) (hab : a ≤ b) (hb : b ≤ d.size) (hn : d.size ≤ 2147483647) :
    Calls Try.prog 50 #[v, .int .i64 a, .int .i64 b] w fun e w' => ∃ v', e = .returned v' ∧ SlAt HI w.heap.size w' v' (insertionSort ltInt d a b) ∧ RowKit.Below w.heap.size w w' := by
  by_cases h0 : 0 < d.size
  · go_enter Try.func50, Try.ntmps50
    go_wp2_with (first | (go_at_call 40; refine (Clone_at v d _ h hn).mono ?_; rintro e w1 ⟨v1, rfl, hs1, hb1⟩; obtain ⟨A1, c1, rfl, hcp1, hh1⟩ := hs1; obtain ⟨blk, off, rfl, g1, g2, hH⟩ := hh1 (by omega)))
    clear h hh1
    go_loopw [8] (fun vi wr => ∃ (i n : Nat) (dk : Array Int), vi = .int .i64 i ∧ a ≤ i ∧ i ≤ b ∧ dk.size = d.size ∧ wr = putRow (Value.int .i64) (Sort.ahead w1 n) blk off dk ∧
        Hid (insOuter ltInt a b i dk = insOuter ltInt a b a d)) (fun vi _ => b - (intOf vi).toNat)
    case atStart => exact ⟨a, 0, d, rfl, Nat.le_refl _, hab, rfl, (putRow_self _ _ _ _ _ hH).symm, rfl⟩
    case round =>
      obtain ⟨i, n, dk, rfl, hai, hib, hsk, hwr, HO⟩ := hrel
      by_cases hlt : i < b
      · have hltz : (i : Int) < (b : Int) := by omega
        have HWR : Hid (wr = putRow (Value.int .i64) (Sort.ahead w1 n) blk off dk) := hwr
        clear hwr
        obtain ⟨wo, rfl⟩ : ∃ wo : World, wo = wr := ⟨_, rfl⟩
        go_wp2
        go_loopw [9] (fun vj wr2 => ∃ (j m : Nat) (dj : Array Int), vj = .int .i64 j ∧ a ≤ j ∧ j ≤ i ∧ dj.size = d.size ∧ wr2 = putRow (Value.int .i64) (Sort.ahead w1 m) blk off dj ∧
            Hid (insInner ltInt a j dj = insInner ltInt a i dk)) (fun vj _ => (intOf vj).toNat)
        case atStart => exact ⟨i, n, dk, rfl, hai, Nat.le_refl _, hsk, HWR.out, rfl⟩
        case round =>
          obtain ⟨j, m, dj, rfl, haj, hji, hsj, hw2, HI'⟩ := hrel
          have out : (j ≤ a ∨ ltInt dj[j]! dj[j - 1]! = false) → ∀ q, ∃ i' n' dk', Value.int .i64 ((i : Int) + 1) = .int .i64 (i' : Nat) ∧ a ≤ i' ∧ i' ≤ b ∧ dk'.size = d.size ∧
              wr.drewN q = putRow (Value.int .i64) (Sort.ahead w1 n') blk off dk' ∧ Hid (insOuter ltInt a b i' dk' = insOuter ltInt a b a d) := fun hs q =>
            ⟨i + 1, m + q, dj, by go_num, by omega, by omega, hsj, by rw [hw2]; exact putRow_drewN _ _ _ _ _ _ _,
              by show _ = _; rw [← HO.out, insOuter_go _ _ _ _ _ hlt, ← HI'.out, insInner_stop _ _ _ _ hs]⟩
          have OUT : Hid _ := out
          clear out
          by_cases hja : a < j
          · have hjaz : (a : Int) < (j : Int) := by omega
            obtain ⟨jp, rfl⟩ : ∃ jp, j = jp + 1 := ⟨j - 1, by omega⟩
            obtain ⟨x, hx⟩ : ∃ x, dj[jp]! = x := ⟨_, rfl⟩
            obtain ⟨y, hy⟩ : ∃ y, dj[jp + 1]! = y := ⟨_, rfl⟩
            have hHj : HI wr blk off dj := by rw [hw2]; exact holds_putRow _ _ _ _ d dj (holds_ahead _ _ _ _ _ _ hH) hsj
            have k1 := (hHj jp (by omega)).1
            have k2 := (hHj (jp + 1) (by omega)).1
            have f1 := (hHj jp (by omega)).2
            have f2 := (hHj (jp + 1) (by omega)).2
            rw [hx] at k1
            rw [hy] at k2
            have HX : Hid (dj[jp]! = x) := hx
            have HY : Hid (dj[jp + 1]! = y) := hy
            have HW : Hid (wr = putRow (Value.int .i64) (Sort.ahead w1 m) blk off dj) := hw2
            have jz : (jp : Int) + 1 < (d.size : Int) := by omega
            have jz0 : (jp : Int) < (d.size : Int) := by omega
            have hjaz' : (a : Int) < (jp : Int) + 1 := by omega
            have p0 : (0 : Int) ≤ (jp : Int) + 1 := by omega
            have e0 : ((jp : Int) + 1).toNat = jp + 1 := by omega
            clear hx hy hw2 hHj
            go_wp2_with fail
            go_quiet (fail)
            go_wp2
            · -- out[k-1] > out[k]: the exchange
              have hl : y < x := by assumption
              go_region
              all_goals go_wp2
              go_roundw
              case rel =>
                refine ⟨jp, m + (nq + 1), swp dj (jp + 1) jp, by first | rfl | (congr 1; omega), by omega, by omega, by rw [size_swp]; exact hsj, ?_, ?_⟩
                · rw [HW.out, ← HX.out, ← HY.out, swp_comm (by omega) (by omega)]
                  exact swap_worldA _ w1 m (nq + 1) blk off dj jp (jp + 1) (by omega) (by omega)
                · show _ = _
                  have := insInner_go ltInt a (jp + 1) dj hja (by rw [Nat.add_sub_cancel, HX.out, HY.out]; exact decide_eq_true hl)
                  rw [Nat.add_sub_cancel] at this
                  rw [← HI'.out, this]
              case measure => simp [intOf]
            · have hl : ¬ y < x := by omega
              go_roundw
              case rel => exact OUT.out (Or.inr (by rw [Nat.add_sub_cancel, HX.out, HY.out]; exact decide_eq_false hl)) nq
              case measure => simp [intOf]; omega
          · have hjaz : decide ((j : Int) > (a : Int)) = false := decide_eq_false (by omega)
            clear hw2
            go_wp2_with fail
            go_quiet (fail)
            go_wp2
            go_roundw
            case rel => exact OUT.out (Or.inl (by omega)) nq
            case measure => simp [intOf]; omega
      · have e : i = b := by omega
        have hltz : ¬ (i : Int) < (b : Int) := by omega
        have E : Hid (i = b) := e
        have HWR : Hid (wr = putRow (Value.int .i64) (Sort.ahead w1 n) blk off dk) := hwr
        clear e hwr
        go_wp2
        go_ret
        have eD : dk = insertionSort ltInt d a b := by
          rw [← ins_from_a, ← HO.out, insOuter_stop _ _ _ _ _ hlt]
        have hat : At (Value.int .i64) w1 blk off dk wr := (At.refl hH).step g2 hsk ⟨n, HWR.out⟩
        rw [← eD]
        refine ⟨_, rfl, ⟨_, c1, by rw [hsk]; rfl, by rw [hsk]; exact hcp1, fun _ => ⟨blk, off, rfl, g1, Nat.lt_of_lt_of_le g2 (at_size_le hat), (hat.holds hH hsk g2).1⟩⟩, ?_⟩
        exact hb1.trans (at_below hat g1 hb1.size)
  · have e1 : a = 0 := by omega
    have e2 : b = 0 := by omega
    have e3 : d.size = 0 := by omega
    subst e1; subst e2
    have E3 : Hid (d.size = 0) := e3
    clear e3 h0
    go_enter Try.func50, Try.ntmps50
    go_wp2_with (first | (go_at_call 40; refine (Clone_at v d _ h hn).mono ?_; rintro e w1 ⟨v1, rfl, hs1, hb1⟩))
    refine wp_loop_rounds 1 ?_
    rw [rounds_succ]
    go_wp2
    go_ret
    refine ⟨_, rfl, ?_, hb1⟩
    have : insertionSort ltInt d 0 0 = d := by rw [← ins_from_a, insOuter_stop _ _ _ _ _ (by omega)]
    rw [this]
    exact hs1
end Go.Proofs.Ytcamaikogengoaa
