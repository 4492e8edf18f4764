/- The reference spec.Turned turns a range of a copy round. -/
import Derived.Test.YtcamaikogengoaaIntClone
import Derived.Test.YtcamaikogengoaaPlainRot
import Derived.Sort.WalkA
namespace Go.Proofs.Ytcamaikogengoaa
set_option linter.unusedVariables false
set_option linter.unusedSimpArgs false
set_option linter.unusedSectionVars false
open Go.RowKit Go.Sort

/-- 'for i := ..; i < b; i++ { out[i] = data[a+b-1-i] }', from i. -/
def turnLoop (D : Array Int) (a b i : Nat) (d : Array Int) : Array Int := if i < b then turnLoop D a b (i + 1) (d.setIfInBounds i D[a + b - 1 - i]!) else d
termination_by b - i
theorem turn_go {D d : Array Int} {a b i : Nat} (h : i < b) : turnLoop D a b i d = turnLoop D a b (i + 1) (d.setIfInBounds i D[a + b - 1 - i]!) := by rw [turnLoop, if_pos h]
theorem turn_end {D d : Array Int} {a b i : Nat} (h : ¬ i < b) : turnLoop D a b i d = d := by rw [turnLoop, if_neg h]
theorem turn_spec (D : Array Int) (a b : Nat) : ∀ (k i : Nat) (d : Array Int), b - i ≤ k → a ≤ i → b ≤ d.size → (turnLoop D a b i d).size = d.size ∧ ∀ p, (turnLoop D a b i d)[p]! = if i ≤ p ∧ p < b then D[a + b - 1 - p]! else d[p]! := by
  intro k
  induction k with
  | zero => intro i d hk ha hb; rw [turn_end (by omega)]; exact ⟨rfl, fun p => by rw [if_neg (by omega)]⟩
  | succ k ih =>
    intro i d hk ha hb
    by_cases h : i < b
    · rw [turn_go h]
      obtain ⟨z, g⟩ := ih (i + 1) (d.setIfInBounds i D[a + b - 1 - i]!) (by omega) (by omega) (by simpa using hb)
      refine ⟨by rw [z]; simp, fun p => ?_⟩
      rw [g]
      by_cases c : i ≤ p ∧ p < b
      · rw [if_pos c]
        by_cases c1 : p = i
        · subst c1; rw [if_neg (by omega), getElem!_set_same d p _ (by omega)]
        · rw [if_pos (by omega)]
      · rw [if_neg c, if_neg (by omega), getElem!_set_other d i p _ (by omega)]
    · rw [turn_end h]; exact ⟨rfl, fun p => by rw [if_neg (by omega)]⟩
theorem turn_reverse {D : Array Int} {a b : Nat} (hab : a ≤ b) (hb : b ≤ D.size) : turnLoop D a b a D = reverseRange D a b := by
  obtain ⟨z, g⟩ := turn_spec D a b _ a D (Nat.le_refl _) (Nat.le_refl _) hb
  obtain ⟨z2, g2⟩ := reverseRange_spec hab hb
  exact ext_at (z.trans z2.symm) fun p hp => by rw [g, g2]

set_option maxHeartbeats 1000000 in
set_option maxRecDepth 100000 in
theorem Turned_at (v : Value) (d : Array Int) (a b : Nat) (w : World) (h : SlAt HI 0 w v d) (hab : a ≤ b) (hb : b ≤ d.size) (hn : d.size ≤ 2147483647) :
    Calls Try.prog 43 #[v, .int .i64 a, .int .i64 b] w fun e w' => ∃ v', e = .returned v' ∧ SlAt HI w.heap.size w' v' (reverseRange d a b) ∧ RowKit.Below w.heap.size w w' := by
  have h' := h
  obtain ⟨A, cap, rfl, hcp, hh⟩ := h
  by_cases h0 : 0 < d.size
  · obtain ⟨b0, o0, rfl, _, k0, hH0⟩ := hh h0
    clear hh
    go_enter Try.func43, Try.ntmps43
    go_wp2_with (first | (go_at_call 40; refine (Clone_at _ d _ h' hn).mono ?_; rintro e w1 ⟨v1, rfl, hs1, hb1⟩; obtain ⟨A1, c1, rfl, hcp1, hh1⟩ := hs1; obtain ⟨blk, off, rfl, g1, g2, hH⟩ := hh1 (by omega)))
    have hne : b0 ≠ blk := by omega
    have hH1 : HI w1 b0 o0 d := holds_block hH0 (hb1.block b0 k0)
    clear h' hh1 hH0
    go_loopw [8] (fun vi wr => ∃ (i n : Nat) (dk : Array Int), vi = .int .i64 i ∧ a ≤ i ∧ i ≤ b ∧ dk.size = d.size ∧ wr = putRow (Value.int .i64) (Sort.ahead w1 n) blk off dk ∧
        Hid (turnLoop d a b i dk = turnLoop d a b a d)) (fun vi _ => b - (intOf vi).toNat)
    case atStart => exact ⟨a, 0, d, rfl, Nat.le_refl _, hab, rfl, (putRow_self _ _ _ _ _ hH).symm, rfl⟩
    case round =>
      obtain ⟨i, n, dk, rfl, hai, hib, hsk, hwr, HO⟩ := hrel
      have HWR : Hid (wr = putRow (Value.int .i64) (Sort.ahead w1 n) blk off dk) := hwr
      by_cases hlt : i < b
      · have hltz : (i : Int) < (b : Int) := by omega
        have hHk : HI wr blk off dk := by rw [hwr]; exact holds_putRow _ _ _ _ d dk (holds_ahead _ _ _ _ _ _ hH) hsk
        have k1 := (hHk i (by omega)).1
        have f1 := (hHk i (by omega)).2
        obtain ⟨x, hx⟩ : ∃ x, d[a + b - 1 - i]! = x := ⟨_, rfl⟩
        obtain ⟨j, hj⟩ : ∃ j, a + b - 1 - i = j := ⟨_, rfl⟩
        have hjz : (a : Int) + (b : Int) - 1 - (i : Int) = (j : Int) := by omega
        have hj1 : j < d.size := by omega
        have k2 : wr.cell? ⟨b0, o0 + j, none⟩ = some (.int .i64 x) := by
          rw [hwr, cell?_putRow_other _ _ _ _ _ _ (.inl hne), ← hx, hj]
          exact (hH1 j hj1).1
        have jz : (j : Int) < (d.size : Int) := by omega
        have HX : Hid (d[a + b - 1 - i]! = x) := hx
        obtain ⟨y, hy⟩ : ∃ y, dk[i]! = y := ⟨_, rfl⟩
        rw [hy] at k1
        clear hwr hHk hx hj hy
        go_wp2
        go_roundw
        case rel =>
          refine ⟨i + 1, n, dk.setIfInBounds i x, by go_num, by omega, by omega, by simpa using hsk, ?_, ?_⟩
          · rw [HWR.out]; exact putRow_set _ _ blk off dk i x (by omega)
          · show _ = _
            rw [← HO.out, turn_go hlt, HX.out]
        case measure => simp [intOf]; omega
      · have hltz : ¬ (i : Int) < (b : Int) := by omega
        clear hwr
        go_wp2
        go_ret
        have eD : dk = reverseRange d a b := by rw [← turn_reverse hab hb, ← HO.out, turn_end hlt]
        have hat : At (Value.int .i64) w1 blk off dk wr := (At.refl hH).step g2 hsk ⟨n, HWR.out⟩
        rw [← eD]
        refine ⟨_, rfl, ⟨_, c1, by rw [hsk]; rfl, by rw [hsk]; exact hcp1, fun _ => ⟨blk, off, rfl, g1, Nat.lt_of_lt_of_le g2 (at_size_le hat), (hat.holds hH hsk g2).1⟩⟩, ?_⟩
        exact hb1.trans (at_below hat g1 hb1.size)
  · have e1 : a = 0 := by omega
    have e2 : b = 0 := by omega
    have e3 : d.size = 0 := by omega
    subst e1; subst e2
    have E3 : Hid (d.size = 0) := e3
    clear e3 h0 hh
    go_enter Try.func43, Try.ntmps43
    go_wp2_with (first | (go_at_call 40; refine (Clone_at _ d _ h' hn).mono ?_; rintro e w1 ⟨v1, rfl, hs1, hb1⟩))
    refine wp_loop_rounds 1 ?_
    rw [rounds_succ]
    go_wp2
    go_ret
    refine ⟨_, rfl, ?_, hb1⟩
    rw [← turn_reverse (Nat.le_refl _) (by omega), turn_end (by omega)]
    exact hs1
end Go.Proofs.Ytcamaikogengoaa
