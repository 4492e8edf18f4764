/- The reference spec.Ahead says whether no number ahead of a range is greater than one in it. -/
import Derived.Test.YtcamaikogengoaaBase1
import Derived.WalkSpells
import Derived.Sort.LotD2
namespace Go.Proofs.Ytcamaikogengoaa
set_option linter.unusedVariables false
set_option linter.unusedSimpArgs false
set_option linter.unusedSectionVars false
open Go.RowKit Go.Sort

def AheadP (D : Array Int) (a b : Nat) : Prop := ∀ i j, i < a → a ≤ j → j < b → D[i]! ≤ D[j]!

theorem ahead_below {D : Array Int} {a b : Nat} (h : AheadP D a b) : Sort.Below ltInt a b D := by
  rcases Nat.eq_zero_or_pos a with h0 | h0
  · exact .inl h0
  · refine .inr fun i h1 h2 => ?_
    have := h (a - 1) i (by omega) h1 h2
    simp only [ltInt, decide_eq_false_iff_not]
    omega

def aheadB (D : Array Int) (a b : Nat) : Bool := decide (∀ i, i < a → ∀ j, j < b → a ≤ j → D[i]! ≤ D[j]!)
theorem aheadB_true {D : Array Int} {a b : Nat} (h : AheadP D a b) : aheadB D a b = true := by unfold aheadB; exact decide_eq_true fun i hi j hj ha => h i j hi ha hj
theorem aheadB_iff {D : Array Int} {a b : Nat} : aheadB D a b = true ↔ AheadP D a b := by
  unfold aheadB AheadP
  rw [decide_eq_true_eq]
  exact ⟨fun h i j h1 h2 h3 => h i h1 j h3 h2, fun h i h1 j h3 h2 => h i j h1 h2 h3⟩
theorem aheadB_false {D : Array Int} {a b i j : Nat} (h1 : i < a) (h2 : a ≤ j) (h3 : j < b) (h : D[j]! < D[i]!) : aheadB D a b = false := by
  unfold aheadB
  exact decide_eq_false fun hh => by have := hh i h1 j h3 h2; omega

set_option maxHeartbeats 1000000 in
set_option maxRecDepth 100000 in
theorem Ahead_at (v : Value) (D : Array Int) (a b : Nat) (w : World) (h : SlAt HI 0 w v D) (hab : a ≤ b) (hb : b ≤ D.size) (hn : D.size ≤ 2147483647) :
    Calls Try.prog 34 #[v, .int .i64 a, .int .i64 b] w fun e w' => e = .returned (.bool (aheadB D a b)) ∧ w = w' := by
  obtain ⟨A, cap, rfl, hcp, hh⟩ := h
  have hc1 := hcp.1
  have hc2 : cap ≤ 9223372036854775807 := by have := hcp.2; unfold maxLen at this; omega
  clear hcp
  have hac : (a : Int) ≤ (cap : Int) := by omega
  have hbc : (b : Int) ≤ (cap : Int) := by omega
  have habz : (a : Int) ≤ (b : Int) := by omega
  by_cases h0 : a < b
  · obtain ⟨bk, off, rfl, _, _, hH⟩ := hh (by omega)
    have hne : ¬ cap = a := by omega
    clear hh
    go_enter Try.func34, Try.ntmps34
    go_wp2
    go_loop [15] (fun vi => ∃ k : Nat, vi = .int .i64 k ∧ k ≤ a ∧ Hid (∀ i j, i < k → a ≤ j → j < b → D[i]! ≤ D[j]!)) (fun vi => a - (intOf vi).toNat)
    case atStart => exact ⟨0, rfl, Nat.zero_le _, fun i j hi => by omega⟩
    case round =>
      obtain ⟨k, rfl, hk, HR⟩ := hrel
      by_cases hlt : k < a
      · have hltz : (k : Int) < (a : Int) := by omega
        obtain ⟨x, hx⟩ : ∃ x, D[k]! = x := ⟨_, rfl⟩
        have k1 := (hH k (by omega)).1
        rw [hx] at k1
        have HX : Hid (D[k]! = x) := hx
        clear hx
        go_wp2
        go_loop [24] (fun vj => ∃ l : Nat, vj = .int .i64 l ∧ l ≤ b - a ∧ Hid (∀ j, a ≤ j → j < a + l → D[k]! ≤ D[j]!)) (fun vj => (b - a) - (intOf vj).toNat)
        case atStart => exact ⟨0, rfl, Nat.zero_le _, fun j h1 h2 => by omega⟩
        case round =>
          obtain ⟨l, rfl, hl, HL⟩ := hrel
          by_cases hlt2 : l < b - a
          · have hlz : (l : Int) < (b : Int) - (a : Int) := by omega
            obtain ⟨y, hy⟩ : ∃ y, D[a + l]! = y := ⟨_, rfl⟩
            have k2 := (hH (a + l) (by omega)).1
            rw [hy] at k2
            have k3 : w.cell? ⟨bk, off + a + l, none⟩ = some (.int .i64 y) := by rw [Nat.add_assoc]; exact k2
            have HY : Hid (D[a + l]! = y) := hy
            clear hy
            go_wp2
            · have hgt : y < x := by assumption
              go_ret
              exact ⟨congrArg (fun b => Ending.returned (.bool b)) (aheadB_false (i := k) (j := a + l) hlt (by omega) (by omega) (by rw [HX.out, HY.out]; exact hgt)).symm, rfl⟩
            · go_round
              case rel =>
                refine ⟨l + 1, by go_num, by omega, fun j h1 h2 => ?_⟩
                by_cases e : j = a + l
                · subst e; rw [HX.out, HY.out]; omega
                · exact HL.out j h1 (by omega)
              case measure => simp [intOf]; omega
          · have hlz : ¬ (l : Int) < (b : Int) - (a : Int) := by omega
            go_wp2
            go_round
            case rel =>
              refine ⟨k + 1, by go_num, by omega, fun i j h1 h2 h3 => ?_⟩
              by_cases e : i = k
              · subst e; exact HL.out j h2 (by omega)
              · exact HR.out i j (by omega) h2 h3
            case measure => simp [intOf]; omega
      · go_wp2
        go_ret
        exact ⟨congrArg (fun b => Ending.returned (.bool b)) (aheadB_true fun i j h1 h2 h3 => HR.out i j (by omega) h2 h3).symm, rfl⟩
  · have e : a = b := by omega
    subst e
    have ht : aheadB D a a = true := aheadB_true fun i j _ h2 h3 => by omega
    rw [ht]
    by_cases ha : 0 < a
    · obtain ⟨bk, off, rfl, _, _, hH⟩ := hh (by omega)
      clear hh ht
      go_enter Try.func34, Try.ntmps34
      go_wp2
      go_loop [15] (fun vi => ∃ k : Nat, vi = .int .i64 k ∧ k ≤ a) (fun vi => a - (intOf vi).toNat)
      case atStart => exact ⟨0, rfl, Nat.zero_le _⟩
      case round =>
        obtain ⟨k, rfl, hk⟩ := hrel
        by_cases hlt : k < a
        · have hltz : (k : Int) < (a : Int) := by omega
          obtain ⟨x, hx⟩ : ∃ x, D[k]! = x := ⟨_, rfl⟩
          have k1 := (hH k (by omega)).1
          rw [hx] at k1
          clear hx
          by_cases hca : cap = a
          · subst hca
            go_wp2
            refine wp_loop_rounds 1 ?_
            rw [rounds_succ]
            go_wp2
            go_round
            case rel => exact ⟨k + 1, by go_num, by omega⟩
            case measure => simp [intOf]; omega
          · go_wp2
            refine wp_loop_rounds 1 ?_
            rw [rounds_succ]
            go_wp2
            go_round
            case rel => exact ⟨k + 1, by go_num, by omega⟩
            case measure => simp [intOf]; omega
        · go_wp2
          go_ret
          exact ⟨rfl, rfl⟩
    · have e : a = 0 := by omega
      subst e
      clear hh ht
      go_enter Try.func34, Try.ntmps34
      go_wp2
      refine wp_loop_rounds 1 ?_
      rw [rounds_succ]
      go_wp2
      go_ret
      exact ⟨rfl, rfl⟩
end Go.Proofs.Ytcamaikogengoaa
