/- The reference spec.Apart. -/
import Derived.Test.YtcamaikogengoaaBase1
namespace Go.Proofs.Ytcamaikogengoaa
set_option linter.unusedVariables false
set_option linter.unusedSimpArgs false
set_option linter.unusedSectionVars false
open Go.RowKit Go.Sort

def ApartP (s : Nat) (a b n : Int) : Prop := 0 ≤ n ∧ 0 ≤ a ∧ 0 ≤ b ∧ n ≤ s ∧ a ≤ s - n ∧ b ≤ s - n ∧ (a + n ≤ b ∨ b + n ≤ a) ∧ s ≤ 4096

set_option maxRecDepth 100000 in
set_option maxHeartbeats 1000000 in
theorem apart_yes (A : Option Addr) (s cap : Nat) (a b n : Int) (w : World) (h : ApartP s a b n) :
    Calls Try.prog 39 #[.slice A s cap, .int .i64 a, .int .i64 b, .int .i64 n] w fun e w' => e = .returned (.bool true) ∧ w' = w := by
  obtain ⟨h1, h2, h3, h4, h5, h6, h7, h8⟩ := h
  have h8z : (s : Int) ≤ 4096 := by omega
  by_cases e : a + n ≤ b
  · go_enter Try.func39, Try.ntmps39
    go_wp2
    go_ret
    exact ⟨rfl, rfl⟩
  · have e2 : b + n ≤ a := by omega
    have e1 : decide (a + n ≤ b) = false := decide_eq_false e
    go_enter Try.func39, Try.ntmps39
    go_wp2
    go_ret
    exact ⟨rfl, rfl⟩

set_option maxRecDepth 100000 in
set_option maxHeartbeats 2000000 in
theorem apart_no (A : Option Addr) (s cap : Nat) (a b n : Int) (w : World) (hs : s ≤ 2147483647) (wa : (Lit.int .i64 a).wf = true) (wb : (Lit.int .i64 b).wf = true) (wn : (Lit.int .i64 n).wf = true) (h : ¬ ApartP s a b n) :
    Calls Try.prog 39 #[.slice A s cap, .int .i64 a, .int .i64 b, .int .i64 n] w fun e w' => e = .returned (.bool false) ∧ w' = w := by
  unfold ApartP at h
  by_cases h1 : 0 ≤ n
  case neg => (have e : decide (0 ≤ n) = false := decide_eq_false h1
               go_enter Try.func39, Try.ntmps39
               go_wp2
               go_ret
               exact ⟨rfl, rfl⟩)
  by_cases h2 : 0 ≤ a
  case neg => (have e : decide (0 ≤ a) = false := decide_eq_false h2
               go_enter Try.func39, Try.ntmps39
               go_wp2
               go_ret
               exact ⟨rfl, rfl⟩)
  by_cases h3 : 0 ≤ b
  case neg => (have e : decide (0 ≤ b) = false := decide_eq_false h3
               go_enter Try.func39, Try.ntmps39
               go_wp2
               go_ret
               exact ⟨rfl, rfl⟩)
  by_cases h4 : n ≤ (s : Int)
  case neg => (have e : decide (n ≤ (s : Int)) = false := decide_eq_false h4
               go_enter Try.func39, Try.ntmps39
               go_wp2
               go_ret
               exact ⟨rfl, rfl⟩)
  by_cases h5 : a ≤ (s : Int) - n
  case neg => (have e : decide (a ≤ (s : Int) - n) = false := decide_eq_false h5
               go_enter Try.func39, Try.ntmps39
               go_wp2
               go_ret
               exact ⟨rfl, rfl⟩)
  by_cases h6 : b ≤ (s : Int) - n
  case neg => (have e : decide (b ≤ (s : Int) - n) = false := decide_eq_false h6
               go_enter Try.func39, Try.ntmps39
               go_wp2
               go_ret
               exact ⟨rfl, rfl⟩)
  by_cases h7 : a + n ≤ b ∨ b + n ≤ a
  case neg => (have e : decide (a + n ≤ b) = false := decide_eq_false fun h => h7 (.inl h)
               have e2 : decide (b + n ≤ a) = false := decide_eq_false fun h => h7 (.inr h)
               go_enter Try.func39, Try.ntmps39
               go_wp2
               go_ret
               exact ⟨rfl, rfl⟩)
  have h8 : ¬ (s : Int) ≤ 4096 := fun h8 => h ⟨h1, h2, h3, h4, h5, h6, h7, by omega⟩
  have e8 : decide ((s : Int) ≤ 4096) = false := decide_eq_false h8
  by_cases e : a + n ≤ b
  · go_enter Try.func39, Try.ntmps39
    go_wp2
    go_ret
    exact ⟨rfl, rfl⟩
  · have e2 : b + n ≤ a := by omega
    have e1 : decide (a + n ≤ b) = false := decide_eq_false e
    go_enter Try.func39, Try.ntmps39
    go_wp2
    go_ret
    exact ⟨rfl, rfl⟩

end Go.Proofs.Ytcamaikogengoaa
