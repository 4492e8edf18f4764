/- slices.Equal at items says yes of two slices that read as one list. -/
import Derived.Test.YtcamaikogengoaaItWords
import Derived.BigQuiet
import Derived.Laws.StructEq
import Derived.Lib.Hide
namespace Go.Proofs.Ytcamaikogengoaa
set_option linter.unusedVariables false
set_option linter.unusedSimpArgs false
set_option linter.unusedSectionVars false
open Go.RowKit Go.Sort

set_option maxRecDepth 100000 in
theorem run_neq_item (x1 x2 : Int) (w : World) : (binOp .neq 50 (.agg #[.int .i64 x1, .int .i64 x2]) (.agg #[.int .i64 x1, .int .i64 x2])).run Try.prog w = .ok (.bool false) w := by
  have e : (Op.equalIn 10000 50 (.agg #[.int .i64 x1, .int .i64 x2]) (.agg #[.int .i64 x1, .int .i64 x2])).run Try.prog w = .ok true w := by
    rw [run_equalIn_struct w 9999 50 _ _ (by rw [Program.fieldsOf, Try.underlying50]) (by kernel_rfl), Program.fieldsOf, Try.underlying50]
    simp [Op.eqFields, part, Try.sizeOf3, run_equalIn_int (d := 9998) (h := Try.underlying3), Try.isAgg3]
  rw [run_neq_struct, e]
  rfl

set_option maxHeartbeats 1000000 in
set_option maxRecDepth 100000 in
theorem equalT_yes (v1 v2 : Value) (d : Array It) (w : World) (h1 : SlAt HT 0 w v1 d) (h2 : SlAt HT 0 w v2 d) (hn : d.size ≤ 2147483647) :
    Calls Try.prog 59 #[v1, v2] w fun e w' => e = .returned (.bool true) ∧ ∃ n, w' = w.drewN n := by
  obtain ⟨A1, c1, rfl, hcp1, hh1⟩ := h1
  obtain ⟨A2, c2, rfl, hcp2, hh2⟩ := h2
  have hne : ((d.size : Int) != (d.size : Int)) = false := by simp
  go_enter Try.func59, Try.ntmps59
  go_wp2
  go_loopw [13] (fun vi wr => ∃ (k n : Nat), vi = .int .i64 k ∧ k ≤ d.size ∧ wr = w.drewN n) (fun vi _ => d.size - (intOf vi).toNat)
  case atStart => exact ⟨0, 0, rfl, Nat.zero_le _, rfl⟩
  case round =>
    obtain ⟨k, n, rfl, hk, rfl⟩ := hrel
    by_cases hlt : k < d.size
    · obtain ⟨b1, o1, rfl, _, _, g1⟩ := hh1 (by omega)
      obtain ⟨b2, o2, rfl, _, _, g2⟩ := hh2 (by omega)
      obtain ⟨x, hx⟩ : ∃ x, x = d[k]! := ⟨_, rfl⟩
      have k1 := (HT.fst g1 hlt).1
      have k2 := (HT.snd g1 hlt).1
      have k3 := (HT.fst g2 hlt).1
      have k4 := (HT.snd g2 hlt).1
      rw [← hx] at k1 k2 k3 k4
      have hq := run_neq_item x.1 x.2
      clear hx g1 g2 hh1 hh2
      have hz : (k : Int) < (d.size : Int) := by omega
      go_wp2_with fail
      go_quiet (fail)
      go_wp2
      go_roundw
      case rel => exact ⟨k + 1, n + nq, by go_num, by omega, rfl⟩
      case measure => simp [intOf]; omega
    · have hz : ¬ (k : Int) < (d.size : Int) := by omega
      go_wp2
      go_ret
      exact ⟨rfl, n, rfl⟩
end Go.Proofs.Ytcamaikogengoaa
