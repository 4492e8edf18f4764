/- cmp.Less and cmp.isNaN at int say whether x is less than y; the world is as it was. The walk turns the worked walk of the kit over toys/so (Derived/Sort/Walk0.lean) to this program. -/
import Derived.Test.YtcamaikogengoaaRows
import Derived.Sort.Walk0
import Derived.WalkKit
namespace Go.Proofs.Ytcamaikogengoaa
set_option linter.unusedVariables false
set_option linter.unusedSimpArgs false
set_option linter.unusedSectionVars false
open Go.RowKit Go.Sort

set_option maxHeartbeats 1000000 in
theorem cmp_isNaN_int (x : Int) (w : World) : Calls Try.prog 122 #[.int .i64 x] w fun e w' => e = .returned (.bool false) ∧ w' = w := by
  go_enter Try.func122, Try.ntmps122
  go_wp2
  go_ret
  exact ⟨by simp, rfl⟩

set_option maxHeartbeats 1000000 in
theorem cmp_Less_int (x y : Int) (w : World) : Calls Try.prog 94 #[.int .i64 x, .int .i64 y] w fun e w' => e = .returned (.bool (Sort.ltInt x y)) ∧ w' = w := by
  go_enter Try.func94, Try.ntmps94
  go_wp2_with (go_at_call 122; refine (cmp_isNaN_int _ _).mono ?_; rintro e w' ⟨rfl, rfl⟩)
  go_ret
  exact ⟨rfl, rfl⟩

end Go.Proofs.Ytcamaikogengoaa
