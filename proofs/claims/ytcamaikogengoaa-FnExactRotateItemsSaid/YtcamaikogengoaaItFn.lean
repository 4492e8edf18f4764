/- byKey compares the keys of two items; what the walks of the family over items ask, once. -/
import Derived.Test.YtcamaikogengoaaItIn
import Derived.Test.YtcamaikogengoaaItClone
import Derived.Test.YtcamaikogengoaaCKit
import Derived.Test.YtcamaikogengoaaPlainMerge
namespace Go.Proofs.Ytcamaikogengoaa
set_option linter.unusedVariables false
set_option linter.unusedSimpArgs false
set_option linter.unusedSectionVars false
open Go.RowKit Go.Sort Go.Lib

def cfKey (x y : It) : Int := if x.1 < y.1 then -1 else if y.1 < x.1 then 1 else 0
theorem cfKey_neg (x y : It) : cfKey x y < 0 ↔ Prod.fst x < Prod.fst y := by
  unfold cfKey
  by_cases h : x.1 < y.1
  · rw [if_pos h]; exact ⟨fun _ => h, fun _ => by omega⟩
  · rw [if_neg h]
    constructor
    · intro hc; split at hc <;> omega
    · intro hc; exact absurd hc h
/-- An item is less than another one by its key. -/
def ltT : It → It → Bool := ltOf cfKey
theorem ltT_eq : ltT = ltKey Prod.fst := by
  funext x y
  unfold ltT ltOf ltKey
  exact decide_eq_decide.2 (cfKey_neg x y)
theorem swo_ltT : SWO ltT := by rw [ltT_eq]; exact swo_key _

set_option maxHeartbeats 400000 in
theorem byKey_at (x1 x2 y1 y2 : Int) (w : World) : Calls Try.prog 112 #[.agg #[.int .i64 x1, .int .i64 x2], .agg #[.int .i64 y1, .int .i64 y2]] w fun e w' =>
    e = .returned (.int .i64 (cfKey (x1, x2) (y1, y2))) ∧ ∃ q os', w' = grow (w.drewN q) os' := by
  have fin : ∃ q os', (w.alloc (.cells #[.int .i64 x1, .int .i64 x2] 78)).alloc (.cells #[.int .i64 y1, .int .i64 y2] 78) = grow (w.drewN q) os' :=
    ⟨0, #[.cells #[.int .i64 x1, .int .i64 x2] 78, .cells #[.int .i64 y1, .int .i64 y2] 78], by rw [alloc_eq_grow, alloc_eq_grow, grow_grow]; rfl⟩
  have FIN := Lib.hid fin
  clear fin
  by_cases h1 : x1 < y1
  · have e : cfKey (x1, x2) (y1, y2) = -1 := by unfold cfKey; exact if_pos h1
    rw [e]
    clear e
    go_enter Try.func112, Try.ntmps112
    go_wp2
    go_ret
    exact ⟨rfl, FIN.out⟩
  · by_cases h2 : y1 < x1
    · have e : cfKey (x1, x2) (y1, y2) = 1 := by unfold cfKey; rw [if_neg h1]; exact if_pos h2
      rw [e]
      clear e
      go_enter Try.func112, Try.ntmps112
      go_wp2
      go_ret
      exact ⟨rfl, FIN.out⟩
    · have e : cfKey (x1, x2) (y1, y2) = 0 := by unfold cfKey; rw [if_neg h1]; exact if_neg h2
      rw [e]
      clear e
      go_enter Try.func112, Try.ntmps112
      go_wp2
      go_ret
      exact ⟨rfl, FIN.out⟩

theorem agg78 : ∀ w, (isAgg 78).run Try.prog w = .ok true w := fun _ => by kernel_rfl
theorem enters112 : ∀ args w, (callFunc 112 args).run Try.prog w = .ok (.enter 112 args) w := enters_of Try.func112 (by kernel_rfl) rfl
theorem cmpT (blk off size : Nat) (w : World) : CmpLays Try.prog 112 #[] encIt 2 cfKey blk off size w := fun m os dk _ x y => by
  rw [Array.append_empty]
  exact byKey_at x.1 x.2 y.1 y.2 _
theorem rowT {w : World} {blk off : Nat} {d : Array It} (h : HT w blk off d) (hb : blk < w.heap.size) : RowK encIt 2 w blk off d where
  hk := len_encIt
  h1 := fun x v hv => by
    simp only [encIt, List.mem_cons, List.not_mem_nil, or_false] at hv
    rcases hv with rfl | rfl <;> rfl
  hH := h
  hblk := hb

/-- A row of items turned in place, in memory of the call's own. -/
theorem placedT {B : Nat} {A : Option Addr} {cap : Nat} {W W' : World} {b off : Nat} {d d' : Array It} (hH : HT W b off d) (hb : B ≤ b) (hlt : b < W.heap.size) (hB : B ≤ W.heap.size) (hs : d'.size = d.size) (hcp : d.size ≤ cap ∧ cap ≤ maxLen)
    (hA : A = some ⟨b, off, none⟩) (S : SWK encIt 2 W b off d' W') : SlAt HT B W' (.slice A d.size cap) d' ∧ RowKit.Below B W W' := by
  have hat : At id W b off (flatK encIt 2 d') W' := S
  exact ⟨⟨A, cap, by rw [hs], by rw [hs]; exact hcp, fun _ => ⟨b, off, hA, hb, Nat.lt_of_lt_of_le hlt (at_size_le hat), S.holds hlt hH hs⟩⟩, at_below hat hb hB⟩

end Go.Proofs.Ytcamaikogengoaa
