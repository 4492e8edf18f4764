/- What two copies into a copy of a list make of it: two ranges that are apart, exchanged. -/
import Derived.Test.YtcamaikogengoaaIntCloneOwn
import Derived.Test.YtcamaikogengoaaIntCut
import Derived.Test.YtcamaikogengoaaPlainSwap
import Derived.Laws.CopyOwn
namespace Go.Proofs.Ytcamaikogengoaa
set_option linter.unusedVariables false
set_option linter.unusedSimpArgs false
set_option linter.unusedSectionVars false
open Go.RowKit Go.Sort

theorem step_copy_nothing {P : Program} {ops : Array Oper} {o : Oper} {a : Act} {w : World} {K : Act → World → Prop} {Q : Exit → Act → World → Prop} {E : Prop} (hgd : o.guard = none) (d s : Operand) (dT sT : TypeId)
    (ho : o.op = .call { callee := .builtin .copy, args := #[d, s], argTypes := #[dT, sT] }) (elem : TypeId) (hu : P.underlying dT = some (.slice elem)) (hsz : (P.info? elem).map (·.size) = some 1)
    (dp sp : Option Addr) (dLen dCap sLen sCap : Nat) (hd : a.eval d = .slice dp dLen dCap) (hs : a.eval s = .slice sp sLen sCap) (hn : Nat.min sLen dLen = 0)
    (h : K (a.put o.dst (goInt 0)) w) : if Region.wanted o (yielded ops a.tmps) = true then Oper.wp P o a w K Q else E := by
  have hw : Region.wanted o (yielded ops a.tmps) = true := by simp [Region.wanted, hgd]
  rw [if_pos hw]
  have hrun := run_copy_none (P := P) w dT sT o.type elem dp sp dLen dCap sLen sCap hu hsz hn
  unfold Oper.wp
  simp [execOp, ho, resolve, invoke, builtin, hd, hs, hrun, Result.andThen]
  exact h

theorem cut_n (A : Option Addr) (s cap a n : Nat) (h : a + n ≤ cap) (W : World) :
    (Instr.sliceAt 27 (.slice A s cap) (some (.int .i64 a)) (some (.int .i64 ((a : Int) + (n : Int)))) none).run Try.prog W = .ok (.slice (cutA A cap a 1) n (cap - a)) W := by
  have := run_cut_lh Try.underlying27 Try.sizeOf3 A s cap a (a + n) (by omega) h W
  rw [show a + n - a = n from by omega, show ((a + n : Nat) : Int) = (a : Int) + (n : Int) from by omega] at this
  exact this

theorem size3 : (Try.prog.info? 3).map (·.size) = some 1 := by kernel_rfl

/-- A part's numbers, as values. -/
def partV (D : Array Int) (a n : Nat) : List Value := (D.extract a (a + n)).toList.map (Value.int .i64)
theorem partV_len (D : Array Int) {a n : Nat} (h : a + n ≤ D.size) : (partV D a n).length = n := by unfold partV; simp; omega
theorem part_reads {w : World} {A : Option Addr} {cap : Nat} {D : Array Int} {a n : Nat} (h : SlAt HI 0 w (.slice A D.size cap) D) (ha : a + n ≤ D.size) (hn : 0 < n) :
    ∃ ad, cutA A cap a 1 = some ad ∧ ∀ j v, (partV D a n)[j]? = some v → w.cell? (ad.add j) = some v := by
  have g := h.part (a := a) (b := a + n) (by omega) ha
  rw [show a + n - a = n from by omega] at g
  obtain ⟨ad, e, _, hc⟩ := (reads_ints g (Nat.le_refl _)).2 hn
  exact ⟨ad, e, hc⟩

theorem splice_append {α : Type} (X R : List α) (off : Nat) (cs : List α) (h : off + cs.length ≤ X.length) : splice (X ++ R) off cs = splice X off cs ++ R := by
  unfold splice
  rw [List.take_append_of_le_length (by omega), List.drop_append_of_le_length (by omega)]
  simp

/-- The copy of a list with both parts laid over it owns what the exchange makes. -/
theorem want_reads {w w3 : World} {B g cap : Nat} {D : Array Int} {cur : List Value} {a b n : Nat} (hB : B ≤ g) (hcp : D.size ≤ cap ∧ cap ≤ maxLen) (hcl : cur.length = cap) (htk : cur.take D.size = D.toList.map (Value.int .i64))
    (hab : a + n ≤ b ∨ b + n ≤ a) (ha : a + n ≤ D.size) (hb : b + n ≤ D.size) (h : w3.heap[g]? = some (.cells (splice (splice cur a (partV D b n)) b (partV D a n)).toArray 3 (0, 0))) :
    SlAt HI B w3 (.slice (some ⟨g, 0, none⟩) D.size cap) (swapRange D a b n) := by
  have l1 := partV_len D ha
  have l2 := partV_len D hb
  have hcur : cur = D.toList.map (Value.int .i64) ++ cur.drop D.size := by rw [← htk, List.take_append_drop]
  have hx : splice (splice cur a (partV D b n)) b (partV D a n) = (swapRange D a b n).toList.map (Value.int .i64) ++ cur.drop D.size := by
    conv => lhs; rw [hcur]
    rw [splice_append _ _ _ _ (by rw [l2]; simpa using ha), splice_append _ _ _ _ (by rw [l1, length_splice _ _ _ (by rw [l2]; simpa using ha)]; simpa using hb)]
    congr 1
    unfold partV
    rw [splice_map, splice_map, two_splices hab ha hb]
  have hsz := (swapRange_spec hab ha hb).1
  rw [hx] at h
  refine (ints_of_own (W := w3) (B := B) (e := 3) (n := D.size) ⟨by simp [hsz], .inr ⟨g, cap, _, rfl, hB, h, hcp.1, hcp.2, ?_, ?_⟩⟩)
  · simp [hsz]; omega
  · simp [hsz]
end Go.Proofs.Ytcamaikogengoaa
