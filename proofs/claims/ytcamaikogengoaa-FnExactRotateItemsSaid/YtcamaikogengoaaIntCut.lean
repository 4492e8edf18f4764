/- A part of a slice: its value under one name, and what it reads as. -/
import Derived.Test.YtcamaikogengoaaBase1
import Derived.Test.YtcamaikogengoaaPlain1
namespace Go.Proofs.Ytcamaikogengoaa
set_option linter.unusedVariables false
set_option linter.unusedSimpArgs false
set_option linter.unusedSectionVars false
open Go.RowKit Go.Sort

/-- Where a part begins. -/
def cutA (A : Option Addr) (cap l s : Nat) : Option Addr := if cap = l then A else A.map (·.add (l * s))

theorem add_zero_addr (x : Addr) : x.add 0 = x := by unfold Addr.add; rw [if_pos rfl]

theorem cutA_zero (A : Option Addr) (cap s : Nat) : cutA A cap 0 s = A := by
  unfold cutA
  split
  · rfl
  · cases A <;> simp [add_zero_addr]

theorem elem_of {t e : TypeId} (h : Try.prog.underlying t = some (.slice e)) : Try.prog.elem t = e := by
  simp [Program.elem, h]
section
variable {t e s : Nat} (ht : Try.prog.underlying t = some (.slice e)) (hs : ∀ w, (sizeOf e).run Try.prog w = .ok s w)
include ht hs
theorem run_cut_lh (A : Option Addr) (n cap l h : Nat) (h1 : l ≤ h) (h2 : h ≤ cap) (w : World) :
    (Instr.sliceAt t (.slice A n cap) (some (.int .i64 l)) (some (.int .i64 h)) none).run Try.prog w = .ok (.slice (cutA A cap l s) (h - l) (cap - l)) w := by
  have he := elem_of ht
  rw [run_sliceAt_slice w t _ _ _ _ (by rw [he]; exact ht), run_slice_lh w t A n cap (by rw [he]; exact ht) .i64 .i64 l h (by omega) (by omega) (by omega), he, hs]
  simp [Result.andThen, sliced, cutA]
theorem run_cut_h (A : Option Addr) (n cap h : Nat) (h2 : h ≤ cap) (w : World) :
    (Instr.sliceAt t (.slice A n cap) none (some (.int .i64 h)) none).run Try.prog w = .ok (.slice A h cap) w := by
  have he := elem_of ht
  rw [run_sliceAt_slice w t _ _ _ _ (by rw [he]; exact ht), run_slice_h w t A n cap (by rw [he]; exact ht) .i64 h (by omega) (by omega), he, hs]
  have := cutA_zero A cap s
  unfold cutA at this
  simp only [Result.andThen, sliced, this, Int.toNat_natCast, Nat.sub_zero]
theorem run_cut_l (A : Option Addr) (n cap l : Nat) (h1 : l ≤ n) (w : World) :
    (Instr.sliceAt t (.slice A n cap) (some (.int .i64 l)) none none).run Try.prog w = .ok (.slice (cutA A cap l s) (n - l) (cap - l)) w := by
  have he := elem_of ht
  rw [run_sliceAt_slice w t _ _ _ _ (by rw [he]; exact ht), run_slice_l w t A n cap (by rw [he]; exact ht) .i64 l (by omega) (by omega), he, hs]
  simp [Result.andThen, sliced, cutA]
end

theorem part_size (D : Array Int) {a b : Nat} (hb : b ≤ D.size) : (D.extract a b).size = b - a := by simp; omega
theorem part_at {α : Type} [Inhabited α] (D : Array α) {a b j : Nat} (hb : b ≤ D.size) (hj : j < b - a) : (D.extract a b)[j]! = D[a + j]! := by
  rw [getElem!_pos _ j (by simp; omega), getElem!_pos D (a + j) (by omega)]
  simp

/-- A part reads as the list's part. -/
theorem SlAt.part {B : Nat} {w : World} {A : Option Addr} {cap : Nat} {D : Array Int} (h : SlAt HI B w (.slice A D.size cap) D) {a b : Nat} (hab : a ≤ b) (hb : b ≤ D.size) :
    SlAt HI B w (.slice (cutA A cap a 1) (b - a) (cap - a)) (D.extract a b) := by
  obtain ⟨A', cap', e, hcp, hh⟩ := h
  injection e with e1 e2 e3
  subst e1; subst e3
  refine ⟨cutA A cap a 1, cap - a, by rw [part_size D hb], by rw [part_size D hb]; omega, fun h0 => ?_⟩
  rw [part_size D hb] at h0
  obtain ⟨bk, off, rfl, g1, g2, hH⟩ := hh (by omega)
  refine ⟨bk, off + a, ?_, g1, g2, fun j hj => ?_⟩
  · unfold cutA
    rw [if_neg (by omega)]
    simp [add_plain]
  · rw [part_size D hb] at hj
    rw [part_at D hb hj, Nat.add_assoc]
    exact hH (a + j) (by omega)
end Go.Proofs.Ytcamaikogengoaa
