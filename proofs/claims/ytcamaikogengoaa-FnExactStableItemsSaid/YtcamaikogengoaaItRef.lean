/- The references spec.SortedItems and spec.full: a range of a copy sorted by insertion, by keys, and by keys and marks. The walks, at elements of k cells. -/
import Derived.Test.YtcamaikogengoaaCKit
import Derived.Test.YtcamaikogengoaaPlain1
import Derived.Sort.WalkB2
import Derived.Sort.WalkB12
import Derived.Deep.LoopGhost
import Derived.Lib.Hide
import Derived.Shelf.RegionOpenPlain
namespace Go.Proofs.Ytcamaikogengoaa
set_option linter.unusedVariables false
set_option linter.unusedSimpArgs false
set_option linter.unusedSectionVars false
open Go.Shelf Go.RowKit Go.Lib Go.Sort
variable {P : Program} {α : Type} [Inhabited α]

/-- A program that bears the two references, and their types. -/
structure Ref (P : Program) : Prop where
  mixed : P.follows .mixedOrders = true
  f60 : P.funcs[60]? = some Try.f60
  f84 : P.funcs[84]? = some Try.f84
  e89 : ∀ args w, (callFunc 89 args).run P w = .ok (.enter 89 args) w
  e113 : ∀ args w, (callFunc 113 args).run P w = .ok (.enter 113 args) w
  t50 : P.underlying 50 = Try.prog.underlying 50
  t0 : P.underlying 0 = some (TypeDesc.tuple #[])
  a0 : ∀ w, (isAgg 0).run P w = .ok false w
  z0 : ∀ w, (Go.sizeOf 0).run P w = .ok 1 w
  v0 : ∀ w, (zeroValue 0).run P w = .ok (Value.tuple #[]) w
  t3 : P.underlying 3 = some (TypeDesc.int IntKind.i64)
  a3 : ∀ w, (isAgg 3).run P w = .ok false w
  z3 : ∀ w, (Go.sizeOf 3).run P w = .ok 1 w
  v3 : ∀ w, (zeroValue 3).run P w = .ok (Value.int IntKind.i64 0) w
  t4 : P.underlying 4 = some (TypeDesc.bool)
  a4 : ∀ w, (isAgg 4).run P w = .ok false w
  z4 : ∀ w, (Go.sizeOf 4).run P w = .ok 1 w
  v4 : ∀ w, (zeroValue 4).run P w = .ok (Value.bool false) w
  t39 : P.underlying 39 = some (TypeDesc.slice 50)
  a39 : ∀ w, (isAgg 39).run P w = .ok false w
  z39 : ∀ w, (Go.sizeOf 39).run P w = .ok 1 w
  v39 : ∀ w, (zeroValue 39).run P w = .ok (Value.slice none 0 0) w

theorem ref : Ref Try.prog where
  mixed := by kernel_rfl
  f60 := Try.func60
  f84 := Try.func84
  e89 := enters_of Try.func89 (by kernel_rfl) rfl
  e113 := enters_of Try.func113 (by kernel_rfl) rfl
  t50 := rfl
  t0 := by kernel_rfl
  a0 := fun _ => by kernel_rfl
  z0 := fun _ => by kernel_rfl
  v0 := fun _ => by kernel_rfl
  t3 := by kernel_rfl
  a3 := fun _ => by kernel_rfl
  z3 := fun _ => by kernel_rfl
  v3 := fun _ => by kernel_rfl
  t4 := by kernel_rfl
  a4 := fun _ => by kernel_rfl
  z4 := fun _ => by kernel_rfl
  v4 := fun _ => by kernel_rfl
  t39 := by kernel_rfl
  a39 := fun _ => by kernel_rfl
  z39 := fun _ => by kernel_rfl
  v39 := fun _ => by kernel_rfl

/-- A row of the call's own that holds d. -/
structure OwnRow (enc : α → List Value) (k : Nat) (w : World) (blk off cap : Nat) (d : Array α) (w' : World) : Prop where
  hH : HoldsK enc k w' blk off d
  hlt : blk < w'.heap.size
  hge : w.heap.size ≤ blk
  hb : RowKit.Below w.heap.size w w'
  hcp : d.size ≤ cap ∧ cap ≤ maxLen
/-- slices.Clone's contract, as the walks ask it. -/
def ClonesK (P : Program) (enc : α → List Value) (k : Nat) (v : Value) (d : Array α) (w : World) : Prop :=
  Calls P 89 #[v] w fun e w' => ∃ blk off cap, e = .returned (.slice (some ⟨blk, off, none⟩) d.size cap) ∧ OwnRow enc k w blk off cap d w'
/-- spec.less's. -/
def LessK (P : Program) (enc : α → List Value) (lt : α → α → Bool) : Prop :=
  ∀ (x y : α) (W : World), Calls P 113 #[.agg (enc x).toArray, .agg (enc y).toArray] W fun e w' => e = .returned (.bool (lt x y)) ∧ ∃ q os', w' = grow (W.drewN q) os'
/-- What both references hand back. -/
def SortedTo (enc : α → List Value) (k : Nat) (w : World) (d d' : Array α) (e : Ending) (w' : World) : Prop :=
  ∃ blk off cap w1, e = .returned (.slice (some ⟨blk, off, none⟩) d.size cap) ∧ OwnRow enc k w blk off cap d w1 ∧ SWK enc k w1 blk off d' w'


theorem fieldAt_key (L : Ref P) (b o : Nat) (w : World) : (Instr.fieldAt 50 (.pointer (some ⟨b, o, none⟩)) 0).run P w = .ok (.pointer (some ⟨b, o, none⟩)) w := by
  have t50 := L.t50
  rw [Try.underlying50] at t50
  have z3 := L.z3
  simp [Instr.fieldAt, Instr.sureAddr, fieldPlace, run_underlying t50, z3, Addr.add]

theorem swp_comm_k {d : Array α} {i j : Nat} (hi : i < d.size) (hj : j < d.size) : swp d i j = swp d j i := by
  refine ext_at (by rw [size_swp, size_swp]) fun k _ => ?_
  rw [swp_get d hi hj, swp_get d hj hi]
  by_cases h1 : k = i <;> by_cases h2 : k = j <;> simp_all
end Go.Proofs.Ytcamaikogengoaa
