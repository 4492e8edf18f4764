/- What the walks of the CmpFunc family lean on: this program's functions and types, each fact once. -/
import Derived.Test.YtcamaikogengoaaWXor
import Derived.Shelf.SlSortCmp.KitK
namespace Go.Proofs.Ytcamaikogengoaa
set_option linter.unusedVariables false
set_option linter.unusedSimpArgs false
set_option linter.unusedSectionVars false
open Go.Shelf Go.RowKit Go.Lib Go.Sort

/-- A program that bears this program's functions of the family, and their types. -/
structure Inner (P : Program) : Prop where
  mixed : P.follows .mixedOrders = true
  f125 : P.funcs[125]? = some Try.f125
  f126 : P.funcs[126]? = some Try.f126
  f127 : P.funcs[127]? = some Try.f127
  f138 : P.funcs[138]? = some Try.f138
  f111 : P.funcs[111]? = some Try.f111
  f115 : P.funcs[115]? = some Try.f115
  f116 : P.funcs[116]? = some Try.f116
  f130 : P.funcs[130]? = some Try.f130
  f131 : P.funcs[131]? = some Try.f131
  f132 : P.funcs[132]? = some Try.f132
  f133 : P.funcs[133]? = some Try.f133
  f134 : P.funcs[134]? = some Try.f134
  f135 : P.funcs[135]? = some Try.f135
  f136 : P.funcs[136]? = some Try.f136
  f141 : P.funcs[141]? = some Try.f141
  f142 : P.funcs[142]? = some Try.f142
  f143 : P.funcs[143]? = some Try.f143
  f101 : P.funcs[101]? = some Try.f101
  f109 : P.funcs[109]? = some Try.f109
  t0 : P.underlying 0 = some (TypeDesc.tuple #[])
  a0 : ∀ w, (isAgg 0).run P w = .ok false w
  z0 : ∀ w, (Go.sizeOf 0).run P w = .ok 1 w
  v0 : ∀ w, (zeroValue 0).run P w = .ok (Value.tuple #[]) w
  t3 : P.underlying 3 = some (TypeDesc.int IntKind.i64)
  a3 : ∀ w, (isAgg 3).run P w = .ok false w
  z3 : ∀ w, (Go.sizeOf 3).run P w = .ok 1 w
  v3 : ∀ w, (zeroValue 3).run P w = .ok (Value.int IntKind.i64 0) w
  t4 : P.underlying 4 = some (TypeDesc.bool)
  a4 : ∀ w, (isAgg 4).run P w = .ok false w
  z4 : ∀ w, (Go.sizeOf 4).run P w = .ok 1 w
  v4 : ∀ w, (zeroValue 4).run P w = .ok (Value.bool false) w
  t5 : P.underlying 5 = some (TypeDesc.int IntKind.u8)
  a5 : ∀ w, (isAgg 5).run P w = .ok false w
  z5 : ∀ w, (Go.sizeOf 5).run P w = .ok 1 w
  v5 : ∀ w, (zeroValue 5).run P w = .ok (Value.int IntKind.u8 0) w
  t9 : P.underlying 9 = some (TypeDesc.string)
  a9 : ∀ w, (isAgg 9).run P w = .ok false w
  z9 : ∀ w, (Go.sizeOf 9).run P w = .ok 1 w
  v9 : ∀ w, (zeroValue 9).run P w = .ok (Value.string { data := #[] }) w
  t63 : P.underlying 63 = some (TypeDesc.slice 78)
  a63 : ∀ w, (isAgg 63).run P w = .ok false w
  z63 : ∀ w, (Go.sizeOf 63).run P w = .ok 1 w
  v63 : ∀ w, (zeroValue 63).run P w = .ok (Value.slice none 0 0) w
  t80 : P.underlying 80 = some (TypeDesc.func #[78, 78] #[3] false)
  a80 : ∀ w, (isAgg 80).run P w = .ok false w
  z80 : ∀ w, (Go.sizeOf 80).run P w = .ok 1 w
  v80 : ∀ w, (zeroValue 80).run P w = .ok (Value.nilFunc) w
  t36 : P.underlying 36 = some (TypeDesc.int IntKind.u64)
  a36 : ∀ w, (isAgg 36).run P w = .ok false w
  z36 : ∀ w, (Go.sizeOf 36).run P w = .ok 1 w
  v36 : ∀ w, (zeroValue 36).run P w = .ok (Value.int IntKind.u64 0) w
  t83 : P.underlying 83 = some (TypeDesc.int IntKind.i64)
  a83 : ∀ w, (isAgg 83).run P w = .ok false w
  z83 : ∀ w, (Go.sizeOf 83).run P w = .ok 1 w
  v83 : ∀ w, (zeroValue 83).run P w = .ok (Value.int IntKind.i64 0) w
  t84 : P.underlying 84 = some (TypeDesc.tuple #[3, 83])
  a84 : ∀ w, (isAgg 84).run P w = .ok false w
  z84 : ∀ w, (Go.sizeOf 84).run P w = .ok 1 w
  v84 : ∀ w, (zeroValue 84).run P w = .ok (Value.tuple #[Value.int IntKind.i64 0, Value.int IntKind.i64 0]) w
  t89 : P.underlying 89 = some (TypeDesc.tuple #[3, 4])
  a89 : ∀ w, (isAgg 89).run P w = .ok false w
  z89 : ∀ w, (Go.sizeOf 89).run P w = .ok 1 w
  v89 : ∀ w, (zeroValue 89).run P w = .ok (Value.tuple #[Value.int IntKind.i64 0, Value.bool false]) w
  t101 : P.underlying 101 = some (TypeDesc.int IntKind.u32)
  a101 : ∀ w, (isAgg 101).run P w = .ok false w
  z101 : ∀ w, (Go.sizeOf 101).run P w = .ok 1 w
  v101 : ∀ w, (zeroValue 101).run P w = .ok (Value.int IntKind.u32 0) w
  t22 : P.underlying 22 = some (TypeDesc.int IntKind.u64)
  a22 : ∀ w, (isAgg 22).run P w = .ok false w
  z22 : ∀ w, (Go.sizeOf 22).run P w = .ok 1 w
  v22 : ∀ w, (zeroValue 22).run P w = .ok (Value.int IntKind.u64 0) w
  t72 : P.underlying 72 = some (TypeDesc.int IntKind.u64)
  a72 : ∀ w, (isAgg 72).run P w = .ok false w
  z72 : ∀ w, (Go.sizeOf 72).run P w = .ok 1 w
  v72 : ∀ w, (zeroValue 72).run P w = .ok (Value.int IntKind.u64 0) w
  t75 : P.underlying 75 = some (TypeDesc.pointer 3)
  a75 : ∀ w, (isAgg 75).run P w = .ok false w
  z75 : ∀ w, (Go.sizeOf 75).run P w = .ok 1 w
  v75 : ∀ w, (zeroValue 75).run P w = .ok (Value.pointer none) w
  t92 : P.underlying 92 = some (TypeDesc.pointer 72)
  a92 : ∀ w, (isAgg 92).run P w = .ok false w
  z92 : ∀ w, (Go.sizeOf 92).run P w = .ok 1 w
  v92 : ∀ w, (zeroValue 92).run P w = .ok (Value.pointer none) w
  t28 : P.underlying 28 = some (TypeDesc.tuple #[3, 3])
  a28 : ∀ w, (isAgg 28).run P w = .ok false w
  z28 : ∀ w, (Go.sizeOf 28).run P w = .ok 1 w
  v28 : ∀ w, (zeroValue 28).run P w = .ok (Value.tuple #[Value.int IntKind.i64 0, Value.int IntKind.i64 0]) w
  next : ∀ (rb ro X : Nat), X < 18446744073709551616 → ∀ (w : World), w.cell? ⟨rb, ro, none⟩ = some (.int .u64 X) → w.frozen? ⟨rb, ro, none⟩ = false →
    Calls P 101 #[.pointer (some ⟨rb, ro, none⟩)] w fun e w' => e = .returned (.int .u64 (xorNextN X : Nat)) ∧ w' = (w.setCell ⟨rb, ro, none⟩ (.int .u64 (xorNextN X : Nat))).drewN 3
  pow2 : ∀ (n : Nat), n < 4611686018427387904 → ∀ (w : World), Calls P 109 #[.int .i64 n] w fun e w' => e = .returned (.int .u64 ((1 <<< bitsLen n : Nat) : Int)) ∧ w' = w

theorem inner : Inner Try.prog where
  mixed := by kernel_rfl
  f125 := Try.func125
  f126 := Try.func126
  f127 := Try.func127
  f138 := Try.func138
  f111 := Try.func111
  f115 := Try.func115
  f116 := Try.func116
  f130 := Try.func130
  f131 := Try.func131
  f132 := Try.func132
  f133 := Try.func133
  f134 := Try.func134
  f135 := Try.func135
  f136 := Try.func136
  f141 := Try.func141
  f142 := Try.func142
  f143 := Try.func143
  f101 := Try.func101
  f109 := Try.func109
  t0 := by kernel_rfl
  a0 := fun _ => by kernel_rfl
  z0 := fun _ => by kernel_rfl
  v0 := fun _ => by kernel_rfl
  t3 := by kernel_rfl
  a3 := fun _ => by kernel_rfl
  z3 := fun _ => by kernel_rfl
  v3 := fun _ => by kernel_rfl
  t4 := by kernel_rfl
  a4 := fun _ => by kernel_rfl
  z4 := fun _ => by kernel_rfl
  v4 := fun _ => by kernel_rfl
  t5 := by kernel_rfl
  a5 := fun _ => by kernel_rfl
  z5 := fun _ => by kernel_rfl
  v5 := fun _ => by kernel_rfl
  t9 := by kernel_rfl
  a9 := fun _ => by kernel_rfl
  z9 := fun _ => by kernel_rfl
  v9 := fun _ => by kernel_rfl
  t63 := by kernel_rfl
  a63 := fun _ => by kernel_rfl
  z63 := fun _ => by kernel_rfl
  v63 := fun _ => by kernel_rfl
  t80 := by kernel_rfl
  a80 := fun _ => by kernel_rfl
  z80 := fun _ => by kernel_rfl
  v80 := fun _ => by kernel_rfl
  t36 := by kernel_rfl
  a36 := fun _ => by kernel_rfl
  z36 := fun _ => by kernel_rfl
  v36 := fun _ => by kernel_rfl
  t83 := by kernel_rfl
  a83 := fun _ => by kernel_rfl
  z83 := fun _ => by kernel_rfl
  v83 := fun _ => by kernel_rfl
  t84 := by kernel_rfl
  a84 := fun _ => by kernel_rfl
  z84 := fun _ => by kernel_rfl
  v84 := fun _ => by kernel_rfl
  t89 := by kernel_rfl
  a89 := fun _ => by kernel_rfl
  z89 := fun _ => by kernel_rfl
  v89 := fun _ => by kernel_rfl
  t101 := by kernel_rfl
  a101 := fun _ => by kernel_rfl
  z101 := fun _ => by kernel_rfl
  v101 := fun _ => by kernel_rfl
  t22 := by kernel_rfl
  a22 := fun _ => by kernel_rfl
  z22 := fun _ => by kernel_rfl
  v22 := fun _ => by kernel_rfl
  t72 := by kernel_rfl
  a72 := fun _ => by kernel_rfl
  z72 := fun _ => by kernel_rfl
  v72 := fun _ => by kernel_rfl
  t75 := by kernel_rfl
  a75 := fun _ => by kernel_rfl
  z75 := fun _ => by kernel_rfl
  v75 := fun _ => by kernel_rfl
  t92 := by kernel_rfl
  a92 := fun _ => by kernel_rfl
  z92 := fun _ => by kernel_rfl
  v92 := fun _ => by kernel_rfl
  t28 := by kernel_rfl
  a28 := fun _ => by kernel_rfl
  z28 := fun _ => by kernel_rfl
  v28 := fun _ => by kernel_rfl
  next := xorshift_Next
  pow2 := nextPowerOfTwo
end Go.Proofs.Ytcamaikogengoaa
