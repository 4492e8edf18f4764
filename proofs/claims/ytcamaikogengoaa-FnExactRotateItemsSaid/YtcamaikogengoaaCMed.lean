/- order2CmpFunc, medianCmpFunc, medianAdjacentCmpFunc over items compute the plain ones. The walks turn the kit's over zsortanyfunc.go to this program. -/
import Derived.Test.YtcamaikogengoaaCKit
import Derived.Shelf.SlSortFuncK.PivotK
import Derived.Sort.WalkB2
import Derived.Sort.WalkB12
import Derived.Deep.LoopGhost
namespace Go.Proofs.Ytcamaikogengoaa
set_option linter.unusedVariables false
set_option linter.unusedSimpArgs false
set_option linter.unusedSectionVars false
open Go.Shelf Go.RowKit Go.Lib Go.Sort
variable {P : Program} {α : Type} [Inhabited α]

set_option maxHeartbeats 4000000 in
set_option maxRecDepth 1000000 in
theorem order2_item (L : Inner P) (k : Nat) (aE : ∀ w, (isAgg 78).run P w = .ok true w) (zE : ∀ w, (Go.sizeOf 78).run P w = .ok k w) (enc : α → List Value) (cf : α → α → Int) (g : Nat) (cb : Array Value) (blk off cap a b c s : Nat) (d0 d : Array α) (w0 W : World)
    (eg : ∀ args w, (callFunc g args).run P w = .ok (.enter g args) w) (hcmp : CmpLays P g cb enc k cf blk off d0.size w0) (R : RowK enc k w0 blk off d0) (hs : d0.size = d.size) (C : CntK enc k w0 blk off d c s W) (ha : a < d.size) (hb : b < d.size) (hsz : d.size < 4611686018427387904) (hss : s < 4611686018427387904) :
    Calls P 143 #[.slice (some ⟨blk, off, none⟩) d.size cap, .int .i64 a, .int .i64 b, .pointer (some ⟨c, 0, none⟩), .func (.func g) #[] cb] W fun e w' =>
      e = .returned (.tuple #[.int .i64 (order2 (ltOf cf) d a b s).1, .int .i64 (order2 (ltOf cf) d a b s).2.1]) ∧ CntK enc k w0 blk off d c (order2 (ltOf cf) d a b s).2.2 w' := by
  have mixed := L.mixed; have t0 := L.t0; have a0 := L.a0; have z0 := L.z0; have v0 := L.v0; have t3 := L.t3; have a3 := L.a3; have z3 := L.z3; have v3 := L.v3; have t4 := L.t4; have a4 := L.a4; have z4 := L.z4; have v4 := L.v4; have t22 := L.t63; have a22 := L.a63; have z22 := L.z63; have v22 := L.v63; have t25 := L.t80; have a25 := L.a80; have z25 := L.z80; have v25 := L.v80; have t70 := L.t75; have a70 := L.a75; have z70 := L.z75; have v70 := L.v75
  have FG := L.f143
  have HC : Aside _ := hcmp
  have C1 : Aside (CntK enc k w0 blk off d c s W) := C
  have S1 : Aside (SWK enc k w0 blk off d W) := C.1
  clear hcmp C
  go_enter FG, Try.ntmps143
  cases hlv : ltOf cf d[b]! d[a]! with
  | true =>
    have e2 : order2 (ltOf cf) d a b s = (b, a, s + 1) := by simp [order2, hlv]
    have ea38 : ((b : Int)).toNat = b := by omega
    have pa38 : (0 : Int) ≤ (b : Int) := by omega
    have ba38 : (b : Int) < (d.size : Int) := by omega
    have ra38 : IntKind.i64.wrap ((b : Int)) = (b : Int) := by rw [IntKind.wrap_i64]; omega
    have ec38 : ((a : Int)).toNat = a := by omega
    have pc38 : (0 : Int) ≤ (a : Int) := by omega
    have bc38 : (a : Int) < (d.size : Int) := by omega
    have rc38 : IntKind.i64.wrap ((a : Int)) = (a : Int) := by rw [IntKind.wrap_i64]; omega
    obtain ⟨x38, hx38⟩ : ∃ x, x = d[b]! := ⟨_, rfl⟩
    obtain ⟨y38, hy38⟩ : ∃ x, x = d[a]! := ⟨_, rfl⟩
    have l38a := S1.out.ld R (by omega) P (b) (by omega)
    have l38b := S1.out.ld R (by omega) P (a) (by omega)
    rw [← hx38] at l38a
    rw [← hy38] at l38b
    have hc38 := S1.out.cmp HC.out (by omega) x38 y38
    have hv38 : cf x38 y38 < 0 := by rw [hx38, hy38]; exact of_decide_eq_true hlv
    have hd38 : decide (cf x38 y38 < 0) = true := decide_eq_true hv38
    clear hx38 hy38
    go_wp2_with fail
    go_quiet_grown (first | (go_at_fn g; refine Calls.grown_of (hc38 _ _)))
    have C2 : Aside (CntK enc k w0 blk off d c s (grow (W.drewN nq) osq)) := C1.out.grown nq osq
    have S2 : Aside (SWK enc k w0 blk off d (grow (W.drewN nq) osq)) := S1.out.grown nq osq
    clear l38a l38b hc38 S1
    generalize grow (W.drewN nq) osq = w2 at S2 C2 ⊢
    clear nq osq
    obtain ⟨_, cc, cfz, _, _⟩ := C2.out
    go_wp2
    go_ret2
    rw [e2]
    exact ⟨rfl, by have := C2.out.bump (s + 1); simpa using this⟩
  | false =>
    have e2 : order2 (ltOf cf) d a b s = (a, b, s) := by simp [order2, hlv]
    have ea39 : ((b : Int)).toNat = b := by omega
    have pa39 : (0 : Int) ≤ (b : Int) := by omega
    have ba39 : (b : Int) < (d.size : Int) := by omega
    have ra39 : IntKind.i64.wrap ((b : Int)) = (b : Int) := by rw [IntKind.wrap_i64]; omega
    have ec39 : ((a : Int)).toNat = a := by omega
    have pc39 : (0 : Int) ≤ (a : Int) := by omega
    have bc39 : (a : Int) < (d.size : Int) := by omega
    have rc39 : IntKind.i64.wrap ((a : Int)) = (a : Int) := by rw [IntKind.wrap_i64]; omega
    obtain ⟨x39, hx39⟩ : ∃ x, x = d[b]! := ⟨_, rfl⟩
    obtain ⟨y39, hy39⟩ : ∃ x, x = d[a]! := ⟨_, rfl⟩
    have l39a := S1.out.ld R (by omega) P (b) (by omega)
    have l39b := S1.out.ld R (by omega) P (a) (by omega)
    rw [← hx39] at l39a
    rw [← hy39] at l39b
    have hc39 := S1.out.cmp HC.out (by omega) x39 y39
    have hv39 : ¬ cf x39 y39 < 0 := by rw [hx39, hy39]; exact of_decide_eq_false hlv
    have hd39 : decide (cf x39 y39 < 0) = false := decide_eq_false hv39
    clear hx39 hy39
    go_wp2_with fail
    go_quiet_grown (first | (go_at_fn g; refine Calls.grown_of (hc39 _ _)))
    have C2 : Aside (CntK enc k w0 blk off d c s (grow (W.drewN nq) osq)) := C1.out.grown nq osq
    have S2 : Aside (SWK enc k w0 blk off d (grow (W.drewN nq) osq)) := S1.out.grown nq osq
    clear l39a l39b hc39 S1
    generalize grow (W.drewN nq) osq = w2 at S2 C2 ⊢
    clear nq osq
    obtain ⟨_, cc, cfz, _, _⟩ := C2.out
    go_wp2
    go_ret2
    rw [e2]
    exact ⟨rfl, C2.out⟩

set_option maxHeartbeats 2000000 in
set_option maxRecDepth 100000 in
theorem median_item (L : Inner P) (k : Nat) (aE : ∀ w, (isAgg 78).run P w = .ok true w) (zE : ∀ w, (Go.sizeOf 78).run P w = .ok k w) (enc : α → List Value) (cf : α → α → Int) (g : Nat) (cb : Array Value) (blk off cap a b c' c s : Nat) (d0 d : Array α) (w0 W : World)
    (eg : ∀ args w, (callFunc g args).run P w = .ok (.enter g args) w) (hcmp : CmpLays P g cb enc k cf blk off d0.size w0) (R : RowK enc k w0 blk off d0) (hs : d0.size = d.size) (C : CntK enc k w0 blk off d c s W) (ha : a < d.size) (hb : b < d.size) (hc : c' < d.size) (hsz : d.size < 4611686018427387904) (hss : s + 3 < 4611686018427387904) :
    Calls P 142 #[.slice (some ⟨blk, off, none⟩) d.size cap, .int .i64 a, .int .i64 b, .int .i64 c', .pointer (some ⟨c, 0, none⟩), .func (.func g) #[] cb] W fun e w' =>
      e = .returned (.int .i64 (median (ltOf cf) d a b c' s).1) ∧ CntK enc k w0 blk off d c (median (ltOf cf) d a b c' s).2 w' := by
  have mixed := L.mixed; have t0 := L.t0; have a0 := L.a0; have z0 := L.z0; have v0 := L.v0; have t3 := L.t3; have a3 := L.a3; have z3 := L.z3; have v3 := L.v3; have t4 := L.t4; have a4 := L.a4; have z4 := L.z4; have v4 := L.v4; have t22 := L.t63; have a22 := L.a63; have z22 := L.z63; have v22 := L.v63; have t25 := L.t80; have a25 := L.a80; have z25 := L.z80; have v25 := L.v80; have t70 := L.t75; have a70 := L.a75; have z70 := L.z75; have v70 := L.v75; have t77 := L.t28; have a77 := L.a28; have z77 := L.z28; have v77 := L.v28
  have FG := L.f142
  have e57 : ∀ args w, (callFunc 143 args).run P w = .ok (.enter 143 args) w := enters_of L.f143 (by kernel_rfl) rfl
  have l1 := order2_lt' (ltOf cf) d s ha hb
  have s1 := order2_swaps' (ltOf cf) d a b s
  have l2 := order2_lt' (ltOf cf) d (order2 (ltOf cf) d a b s).2.2 l1.2 hc
  have s2 := order2_swaps' (ltOf cf) d (order2 (ltOf cf) d a b s).2.1 c' (order2 (ltOf cf) d a b s).2.2
  have step := fun (W' : World) (t a' b' : Nat) (C' : CntK enc k w0 blk off d c t W') (ha' : a' < d.size) (hb' : b' < d.size) (ht : t < 4611686018427387904) =>
    order2_item L k aE zE enc cf g cb blk off cap a' b' c t d0 d w0 W' eg hcmp R hs C' ha' hb' hsz ht
  clear hcmp
  go_enter FG, Try.ntmps142
  go_wp2_with (go_at_call_of 143 (Value.int .i64 (b : Int)); refine (step _ _ _ _ C ha hb (by omega)).mono ?_; rintro e w1 ⟨rfl, C1⟩)
  go_wp2_with (go_at_call_of 143 (Value.int .i64 (c' : Int)); refine (step _ _ _ _ C1 l1.2 hc (by omega)).mono ?_; rintro e w2 ⟨rfl, C2⟩)
  go_wp2_with (go_at_call_of 143 (Value.int .i64 ((order2 (ltOf cf) d a b s).1 : Int)); refine (step _ _ _ _ C2 l1.1 l2.1 (by omega)).mono ?_; rintro e w3 ⟨rfl, C3⟩)
  go_ret
  exact ⟨rfl, C3⟩

set_option maxHeartbeats 2000000 in
set_option maxRecDepth 100000 in
theorem medianAdjacent_item (L : Inner P) (k : Nat) (aE : ∀ w, (isAgg 78).run P w = .ok true w) (zE : ∀ w, (Go.sizeOf 78).run P w = .ok k w) (enc : α → List Value) (cf : α → α → Int) (g : Nat) (cb : Array Value) (blk off cap a c s : Nat) (d0 d : Array α) (w0 W : World)
    (eg : ∀ args w, (callFunc g args).run P w = .ok (.enter g args) w) (hcmp : CmpLays P g cb enc k cf blk off d0.size w0) (R : RowK enc k w0 blk off d0) (hs : d0.size = d.size) (C : CntK enc k w0 blk off d c s W) (ha1 : 1 ≤ a) (ha2 : a + 1 < d.size) (hsz : d.size < 4611686018427387904) (hss : s + 3 < 4611686018427387904) :
    Calls P 141 #[.slice (some ⟨blk, off, none⟩) d.size cap, .int .i64 a, .pointer (some ⟨c, 0, none⟩), .func (.func g) #[] cb] W fun e w' =>
      e = .returned (.int .i64 (medianAdjacent (ltOf cf) d a s).1) ∧ CntK enc k w0 blk off d c (medianAdjacent (ltOf cf) d a s).2 w' := by
  have mixed := L.mixed; have t0 := L.t0; have a0 := L.a0; have z0 := L.z0; have v0 := L.v0; have t3 := L.t3; have a3 := L.a3; have z3 := L.z3; have v3 := L.v3; have t4 := L.t4; have a4 := L.a4; have z4 := L.z4; have v4 := L.v4; have t22 := L.t63; have a22 := L.a63; have z22 := L.z63; have v22 := L.v63; have t25 := L.t80; have a25 := L.a80; have z25 := L.z80; have v25 := L.v80; have t70 := L.t75; have a70 := L.a75; have z70 := L.z75; have v70 := L.v75; have t77 := L.t28; have a77 := L.a28; have z77 := L.z28; have v77 := L.v28
  have FG := L.f141
  have e50 : ∀ args w, (callFunc 142 args).run P w = .ok (.enter 142 args) w := enters_of L.f142 (by kernel_rfl) rfl
  have hm := median_item L k aE zE enc cf g cb blk off cap (a - 1) a (a + 1) c s d0 d w0 W eg hcmp R hs C (by omega) (by omega) ha2 hsz hss
  rw [show ((a - 1 : Nat) : Int) = (a : Int) - 1 by omega, show ((a + 1 : Nat) : Int) = (a : Int) + 1 by omega] at hm
  clear hcmp
  go_enter FG, Try.ntmps141
  go_wp2_with (go_at_call 142; refine hm.mono ?_; rintro e w1 ⟨rfl, C1⟩)
  go_ret
  exact ⟨rfl, C1⟩

end Go.Proofs.Ytcamaikogengoaa
