/- choosePivotCmpFunc over items computes the plain one. The walk turns the kit's over zsortanyfunc.go to this program. -/
import Derived.Test.YtcamaikogengoaaCMed
import Derived.Sort.WalkB2
import Derived.Sort.WalkB12
import Derived.Deep.LoopGhost
namespace Go.Proofs.Ytcamaikogengoaa
set_option linter.unusedVariables false
set_option linter.unusedSimpArgs false
set_option linter.unusedSectionVars false
open Go.Shelf Go.RowKit Go.Lib Go.Sort
variable {P : Program} {α : Type} [Inhabited α]

set_option maxHeartbeats 4000000 in
set_option maxRecDepth 100000 in
theorem choosePivot_item (L : Inner P) (k : Nat) (aE : ∀ w, (isAgg 78).run P w = .ok true w) (zE : ∀ w, (Go.sizeOf 78).run P w = .ok k w) (enc : α → List Value) (cf : α → α → Int) (g : Nat) (cb : Array Value) (blk off cap a b : Nat) (d0 d : Array α) (w0 W : World)
    (eg : ∀ args w, (callFunc g args).run P w = .ok (.enter g args) w) (hcmp : CmpLays P g cb enc k cf blk off d0.size w0) (R : RowK enc k w0 blk off d0) (hs : d0.size = d.size) (S : SWK enc k w0 blk off d W) (hab : a < b) (hb : b ≤ d.size) (hsz : d.size < 4611686018427387904) :
    Calls P 131 #[.slice (some ⟨blk, off, none⟩) d.size cap, .int .i64 a, .int .i64 b, .func (.func g) #[] cb] W fun e w' =>
      e = .returned (.tuple #[.int .i64 (choosePivot (ltOf cf) d a b).1, .int .i64 (hintCode (choosePivot (ltOf cf) d a b).2)]) ∧ SWK enc k w0 blk off d w' := by
  have MA := fun (W' : World) (x s : Nat) (C' : CntK enc k w0 blk off d W.heap.size s W') (h1 : 1 ≤ x) (h2 : x + 1 < d.size) (h3 : s + 3 < 4611686018427387904) =>
    medianAdjacent_item L k aE zE enc cf g cb blk off cap x W.heap.size s d0 d w0 W' eg hcmp R hs C' h1 h2 hsz h3
  have MD := fun (W' : World) (x y z s : Nat) (C' : CntK enc k w0 blk off d W.heap.size s W') (hx : x < d.size) (hy : y < d.size) (hz : z < d.size) (h3 : s + 3 < 4611686018427387904) =>
    median_item L k aE zE enc cf g cb blk off cap x y z W.heap.size s d0 d w0 W' eg hcmp R hs C' hx hy hz hsz h3
  have C0 : CntK enc k w0 blk off d W.heap.size 0 (W.alloc (.cells #[.int .i64 0] 3)) := CntK.start S 3
  clear hcmp S
  have mixed := L.mixed; have t0 := L.t0; have a0 := L.a0; have z0 := L.z0; have v0 := L.v0; have t3 := L.t3; have a3 := L.a3; have z3 := L.z3; have v3 := L.v3; have t4 := L.t4; have a4 := L.a4; have z4 := L.z4; have v4 := L.v4; have t22 := L.t63; have a22 := L.a63; have z22 := L.z63; have v22 := L.v63; have t25 := L.t80; have a25 := L.a80; have z25 := L.z80; have v25 := L.v80; have t45 := L.t83; have a45 := L.a83; have z45 := L.z83; have v45 := L.v83; have t70 := L.t75; have a70 := L.a75; have z70 := L.z75; have v70 := L.v75; have t77 := L.t28; have a77 := L.a28; have z77 := L.z28; have v77 := L.v28
  have FG := L.f131
  have e49 : ∀ args w, (callFunc 141 args).run P w = .ok (.enter 141 args) w := enters_of L.f141 (by kernel_rfl) rfl
  have e50 : ∀ args w, (callFunc 142 args).run P w = .ok (.enter 142 args) w := enters_of L.f142 (by kernel_rfl) rfl
  rw [choosePivot_eq]
  obtain ⟨I, hI⟩ : ∃ I : Nat, I = a + (b - a) / 4 * 1 := ⟨_, rfl⟩
  obtain ⟨J, hJ⟩ : ∃ J : Nat, J = a + (b - a) / 4 * 2 := ⟨_, rfl⟩
  obtain ⟨K, hK⟩ : ∃ K : Nat, K = a + (b - a) / 4 * 3 := ⟨_, rfl⟩
  have eI : ((a : Int) + ((b : Int) - (a : Int)) / 4) = (I : Int) := by omega
  have eJ : ((a : Int) + ((b : Int) - (a : Int)) / 4 * 2) = (J : Int) := by omega
  have eK : ((a : Int) + ((b : Int) - (a : Int)) / 4 * 3) = (K : Int) := by omega
  by_cases h8 : b - a ≥ 8
  · by_cases h50 : b - a ≥ 50
    ·
      obtain ⟨i1, s1, h1⟩ : ∃ i1 s1, medianAdjacent (ltOf cf) d I 0 = (i1, s1) := ⟨_, _, rfl⟩
      obtain ⟨j1, s2, h2⟩ : ∃ j1 s2, medianAdjacent (ltOf cf) d J s1 = (j1, s2) := ⟨_, _, rfl⟩
      obtain ⟨k1, s3, h3⟩ : ∃ k1 s3, medianAdjacent (ltOf cf) d K s2 = (k1, s3) := ⟨_, _, rfl⟩
      obtain ⟨p, s, h4⟩ : ∃ p s, median (ltOf cf) d i1 j1 k1 s3 = (p, s) := ⟨_, _, rfl⟩
      have hraw : rawPivot (ltOf cf) d a b = (p, s) := by simp only [rawPivot, if_pos h8, if_pos h50, ← hI, ← hJ, ← hK, h1, h2, h3, h4]
      have m1 := medianAdjacent_mem (ltOf cf) d I 0; rw [h1] at m1
      have m2 := medianAdjacent_mem (ltOf cf) d J s1; rw [h2] at m2
      have m3 := medianAdjacent_mem (ltOf cf) d K s2; rw [h3] at m3
      have n1 := medianAdjacent_count (ltOf cf) d I 0; rw [h1] at n1
      have n2 := medianAdjacent_count (ltOf cf) d J s1; rw [h2] at n2
      have n3 := medianAdjacent_count (ltOf cf) d K s2; rw [h3] at n3
      simp only [] at m1 m2 m3 n1 n2 n3
      have c1 : Calls P 141 #[.slice (some ⟨blk, off, none⟩) d.size cap, .int .i64 (I : Int), .pointer (some ⟨W.heap.size, 0, none⟩), .func (.func g) #[] cb] (W.alloc (.cells #[.int .i64 0] 3)) fun e w' => e = .returned (.int .i64 (i1 : Int)) ∧ CntK enc k w0 blk off d W.heap.size s1 w' := by
        have h := MA _ I 0 C0 (by omega) (by omega) (by omega); rw [h1] at h; exact h
      have c2 : ∀ W', CntK enc k w0 blk off d W.heap.size s1 W' → Calls P 141 #[.slice (some ⟨blk, off, none⟩) d.size cap, .int .i64 (J : Int), .pointer (some ⟨W.heap.size, 0, none⟩), .func (.func g) #[] cb] W' fun e w' => e = .returned (.int .i64 (j1 : Int)) ∧ CntK enc k w0 blk off d W.heap.size s2 w' := fun W' C' => by
        have h := MA W' J s1 C' (by omega) (by omega) (by omega); rw [h2] at h; exact h
      have c3 : ∀ W', CntK enc k w0 blk off d W.heap.size s2 W' → Calls P 141 #[.slice (some ⟨blk, off, none⟩) d.size cap, .int .i64 (K : Int), .pointer (some ⟨W.heap.size, 0, none⟩), .func (.func g) #[] cb] W' fun e w' => e = .returned (.int .i64 (k1 : Int)) ∧ CntK enc k w0 blk off d W.heap.size s3 w' := fun W' C' => by
        have h := MA W' K s2 C' (by omega) (by omega) (by omega); rw [h3] at h; exact h
      have c4 : ∀ W', CntK enc k w0 blk off d W.heap.size s3 W' → Calls P 142 #[.slice (some ⟨blk, off, none⟩) d.size cap, .int .i64 (i1 : Int), .int .i64 (j1 : Int), .int .i64 (k1 : Int), .pointer (some ⟨W.heap.size, 0, none⟩), .func (.func g) #[] cb] W' fun e w' => e = .returned (.int .i64 (p : Int)) ∧ CntK enc k w0 blk off d W.heap.size s w' := fun W' C' => by
        have h := MD W' i1 j1 k1 s3 C' (by omega) (by omega) (by omega) (by omega); rw [h4] at h; exact h
      rw [hraw]
      obtain ⟨Hc, hHc⟩ : ∃ Hc : Int, Hc = hintCode (hintOf s) := ⟨_, rfl⟩
      have hh0 : s = 0 → Hc = 1 := fun h => by rw [hHc, h]; rfl
      have hh12 : s = 12 → Hc = 2 := fun h => by rw [hHc, h]; rfl
      have hhx : s ≠ 0 → s ≠ 12 → Hc = 0 := fun h1 h2 => by rw [hHc]; unfold hintOf; rw [if_neg h1, if_neg h2]; rfl
      show Calls P 131 _ W fun e w' => e = .returned (.tuple #[.int .i64 (p : Int), .int .i64 (hintCode (hintOf s))]) ∧ SWK enc k w0 blk off d w'
      rw [← hHc]
      clear hHc hraw
      clear h1 h2 h3 h4 MA MD hI hJ hK m1 m2 m3 C0
      go_enter FG, Try.ntmps131
      go_wp2_with (go_at_call_of 141 (Value.int .i64 (I : Int)); refine c1.mono ?_; rintro e w1 ⟨rfl, C1⟩)
      go_wp2_with (go_at_call_of 141 (Value.int .i64 (J : Int)); refine (c2 _ C1).mono ?_; rintro e w2 ⟨rfl, C2⟩)
      go_wp2_with (go_at_call_of 141 (Value.int .i64 (K : Int)); refine (c3 _ C2).mono ?_; rintro e w3 ⟨rfl, C3⟩)
      go_wp2_with (go_at_call 142; refine (c4 _ C3).mono ?_; rintro e w4 ⟨rfl, S4, cc, cfz, _, _⟩)
      all_goals
        go_ret2
        refine ⟨?_, S4⟩
        first
          | (have e0 : (s : Int) = 0 := of_beq_int (by assumption)
             rw [hh0 (by omega)]; rfl)
          | (have e1 : (s : Int) = 12 := of_beq_int (by assumption)
             rw [hh12 (by omega)]; rfl)
          | (have e0 : (s : Int) ≠ 0 := of_bne_int (by assumption)
             have e1 : (s : Int) ≠ 12 := of_bne_int (by assumption)
             rw [hhx (by omega) (by omega)]; rfl)
          | (rw [hh0 (by omega)]; rfl)
    ·
      obtain ⟨p, s, h4⟩ : ∃ p s, median (ltOf cf) d I J K 0 = (p, s) := ⟨_, _, rfl⟩
      have hraw : rawPivot (ltOf cf) d a b = (p, s) := by simp only [rawPivot, if_pos h8, if_neg h50, ← hI, ← hJ, ← hK, h4]
      have c4 : Calls P 142 #[.slice (some ⟨blk, off, none⟩) d.size cap, .int .i64 (I : Int), .int .i64 (J : Int), .int .i64 (K : Int), .pointer (some ⟨W.heap.size, 0, none⟩), .func (.func g) #[] cb] (W.alloc (.cells #[.int .i64 0] 3)) fun e w' => e = .returned (.int .i64 (p : Int)) ∧ CntK enc k w0 blk off d W.heap.size s w' := by
        have h := MD _ I J K 0 C0 (by omega) (by omega) (by omega) (by omega); rw [h4] at h; exact h
      rw [hraw]
      obtain ⟨Hc, hHc⟩ : ∃ Hc : Int, Hc = hintCode (hintOf s) := ⟨_, rfl⟩
      have hh0 : s = 0 → Hc = 1 := fun h => by rw [hHc, h]; rfl
      have hh12 : s = 12 → Hc = 2 := fun h => by rw [hHc, h]; rfl
      have hhx : s ≠ 0 → s ≠ 12 → Hc = 0 := fun h1 h2 => by rw [hHc]; unfold hintOf; rw [if_neg h1, if_neg h2]; rfl
      show Calls P 131 _ W fun e w' => e = .returned (.tuple #[.int .i64 (p : Int), .int .i64 (hintCode (hintOf s))]) ∧ SWK enc k w0 blk off d w'
      rw [← hHc]
      clear hHc hraw
      clear h4 MA MD hI hJ hK C0
      go_enter FG, Try.ntmps131
      go_wp2_with (go_at_call 142; refine c4.mono ?_; rintro e w4 ⟨rfl, S4, cc, cfz, _, _⟩)
      all_goals
        go_ret2
        refine ⟨?_, S4⟩
        first
          | (have e0 : (s : Int) = 0 := of_beq_int (by assumption)
             rw [hh0 (by omega)]; rfl)
          | (have e1 : (s : Int) = 12 := of_beq_int (by assumption)
             rw [hh12 (by omega)]; rfl)
          | (have e0 : (s : Int) ≠ 0 := of_bne_int (by assumption)
             have e1 : (s : Int) ≠ 12 := of_bne_int (by assumption)
             rw [hhx (by omega) (by omega)]; rfl)
          | (rw [hh0 (by omega)]; rfl)
  ·
    obtain ⟨p, hp⟩ : ∃ p : Nat, p = J := ⟨_, rfl⟩
    obtain ⟨s, hs0⟩ : ∃ s : Nat, s = 0 := ⟨_, rfl⟩
    have hraw : rawPivot (ltOf cf) d a b = (p, s) := by simp only [rawPivot, if_neg h8, ← hJ, hp, hs0]
    rw [hraw]
    obtain ⟨Hc, hHc⟩ : ∃ Hc : Int, Hc = hintCode (hintOf s) := ⟨_, rfl⟩
    have hh0 : s = 0 → Hc = 1 := fun h => by rw [hHc, h]; rfl
    have hh12 : s = 12 → Hc = 2 := fun h => by rw [hHc, h]; rfl
    have hhx : s ≠ 0 → s ≠ 12 → Hc = 0 := fun h1 h2 => by rw [hHc]; unfold hintOf; rw [if_neg h1, if_neg h2]; rfl
    show Calls P 131 _ W fun e w' => e = .returned (.tuple #[.int .i64 (p : Int), .int .i64 (hintCode (hintOf s))]) ∧ SWK enc k w0 blk off d w'
    rw [← hHc]
    clear hHc hraw
    subst hp
    clear MA MD hI hJ hK
    have S4 := C0.1
    clear C0
    go_enter FG, Try.ntmps131
    go_wp2
    all_goals
      go_ret2
      refine ⟨?_, S4⟩
      first
        | (have e0 : (s : Int) = 0 := of_beq_int (by assumption)
           rw [hh0 (by omega)]; rfl)
        | (have e1 : (s : Int) = 12 := of_beq_int (by assumption)
           rw [hh12 (by omega)]; rfl)
        | (have e0 : (s : Int) ≠ 0 := of_bne_int (by assumption)
           have e1 : (s : Int) ≠ 12 := of_bne_int (by assumption)
           rw [hhx (by omega) (by omega)]; rfl)
        | (rw [hh0 (by omega)]; rfl)

end Go.Proofs.Ytcamaikogengoaa
