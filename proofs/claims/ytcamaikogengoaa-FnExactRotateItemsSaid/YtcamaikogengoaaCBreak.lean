/- breakPatternsCmpFunc over items computes the plain one. The walk turns the kit's over zsortanyfunc.go to this program. -/
import Derived.Test.YtcamaikogengoaaCKit
import Derived.Shelf.SlSortFuncK.BreakPatternsK
import Derived.Sort.Walk7
import Derived.Shelf.SlSortFunc.Xorshift
import Derived.Sort.WalkB2
import Derived.Sort.WalkB12
import Derived.Deep.LoopGhost
namespace Go.Proofs.Ytcamaikogengoaa
set_option linter.unusedVariables false
set_option linter.unusedSimpArgs false
set_option linter.unusedSectionVars false
open Go.Shelf Go.RowKit Go.Lib Go.Sort
variable {P : Program} {α : Type} [Inhabited α]

set_option maxHeartbeats 8000000 in
set_option maxRecDepth 1000000 in
theorem breakPatterns_item_go (L' : Inner P) (k : Nat) (aE : ∀ w, (isAgg 78).run P w = .ok true w) (zE : ∀ w, (Go.sizeOf 78).run P w = .ok k w) (enc : α → List Value) (g : Nat) (cb : Array Value) (blk off cap a L : Nat) (d0 d : Array α) (w0 w : World)
    (R : RowK enc k w0 blk off d0) (hs : d0.size = d.size) (S : SWK enc k w0 blk off d w) (hb : a + L ≤ d.size) (hsz : d.size < 4611686018427387904) (h8 : 8 ≤ L) :
    Calls P 130 #[.slice (some ⟨blk, off, none⟩) d.size cap, .int .i64 a, .int .i64 ((a + L : Nat) : Int), .func (.func g) #[] cb] w fun e w' => e = .returned (.tuple #[]) ∧ SWK enc k w0 blk off (breakPatterns d a (a + L)) w' := by
  have mixed := L'.mixed; have t0 := L'.t0; have a0 := L'.a0; have z0 := L'.z0; have v0 := L'.v0; have t3 := L'.t3; have a3 := L'.a3; have z3 := L'.z3; have v3 := L'.v3; have t4 := L'.t4; have a4 := L'.a4; have z4 := L'.z4; have v4 := L'.v4; have t5 := L'.t5; have a5 := L'.a5; have z5 := L'.z5; have v5 := L'.v5; have t9 := L'.t9; have a9 := L'.a9; have z9 := L'.z9; have v9 := L'.v9; have t22 := L'.t63; have a22 := L'.a63; have z22 := L'.z63; have v22 := L'.v63; have t25 := L'.t80; have a25 := L'.a80; have z25 := L'.z80; have v25 := L'.v80; have t39 := L'.t36; have a39 := L'.a36; have z39 := L'.z36; have v39 := L'.v36; have t53 := L'.t101; have a53 := L'.a101; have z53 := L'.z101; have v53 := L'.v101; have t55 := L'.t22; have a55 := L'.a22; have z55 := L'.z22; have v55 := L'.v22; have t66 := L'.t72; have a66 := L'.a72; have z66 := L'.z72; have v66 := L'.v72; have t76 := L'.t92; have a76 := L'.a92; have z76 := L'.z92; have v76 := L'.v92
  have FG := L'.f130
  have e47 : ∀ args w, (callFunc 109 args).run P w = .ok (.enter 109 args) w := enters_of L'.f109 (by kernel_rfl) rfl
  have e48 : ∀ args w, (callFunc 101 args).run P w = .ok (.enter 101 args) w := enters_of L'.f101 (by kernel_rfl) rfl
  rw [breakPatterns_eq d a L h8]
  obtain ⟨M, hM⟩ : ∃ M : Nat, M = 1 <<< bitsLen L := ⟨_, rfl⟩
  have hM1 : 1 ≤ M := by rw [hM, Nat.one_shiftLeft]; exact Nat.two_pow_pos _
  have hM2 : M ≤ 2 * L := by rw [hM, Nat.one_shiftLeft]; exact two_pow_bitsLen_le (by omega)
  have hNP : ∀ w, Calls P 109 #[.int .i64 (L : Int)] w fun e w' => e = .returned (.int .u64 (M : Int)) ∧ w' = w := by rw [hM]; exact fun w => L'.pow2 L (by omega) w
  rw [← hM]
  clear hM
  have hLz : ((a : Int) + (L : Int) - (a : Int)) = (L : Int) := by omega
  have h8z : (8 : Int) ≤ (L : Int) := by omega
  have hne : w.heap.size ≠ blk := by have := S.lt R.hblk; omega
  have hle0 : w0.heap.size ≤ w.heap.size := S.le
  have S0 : Aside (SWK enc k w0 blk off d w) := S
  clear S
  go_enter FG, Try.ntmps130
  go_wp2_with (first | (go_at_call 109; refine (hNP _).mono ?_; rintro e w' ⟨rfl, rfl⟩))
  go_loopg [11] 3 (fun g1 vi wr => ∃ (t : Nat) (r : UInt64) (dk : Array α), vi = .int .i64 ((a : Int) + (L : Int) / 4 * 2 - 1 + (t : Int)) ∧ t ≤ 3 ∧ 3 - t ≤ g1 ∧ dk.size = d.size ∧ Aside (SWK enc k w0 blk off dk wr) ∧
      wr.cell? ⟨w.heap.size, 0, none⟩ = some (.int .u64 (r.toNat : Int)) ∧ wr.frozen? ⟨w.heap.size, 0, none⟩ = false ∧
      Hid (bpRest a L M (a + L / 4 * 2 - 1) (3 - t) t (r, dk) = bpRest a L M (a + L / 4 * 2 - 1) 3 0 (UInt64.ofNat L, d)))
  case atStart =>
    refine ⟨0, UInt64.ofNat L, d, by simp, by omega, by omega, rfl, S0.out.alloc _, ?_, by simp, rfl⟩
    rw [show (UInt64.ofNat L).toNat = L from by simp; omega]
    simp
  case round =>
    clear S0
    obtain ⟨t, r, dk, rfl, ht, hg1, hds, S1, cR, fR, HR⟩ := hrel
    by_cases ht3 : t < 3
    · have hle : (a : Int) + (L : Int) / 4 * 2 - 1 + (t : Int) ≤ (a : Int) + (L : Int) / 4 * 2 + 1 := by omega
      obtain ⟨R0, hRr⟩ : ∃ R0 : Nat, R0 = r.toNat := ⟨_, rfl⟩
      have lR : R0 < 18446744073709551616 := by rw [hRr]; exact r.toNat_lt
      obtain ⟨R', hR'⟩ : ∃ R' : Nat, R' = xorNextN R0 := ⟨_, rfl⟩
      have lR' : R' < 18446744073709551616 := by rw [hR']; exact xorNextN_lt R0 lR
      obtain ⟨O, hO⟩ : ∃ O : Nat, O = R' &&& (M - 1) := ⟨_, rfl⟩
      have lO : O ≤ M - 1 := by rw [hO]; exact Nat.and_le_right
      have eAnd : bits .and .u64 (R' : Int) ((M : Int) - 1) = (O : Int) := by
        rw [show ((M : Int) - 1) = ((M - 1 : Nat) : Int) by omega, bits_and_u64_nat _ _ lR' (by omega), hO]
      rw [← hRr] at cR
      have hNext : Calls P 101 #[.pointer (some ⟨w.heap.size, 0, none⟩)] wr fun e w' => e = .returned (.int .u64 (R' : Int)) ∧ w' = (wr.setCell ⟨w.heap.size, 0, none⟩ (.int .u64 (R' : Int))).drewN 3 := by
        rw [hR']; exact L'.next _ _ R0 lR wr cR fR
      have HN : Hid (R' = (xorNext r).toNat ∧ O = (xorNext r).toNat &&& (M - 1)) := by
        have e : R' = (xorNext r).toNat := by rw [hR', hRr, xorNext_toNat]
        exact ⟨e, by rw [hO, e]⟩
      clear hRr hR' hO
      have S2 : Aside (SWK enc k w0 blk off dk ((wr.setCell ⟨w.heap.size, 0, none⟩ (.int .u64 (R' : Int))).drewN 3)) := (S1.out.setCell_new w.heap.size 0 (.int .u64 (R' : Int)) hle0).drewN 3
      have cR' : ((wr.setCell ⟨w.heap.size, 0, none⟩ (.int .u64 (R' : Int))).drewN 3).cell? ⟨w.heap.size, 0, none⟩ = some (.int .u64 (R' : Int)) := by
        rw [World.cell?_drewN]; exact World.cell?_setCell_same _ _ _ cR
      have fR' : ((wr.setCell ⟨w.heap.size, 0, none⟩ (.int .u64 (R' : Int))).drewN 3).frozen? ⟨w.heap.size, 0, none⟩ = false := by
        rw [World.frozen?_drewN]; simpa using fR
      generalize (wr.setCell ⟨w.heap.size, 0, none⟩ (.int .u64 (R' : Int))).drewN 3 = w2 at hNext S2 cR' fR'
      clear cR fR S1
      by_cases hLO : L ≤ O
      ·
        have hLOz : (L : Int) ≤ (O : Int) := by omega
        go_wp2_with (go_at_call 101; refine hNext.mono ?_; rintro e w' ⟨rfl, hw'⟩; obtain rfl : w2 = w' := hw'.symm)
        have ea42 : ((a : Int) + (L : Int) / 4 * 2 - 1 + (t : Int)).toNat = a + L / 4 * 2 - 1 + t := by omega
        have pa42 : (0 : Int) ≤ (a : Int) + (L : Int) / 4 * 2 - 1 + (t : Int) := by omega
        have ba42 : (a : Int) + (L : Int) / 4 * 2 - 1 + (t : Int) < (d.size : Int) := by omega
        have ra42 : IntKind.i64.wrap ((a : Int) + (L : Int) / 4 * 2 - 1 + (t : Int)) = (a : Int) + (L : Int) / 4 * 2 - 1 + (t : Int) := by rw [IntKind.wrap_i64]; omega
        have ec42 : ((a : Int) + ((O : Int) - (L : Int))).toNat = a + (O - L) := by omega
        have pc42 : (0 : Int) ≤ (a : Int) + ((O : Int) - (L : Int)) := by omega
        have bc42 : (a : Int) + ((O : Int) - (L : Int)) < (d.size : Int) := by omega
        have rc42 : IntKind.i64.wrap ((a : Int) + ((O : Int) - (L : Int))) = (a : Int) + ((O : Int) - (L : Int)) := by rw [IntKind.wrap_i64]; omega
        have S3 : Aside (SWK enc k w0 blk off (swp dk (a + L / 4 * 2 - 1 + t) (a + (O - L))) ((w2.drew.setCells blk (off + (a + L / 4 * 2 - 1 + t) * k) (enc dk[a + (O - L)]!)).setCells blk (off + (a + (O - L)) * k) (enc dk[a + L / 4 * 2 - 1 + t]!))) := S2.out.swapped R (a + L / 4 * 2 - 1 + t) (a + (O - L)) (by omega) (by omega)
        have l42a := S2.out.ld1 R (by omega) P (a + L / 4 * 2 - 1 + t) (by omega)
        have l42b := S2.out.ld1 R (by omega) P (a + (O - L)) (by omega)
        have s42a := S2.out.st1 R (by omega) P (a + L / 4 * 2 - 1 + t) (by omega) dk[a + (O - L)]!
        have s42b := S2.out.st2 R (by omega) P (a + L / 4 * 2 - 1 + t) (a + (O - L)) (by omega) (by omega) dk[a + (O - L)]! dk[a + L / 4 * 2 - 1 + t]!
        have n42a : (enc dk[a + L / 4 * 2 - 1 + t]!).length = k := R.hk _
        have n42b : (enc dk[a + (O - L)]!).length = k := R.hk _
        generalize enc dk[a + L / 4 * 2 - 1 + t]! = cI42 at S3 l42a s42b n42a
        generalize enc dk[a + (O - L)]! = cJ42 at S3 l42b s42a s42b n42b
        clear S2
        go_wp2_with fail
        go_big_region_o
        clear l42a l42b s42a s42b
        have k1 := box_kept_swap (W := w2) (blk := blk) hne cR' fR' (off + (a + L / 4 * 2 - 1 + t) * k) (off + (a + (O - L)) * k) cJ42 cI42
        generalize (w2.drew.setCells blk (off + (a + L / 4 * 2 - 1 + t) * k) cJ42).setCells blk (off + (a + (O - L)) * k) cI42 = w3 at S3 k1 ⊢
        go_wp2
        go_roundg (3 - (t + 1))
        case measure => omega
        case rel => exact ⟨t + 1, xorNext r, swp dk (a + L / 4 * 2 - 1 + t) (a + (O - L)), by congr 1; push_cast; omega, by omega, Nat.le_refl _, by rw [size_swp]; exact hds, S3, by rw [← HN.out.1]; exact k1.1, k1.2,
          (show Hid _ from by rw [← HR.out, bp_step a L M _ t r dk (O - L) ht3 (by rw [← HN.out.2, if_pos (by omega)])]; exact rfl)⟩
      · have hLOz : ¬ (L : Int) ≤ (O : Int) := by omega
        go_wp2_with (go_at_call 101; refine hNext.mono ?_; rintro e w' ⟨rfl, hw'⟩; obtain rfl : w2 = w' := hw'.symm)
        have ea43 : ((a : Int) + (L : Int) / 4 * 2 - 1 + (t : Int)).toNat = a + L / 4 * 2 - 1 + t := by omega
        have pa43 : (0 : Int) ≤ (a : Int) + (L : Int) / 4 * 2 - 1 + (t : Int) := by omega
        have ba43 : (a : Int) + (L : Int) / 4 * 2 - 1 + (t : Int) < (d.size : Int) := by omega
        have ra43 : IntKind.i64.wrap ((a : Int) + (L : Int) / 4 * 2 - 1 + (t : Int)) = (a : Int) + (L : Int) / 4 * 2 - 1 + (t : Int) := by rw [IntKind.wrap_i64]; omega
        have ec43 : ((a : Int) + (O : Int)).toNat = a + O := by omega
        have pc43 : (0 : Int) ≤ (a : Int) + (O : Int) := by omega
        have bc43 : (a : Int) + (O : Int) < (d.size : Int) := by omega
        have rc43 : IntKind.i64.wrap ((a : Int) + (O : Int)) = (a : Int) + (O : Int) := by rw [IntKind.wrap_i64]; omega
        have S3 : Aside (SWK enc k w0 blk off (swp dk (a + L / 4 * 2 - 1 + t) (a + O)) ((w2.drew.setCells blk (off + (a + L / 4 * 2 - 1 + t) * k) (enc dk[a + O]!)).setCells blk (off + (a + O) * k) (enc dk[a + L / 4 * 2 - 1 + t]!))) := S2.out.swapped R (a + L / 4 * 2 - 1 + t) (a + O) (by omega) (by omega)
        have l43a := S2.out.ld1 R (by omega) P (a + L / 4 * 2 - 1 + t) (by omega)
        have l43b := S2.out.ld1 R (by omega) P (a + O) (by omega)
        have s43a := S2.out.st1 R (by omega) P (a + L / 4 * 2 - 1 + t) (by omega) dk[a + O]!
        have s43b := S2.out.st2 R (by omega) P (a + L / 4 * 2 - 1 + t) (a + O) (by omega) (by omega) dk[a + O]! dk[a + L / 4 * 2 - 1 + t]!
        have n43a : (enc dk[a + L / 4 * 2 - 1 + t]!).length = k := R.hk _
        have n43b : (enc dk[a + O]!).length = k := R.hk _
        generalize enc dk[a + L / 4 * 2 - 1 + t]! = cI43 at S3 l43a s43b n43a
        generalize enc dk[a + O]! = cJ43 at S3 l43b s43a s43b n43b
        clear S2
        go_wp2_with fail
        go_big_region_o
        clear l43a l43b s43a s43b
        have k1 := box_kept_swap (W := w2) (blk := blk) hne cR' fR' (off + (a + L / 4 * 2 - 1 + t) * k) (off + (a + O) * k) cJ43 cI43
        generalize (w2.drew.setCells blk (off + (a + L / 4 * 2 - 1 + t) * k) cJ43).setCells blk (off + (a + O) * k) cI43 = w3 at S3 k1 ⊢
        go_wp2
        go_roundg (3 - (t + 1))
        case measure => omega
        case rel => exact ⟨t + 1, xorNext r, swp dk (a + L / 4 * 2 - 1 + t) (a + O), by congr 1; push_cast; omega, by omega, Nat.le_refl _, by rw [size_swp]; exact hds, S3, by rw [← HN.out.1]; exact k1.1, k1.2,
          (show Hid _ from by rw [← HR.out, bp_step a L M _ t r dk O ht3 (by rw [← HN.out.2, if_neg (by omega)])]; exact rfl)⟩
    ·
      obtain rfl : t = 3 := by omega
      have hle : ¬ ((a : Int) + (L : Int) / 4 * 2 - 1 + ((3 : Nat) : Int) ≤ (a : Int) + (L : Int) / 4 * 2 + 1) := by omega
      go_wp2
      go_end0
      refine ⟨rfl, ?_⟩
      rw [← HR.out]
      exact S1.out

set_option maxHeartbeats 2000000 in
theorem breakPatterns_item (L' : Inner P) (k : Nat) (aE : ∀ w, (isAgg 78).run P w = .ok true w) (zE : ∀ w, (Go.sizeOf 78).run P w = .ok k w) (enc : α → List Value) (g : Nat) (cb : Array Value) (blk off cap a b : Nat) (d0 d : Array α) (w0 w : World)
    (R : RowK enc k w0 blk off d0) (hs : d0.size = d.size) (S : SWK enc k w0 blk off d w) (hab : a ≤ b) (hb : b ≤ d.size) (hsz : d.size < 4611686018427387904) :
    Calls P 130 #[.slice (some ⟨blk, off, none⟩) d.size cap, .int .i64 a, .int .i64 b, .func (.func g) #[] cb] w fun e w' => e = .returned (.tuple #[]) ∧ SWK enc k w0 blk off (breakPatterns d a b) w' := by
  obtain ⟨L, rfl⟩ : ∃ L, b = a + L := ⟨b - a, by omega⟩
  by_cases h8 : 8 ≤ L
  · exact breakPatterns_item_go L' k aE zE enc g cb blk off cap a L d0 d w0 w R hs S hb hsz h8
  · have hv : breakPatterns d a (a + L) = d := by unfold breakPatterns; simp only [Nat.add_sub_cancel_left]; rw [if_neg h8]
    rw [hv]
    have mixed := L'.mixed; have t0 := L'.t0; have a0 := L'.a0; have z0 := L'.z0; have v0 := L'.v0; have t3 := L'.t3; have a3 := L'.a3; have z3 := L'.z3; have v3 := L'.v3; have t4 := L'.t4; have a4 := L'.a4; have z4 := L'.z4; have v4 := L'.v4; have t5 := L'.t5; have a5 := L'.a5; have z5 := L'.z5; have v5 := L'.v5; have t9 := L'.t9; have a9 := L'.a9; have z9 := L'.z9; have v9 := L'.v9; have t22 := L'.t63; have a22 := L'.a63; have z22 := L'.z63; have v22 := L'.v63; have t25 := L'.t80; have a25 := L'.a80; have z25 := L'.z80; have v25 := L'.v80; have t39 := L'.t36; have a39 := L'.a36; have z39 := L'.z36; have v39 := L'.v36; have t53 := L'.t101; have a53 := L'.a101; have z53 := L'.z101; have v53 := L'.v101; have t55 := L'.t22; have a55 := L'.a22; have z55 := L'.z22; have v55 := L'.v22; have t66 := L'.t72; have a66 := L'.a72; have z66 := L'.z72; have v66 := L'.v72; have t76 := L'.t92; have a76 := L'.a92; have z76 := L'.z92; have v76 := L'.v92
    have FG := L'.f130
    have hLz : ((a : Int) + (L : Int) - (a : Int)) = (L : Int) := by omega
    have h8z : ¬ (8 : Int) ≤ (L : Int) := by omega
    have S0 : Aside (SWK enc k w0 blk off d w) := S
    clear S
    go_enter FG, Try.ntmps130
    go_wp2
    go_end0
    exact ⟨rfl, S0.out⟩

end Go.Proofs.Ytcamaikogengoaa
