/- heapSortCmpFunc over items computes the plain one. The walk turns the kit's over zsortanyfunc.go to this program. -/
import Derived.Test.YtcamaikogengoaaCSift
import Derived.Shelf.SlSortFuncK.HeapSortK
import Derived.Sort.WalkB2
import Derived.Sort.WalkB12
import Derived.Deep.LoopGhost
namespace Go.Proofs.Ytcamaikogengoaa
set_option linter.unusedVariables false
set_option linter.unusedSimpArgs false
set_option linter.unusedSectionVars false
open Go.Shelf Go.RowKit Go.Lib Go.Sort
variable {P : Program} {α : Type} [Inhabited α]

set_option maxHeartbeats 8000000 in
set_option maxRecDepth 1000000 in
theorem heapSort_item (L : Inner P) (k : Nat) (aE : ∀ w, (isAgg 78).run P w = .ok true w) (zE : ∀ w, (Go.sizeOf 78).run P w = .ok k w) (enc : α → List Value) (cf : α → α → Int) (g : Nat) (cb : Array Value) (blk off cap a b : Nat) (d0 d : Array α) (w0 w : World)
    (eg : ∀ args w, (callFunc g args).run P w = .ok (.enter g args) w) (hcmp : CmpLays P g cb enc k cf blk off d0.size w0) (R : RowK enc k w0 blk off d0) (hs : d0.size = d.size) (S : SWK enc k w0 blk off d w) (hab : a ≤ b) (hb : b ≤ d.size) (hsz : d.size < 4611686018427387904) :
    Calls P 115 #[.slice (some ⟨blk, off, none⟩) d.size cap, .int .i64 a, .int .i64 b, .func (.func g) #[] cb] w fun e w' =>
      e = .returned (.tuple #[]) ∧ SWK enc k w0 blk off (heapSort (ltOf cf) d a b) w' := by
  have mixed := L.mixed; have t0 := L.t0; have a0 := L.a0; have z0 := L.z0; have v0 := L.v0; have t3 := L.t3; have a3 := L.a3; have z3 := L.z3; have v3 := L.v3; have t4 := L.t4; have a4 := L.a4; have z4 := L.z4; have v4 := L.v4; have t22 := L.t63; have a22 := L.a63; have z22 := L.z63; have v22 := L.v63; have t25 := L.t80; have a25 := L.a80; have z25 := L.z80; have v25 := L.v80
  have FG := L.f115
  have HC : Aside _ := hcmp
  have S0 : Aside _ := S
  clear S
  have e46 : ∀ args w, (callFunc 136 args).run P w = .ok (.enter 136 args) w := enters_of L.f136 (by kernel_rfl) rfl
  have ecast : ((b - a : Nat) : Int) = (b : Int) - (a : Int) := by omega
  go_enter FG, Try.ntmps115
  go_wp2
  go_loopg [11] ((b - a - 1) / 2 + 1) (fun kx s11 wr => s11 = .int .i64 ((kx : Int) - 1) ∧ kx ≤ (b - a - 1) / 2 + 1 ∧ ∃ (dk : Array α), dk.size = d.size ∧ Aside (SWK enc k w0 blk off dk wr) ∧
    Hid (heapBuild (ltOf cf) (b - a) a kx dk = heapBuild (ltOf cf) (b - a) a ((b - a - 1) / 2 + 1) d))
  case atStart => exact ⟨by rw [half_start hab], Nat.le_refl _, d, rfl, S0, rfl⟩
  case round =>
    clear S0
    obtain ⟨rfl, hkk, dk, hds, S1, HE⟩ := hrel
    cases gk with
    | zero =>
      have hB : dk = heapBuild (ltOf cf) (b - a) a ((b - a - 1) / 2 + 1) d := HE.out
      clear HE hkk
      go_wp2
      go_loopg [12] (b - a) (fun kx s12 wr2 => s12 = .int .i64 ((kx : Int) - 1) ∧ kx ≤ b - a ∧ ∃ (dj : Array α), dj.size = d.size ∧ Aside (SWK enc k w0 blk off dj wr2) ∧ Hid (heapPop (ltOf cf) a kx dj = heapPop (ltOf cf) a (b - a) dk))
      case atStart => exact ⟨by rw [ecast], Nat.le_refl _, dk, hds, S1, rfl⟩
      case round =>
        clear S1
        obtain ⟨rfl, hkk, dj, hdj, S1, HE2⟩ := hrel
        cases gk with
        | zero =>
          go_wp2
          go_end0
          have e : dj = heapSort (ltOf cf) d a b := by rw [heapSort, ← hB, ← HE2.out]; rfl
          rw [← e]
          exact ⟨rfl, S1.out⟩
        | succ kx =>
          have ekx : ((kx + 1 : Nat) : Int) - 1 = (kx : Int) := by omega
          go_wp2_with fail
          have ea35 : ((a : Int)).toNat = a := by omega
          have pa35 : (0 : Int) ≤ (a : Int) := by omega
          have ba35 : (a : Int) < (d.size : Int) := by omega
          have ra35 : IntKind.i64.wrap ((a : Int)) = (a : Int) := by rw [IntKind.wrap_i64]; omega
          have ec35 : ((a : Int) + (kx : Int)).toNat = a + kx := by omega
          have pc35 : (0 : Int) ≤ (a : Int) + (kx : Int) := by omega
          have bc35 : (a : Int) + (kx : Int) < (d.size : Int) := by omega
          have rc35 : IntKind.i64.wrap ((a : Int) + (kx : Int)) = (a : Int) + (kx : Int) := by rw [IntKind.wrap_i64]; omega
          have S2 : Aside (SWK enc k w0 blk off (swp dj (a) (a + kx)) ((wr.drew.setCells blk (off + (a) * k) (enc dj[a + kx]!)).setCells blk (off + (a + kx) * k) (enc dj[a]!))) := S1.out.swapped R (a) (a + kx) (by omega) (by omega)
          have l35a := S1.out.ld1 R (by omega) P (a) (by omega)
          have l35b := S1.out.ld1 R (by omega) P (a + kx) (by omega)
          have s35a := S1.out.st1 R (by omega) P (a) (by omega) dj[a + kx]!
          have s35b := S1.out.st2 R (by omega) P (a) (a + kx) (by omega) (by omega) dj[a + kx]! dj[a]!
          have n35a : (enc dj[a]!).length = k := R.hk _
          have n35b : (enc dj[a + kx]!).length = k := R.hk _
          generalize enc dj[a]! = cI35 at S2 l35a s35b n35a
          generalize enc dj[a + kx]! = cJ35 at S2 l35b s35a s35b n35b
          clear S1
          go_wp2_with fail
          go_big_region_o
          clear l35a l35b s35a s35b
          generalize (wr.drew.setCells blk (off + (a) * k) cJ35).setCells blk (off + (a + kx) * k) cI35 = w2 at S2 ⊢
          have hd2 : (swp dj a (a + kx)).size = d.size := by rw [size_swp]; exact hdj
          have hcall := siftDown_item L k aE zE enc cf g cb blk off cap 0 kx a d0 (swp dj a (a + kx)) w0 w2 eg HC.out R (by omega) S2.out (Nat.zero_le _) (by omega) (by omega)
          rw [hd2] at hcall
          clear S2
          go_wp2_with (go_at_call 136; refine hcall.mono ?_; rintro e w1 ⟨rfl, S3⟩)
          go_roundg kx
          case measure => omega
          case rel =>
            have hss : (siftDown (ltOf cf) kx a 0 (swp dj a (a + kx))).size = (swp dj a (a + kx)).size := size_siftDown (ltOf cf) _ _ _ _ _ (Nat.le_refl _)
            exact ⟨by simp, by omega, siftDown (ltOf cf) kx a 0 (swp dj a (a + kx)), by rw [hss, hd2], S3, HE2⟩
    | succ kx =>
      have hcall := siftDown_item L k aE zE enc cf g cb blk off cap kx (b - a) a d0 dk w0 wr eg HC.out R (by omega) S1.out (by omega) (by omega) (by omega)
      rw [ecast, hds] at hcall
      clear S1
      go_wp2_with (go_at_call 136; refine hcall.mono ?_; rintro e w1 ⟨rfl, S3⟩)
      go_roundg kx
      case measure => omega
      case rel =>
        have hss : (siftDown (ltOf cf) (b - a) a kx dk).size = dk.size := size_siftDown (ltOf cf) _ _ _ _ _ (Nat.le_refl _)
        exact ⟨by simp, by omega, siftDown (ltOf cf) (b - a) a kx dk, by rw [hss, hds], S3, HE⟩

end Go.Proofs.Ytcamaikogengoaa
