/- spec.full sorts a range of a copy by insertion, by whatever spec.less says. -/
import Derived.Test.YtcamaikogengoaaItRef
namespace Go.Proofs.Ytcamaikogengoaa
set_option linter.unusedVariables false
set_option linter.unusedSimpArgs false
set_option linter.unusedSectionVars false
open Go.Shelf Go.RowKit Go.Lib Go.Sort
variable {P : Program} {α : Type} [Inhabited α]

set_option maxHeartbeats 2000000 in
set_option maxRecDepth 1000000 in
theorem full_k (L : Ref P) (k : Nat) (aE : ∀ w, (isAgg 50).run P w = .ok true w) (zE : ∀ w, (Go.sizeOf 50).run P w = .ok k w) (enc : α → List Value) (hk : ∀ x, (enc x).length = k) (h1 : ∀ x, ∀ v ∈ enc x, v.oneCell' = true) (lt : α → α → Bool) (hless : LessK P enc lt)
    (v : Value) (d : Array α) (a b : Nat) (w : World) (hcl : ClonesK P enc k v d w) (hab : a ≤ b) (hb : b ≤ d.size) (hsz : d.size < 4611686018427387904) :
    Calls P 84 #[v, .int .i64 a, .int .i64 b] w (SortedTo enc k w d (Sort.insertionSort lt d a b)) := by
  have mixed := L.mixed; have t0 := L.t0; have a0 := L.a0; have z0 := L.z0; have v0 := L.v0; have t3 := L.t3; have a3 := L.a3; have z3 := L.z3; have v3 := L.v3; have t4 := L.t4; have a4 := L.a4; have z4 := L.z4; have v4 := L.v4; have t39 := L.t39; have a39 := L.a39; have z39 := L.z39; have v39 := L.v39
  have FG := L.f84
  have e89 := L.e89
  have e113 := L.e113
  have CL := Lib.hid hcl
  have HK1 := Lib.hid hk
  have HK2 := Lib.hid h1
  have LS := Lib.hid hless
  clear hless
  clear hcl hk h1
  go_enter FG, Try.ntmps84
  go_wp2_with (first | (go_at_call 89; refine (CL.out).mono ?_; rintro e w1 ⟨blk, off, cap, rfl, hrow⟩))
  have OR := Lib.hid hrow
  have R : RowK enc k w1 blk off d := ⟨HK1.out, HK2.out, hrow.hH, hrow.hlt⟩
  have S0 : Aside (SWK enc k w1 blk off d w1) := SWK.start hrow.hH
  clear hrow
  go_loopg [8] (b - a) (fun g1 vi wr => ∃ (i : Nat) (dk : Array α), vi = .int .i64 i ∧ a ≤ i ∧ i ≤ b ∧ b - i ≤ g1 ∧ dk.size = d.size ∧ Aside (SWK enc k w1 blk off dk wr) ∧ Hid (insOuter lt a b i dk = insOuter lt a b a d))
  case atStart => exact ⟨a, d, rfl, Nat.le_refl _, hab, Nat.le_refl _, rfl, S0, rfl⟩
  case round =>
    clear S0
    obtain ⟨i, dk, rfl, hai, hib, hg1, hsk, S1, HO⟩ := hrel
    by_cases hlt1 : i < b
    · have hltz : (i : Int) < (b : Int) := by omega
      go_wp2
      go_loopg [9] i (fun g2 vj wr => ∃ (j : Nat) (dj : Array α), vj = .int .i64 j ∧ a ≤ j ∧ j ≤ i ∧ j ≤ g2 ∧ dj.size = d.size ∧ Aside (SWK enc k w1 blk off dj wr) ∧ Hid (insInner lt a j dj = insInner lt a i dk))
      case atStart => exact ⟨i, dk, rfl, hai, Nat.le_refl _, Nat.le_refl _, hsk, S1, rfl⟩
      case round =>
        clear S1
        obtain ⟨j, dj, rfl, haj, hji, hg2, hsj, S2, HI⟩ := hrel
        have out : (j ≤ a ∨ lt dj[j]! dj[j - 1]! = false) → Hid (insOuter lt a b (i + 1) dj = insOuter lt a b a d) := fun hs => by
          show _ = _
          rw [← HO.out, insOuter_go _ _ _ _ _ hlt1, ← HI.out, insInner_stop _ _ _ _ hs]
        have OUT : Aside _ := out
        clear out
        by_cases hja : a < j
        · have hjaz : (a : Int) < (j : Int) := by omega
          obtain ⟨jp, rfl⟩ : ∃ jp, j = jp + 1 := ⟨j - 1, by omega⟩
          have hjaz' : (a : Int) < (jp : Int) + 1 := by omega
          cases hvl : lt dj[jp + 1]! dj[jp]! with
          | true =>
            have HV := Lib.hid hvl
            clear hvl
            have ea1 : ((jp : Int) + 1).toNat = jp + 1 := by omega
            have pa1 : (0 : Int) ≤ (jp : Int) + 1 := by omega
            have ba1 : (jp : Int) + 1 < (d.size : Int) := by omega
            have ra1 : IntKind.i64.wrap ((jp : Int) + 1) = (jp : Int) + 1 := by rw [IntKind.wrap_i64]; omega
            have ec1 : ((jp : Int)).toNat = jp := by omega
            have pc1 : (0 : Int) ≤ (jp : Int) := by omega
            have bc1 : (jp : Int) < (d.size : Int) := by omega
            have rc1 : IntKind.i64.wrap ((jp : Int)) = (jp : Int) := by rw [IntKind.wrap_i64]; omega
            obtain ⟨x1, hx1⟩ : ∃ x, x = dj[jp + 1]! := ⟨_, rfl⟩
            obtain ⟨y1, hy1⟩ : ∃ x, x = dj[jp]! := ⟨_, rfl⟩
            have l1a := S2.out.ld R (by omega) P (jp + 1) (by omega)
            have l1b := S2.out.ld R (by omega) P (jp) (by omega)
            rw [← hx1] at l1a
            rw [← hy1] at l1b
            have hc1 := LS.out x1 y1
            rw [show lt x1 y1 = true from by rw [hx1, hy1]; exact HV.out] at hc1
            clear hx1 hy1
            go_wp2_with fail
            go_quiet_grown (first | (go_at_call 113; refine Calls.grown_of (hc1 _)))
            have S3 : Aside (SWK enc k w1 blk off dj (grow (wr.drewN nq) osq)) := S2.out.grown nq osq
            clear l1a l1b hc1 S2
            generalize grow (wr.drewN nq) osq = w2 at S3 ⊢
            clear nq osq
            go_wp2_with fail
            have ea3 : ((jp : Int)).toNat = jp := by omega
            have pa3 : (0 : Int) ≤ (jp : Int) := by omega
            have ba3 : (jp : Int) < (d.size : Int) := by omega
            have ra3 : IntKind.i64.wrap ((jp : Int)) = (jp : Int) := by rw [IntKind.wrap_i64]; omega
            have ec3 : ((jp : Int) + 1).toNat = jp + 1 := by omega
            have pc3 : (0 : Int) ≤ (jp : Int) + 1 := by omega
            have bc3 : (jp : Int) + 1 < (d.size : Int) := by omega
            have rc3 : IntKind.i64.wrap ((jp : Int) + 1) = (jp : Int) + 1 := by rw [IntKind.wrap_i64]; omega
            have S4 : Aside (SWK enc k w1 blk off (swp dj (jp) (jp + 1)) ((w2.drew.setCells blk (off + (jp) * k) (enc dj[jp + 1]!)).setCells blk (off + (jp + 1) * k) (enc dj[jp]!))) := S3.out.swapped R (jp) (jp + 1) (by omega) (by omega)
            have l3a := S3.out.ld1 R (by omega) P (jp) (by omega)
            have l3b := S3.out.ld1 R (by omega) P (jp + 1) (by omega)
            have s3a := S3.out.st1 R (by omega) P (jp) (by omega) dj[jp + 1]!
            have s3b := S3.out.st2 R (by omega) P (jp) (jp + 1) (by omega) (by omega) dj[jp + 1]! dj[jp]!
            have n3a : (enc dj[jp]!).length = k := R.hk _
            have n3b : (enc dj[jp + 1]!).length = k := R.hk _
            generalize enc dj[jp]! = cI3 at S4 l3a s3b n3a
            generalize enc dj[jp + 1]! = cJ3 at S4 l3b s3a s3b n3b
            clear S3
            go_wp2_with fail
            go_big_region_o
            clear l3a l3b s3a s3b
            generalize (w2.drew.setCells blk (off + (jp) * k) cJ3).setCells blk (off + (jp + 1) * k) cI3 = w3 at S4 ⊢
            go_wp2
            go_roundg jp
            case measure => omega
            case rel =>
              refine ⟨jp, swp dj jp (jp + 1), by first | rfl | go_num | (congr 1; omega), by omega, by omega, Nat.le_refl _, by rw [size_swp]; exact hsj, S4, (show Hid _ from ?_)⟩
              show _ = _
              have := insInner_go lt a (jp + 1) dj hja (by simp only [Nat.add_sub_cancel]; exact HV.out)
              simp only [Nat.add_sub_cancel] at this
              rw [← HI.out, this, swp_comm_k (d := dj) (i := jp) (j := jp + 1) (by omega) (by omega)]
          | false =>
            have HV := Lib.hid hvl
            clear hvl
            have ea2 : ((jp : Int) + 1).toNat = jp + 1 := by omega
            have pa2 : (0 : Int) ≤ (jp : Int) + 1 := by omega
            have ba2 : (jp : Int) + 1 < (d.size : Int) := by omega
            have ra2 : IntKind.i64.wrap ((jp : Int) + 1) = (jp : Int) + 1 := by rw [IntKind.wrap_i64]; omega
            have ec2 : ((jp : Int)).toNat = jp := by omega
            have pc2 : (0 : Int) ≤ (jp : Int) := by omega
            have bc2 : (jp : Int) < (d.size : Int) := by omega
            have rc2 : IntKind.i64.wrap ((jp : Int)) = (jp : Int) := by rw [IntKind.wrap_i64]; omega
            obtain ⟨x2, hx2⟩ : ∃ x, x = dj[jp + 1]! := ⟨_, rfl⟩
            obtain ⟨y2, hy2⟩ : ∃ x, x = dj[jp]! := ⟨_, rfl⟩
            have l2a := S2.out.ld R (by omega) P (jp + 1) (by omega)
            have l2b := S2.out.ld R (by omega) P (jp) (by omega)
            rw [← hx2] at l2a
            rw [← hy2] at l2b
            have hc2 := LS.out x2 y2
            rw [show lt x2 y2 = false from by rw [hx2, hy2]; exact HV.out] at hc2
            clear hx2 hy2
            go_wp2_with fail
            go_quiet_grown (first | (go_at_call 113; refine Calls.grown_of (hc2 _)))
            have S3 : Aside (SWK enc k w1 blk off dj (grow (wr.drewN nq) osq)) := S2.out.grown nq osq
            clear l2a l2b hc2 S2
            generalize grow (wr.drewN nq) osq = w2 at S3 ⊢
            clear nq osq
            go_wp2
            go_roundg (b - (i + 1))
            case measure => omega
            case rel => exact ⟨i + 1, dj, by go_num, by omega, by omega, by omega, hsj, S3, OUT.out (Or.inr (by simp only [Nat.add_sub_cancel]; exact HV.out))⟩
        · have hjaz : decide ((j : Int) > (a : Int)) = false := decide_eq_false (by omega)
          have hjaz' : ¬ (a : Int) < (j : Int) := by omega
          go_wp2_with fail
          go_big_region_o
          have S3 : Aside (SWK enc k w1 blk off dj wr.drew) := S2.out.drewN 1
          clear S2
          generalize wr.drew = w2 at S3 ⊢
          go_wp2
          go_roundg (b - (i + 1))
          case measure => omega
          case rel => exact ⟨i + 1, dj, by go_num, by omega, by omega, by omega, hsj, S3, OUT.out (Or.inl (by omega))⟩
    · have hltz : ¬ (i : Int) < (b : Int) := by omega
      go_wp2
      go_ret
      refine ⟨blk, off, cap, w1, rfl, OR.out, ?_⟩
      rw [← ins_from_a, ← HO.out, insOuter_stop _ _ _ _ _ hlt1]
      exact S1.out

end Go.Proofs.Ytcamaikogengoaa
