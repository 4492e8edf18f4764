/- symMergeCmpFunc over items merges two sorted parts stably: what is sorted by keys in both parts is sorted by keys in the whole, those of one key in their order. -/
import Derived.Test.YtcamaikogengoaaCRot
import Derived.Test.YtcamaikogengoaaPlainMerge
import Derived.Sort.WalkB2
import Derived.Sort.WalkB12
import Derived.Deep.LoopGhost
import Derived.Lib.Hide
import Derived.Deep.Cut
namespace Go.Proofs.Ytcamaikogengoaa
set_option linter.unusedVariables false
set_option linter.unusedSimpArgs false
set_option linter.unusedSectionVars false
open Go.Shelf Go.RowKit Go.Lib Go.Sort
variable {P : Program} {α : Type} [Inhabited α]

theorem IsRot.push {a q : Nat} {d dk : Array α} (h : IsRot a (a + 1) (q + 1) d dk) (haq : a ≤ q) (hq : q + 1 < dk.size) : IsRot a (a + 1) (q + 2) d (swp dk q (q + 1)) := by
  have g := swp_at dk (i := q) (j := q + 1) (by omega) hq
  have e := h.at_ (by omega) (by omega)
  refine ⟨by rw [size_swp]; exact h.size, fun p hp => ?_, fun t ht => ?_, fun t ht => ?_⟩
  · rw [g, if_neg (by omega), if_neg (by omega)]; exact h.out p (by omega)
  · rw [g, if_neg (by omega)]
    by_cases c : a + t = q
    · rw [if_pos c, h.out _ (by omega)]; congr 1; omega
    · rw [if_neg c]; exact h.left t (by omega)
  · obtain rfl : t = 0 := by omega
    rw [g, if_pos (by omega), e, if_neg (by omega), if_neg (by omega), if_pos (by omega)]
    congr 1; omega

theorem IsRot.pull {q m : Nat} {d dk : Array α} (h : IsRot (q + 1) m (m + 1) d dk) (hqm : q + 1 ≤ m) (hm : m < dk.size) : IsRot q m (m + 1) d (swp dk (q + 1) q) := by
  have g := swp_at dk (i := q + 1) (j := q) (by omega) (by omega)
  have e := h.at_ hqm (by omega)
  refine ⟨by rw [size_swp]; exact h.size, fun p hp => ?_, fun t ht => ?_, fun t ht => ?_⟩
  · rw [g, if_neg (by omega), if_neg (by omega)]; exact h.out p (by omega)
  · obtain rfl : t = 0 := by omega
    rw [g, if_pos (by omega), e, if_neg (by omega), if_pos (by omega)]
    congr 1; omega
  · rw [g, if_neg (by omega)]
    by_cases c : q + (m + 1 - m) + t = q + 1
    · rw [if_pos c, h.out _ (by omega)]; congr 1; omega
    · rw [if_neg c]
      have r := h.right (t - 1) (by omega)
      rw [show q + 1 + (m + 1 - m) + (t - 1) = q + (m + 1 - m) + t from by omega, show q + 1 + (t - 1) = q + t from by omega] at r
      exact r

/-- The range is merged: sorted by keys, those of one key in their order. -/
def MergedTo (enc : α → List Value) (k : Nat) (w0 : World) (blk off : Nat) (key : α → Int) (a b : Nat) (d : Array α) (e : Ending) (w' : World) : Prop :=
  e = .returned (.tuple #[]) ∧ ∃ d', SWK enc k w0 blk off d' w' ∧ Stab key a b d d' ∧ Asc key a b d'

set_option maxHeartbeats 16000000 in
set_option maxRecDepth 1000000 in
theorem symMerge_left (L : Inner P) (k : Nat) (aE : ∀ w, (isAgg 78).run P w = .ok true w) (zE : ∀ w, (Go.sizeOf 78).run P w = .ok k w) (enc : α → List Value) (cf : α → α → Int) (g : Nat) (cb : Array Value) (key : α → Int) (hkey : ∀ x y, cf x y < 0 ↔ key x < key y) (blk off cap : Nat) (d0 : Array α) (w0 : World)
    (eg : ∀ args w, (callFunc g args).run P w = .ok (.enter g args) w) (hcmp : CmpLays P g cb enc k cf blk off d0.size w0) (R : RowK enc k w0 blk off d0) (hsz : d0.size < 4611686018427387904)
    (a m b : Nat) (d : Array α) (w : World) (hs : d0.size = d.size) (S : SWK enc k w0 blk off d w) (ham : a < m) (hmb : m < b) (hb : b ≤ d.size) (hA1 : Asc key a m d) (hA2 : Asc key m b d) (c1 : m = a + 1) :
    Calls P 126 #[.slice (some ⟨blk, off, none⟩) d.size cap, .int .i64 a, .int .i64 m, .int .i64 b, .func (.func g) #[] cb] w (MergedTo enc k w0 blk off key a b d) := by
  have mixed := L.mixed; have t0 := L.t0; have a0 := L.a0; have z0 := L.z0; have v0 := L.v0; have t3 := L.t3; have a3 := L.a3; have z3 := L.z3; have v3 := L.v3; have t4 := L.t4; have a4 := L.a4; have z4 := L.z4; have v4 := L.v4; have t36 := L.t36; have a36 := L.a36; have z36 := L.z36; have v36 := L.v36; have t22 := L.t63; have a22 := L.a63; have z22 := L.z63; have v22 := L.v63; have t25 := L.t80; have a25 := L.a80; have z25 := L.z80; have v25 := L.v80
  have e125 : ∀ args w, (callFunc 125 args).run P w = .ok (.enter 125 args) w := enters_of L.f125 (by kernel_rfl) rfl
  have e126 : ∀ args w, (callFunc 126 args).run P w = .ok (.enter 126 args) w := enters_of L.f126 (by kernel_rfl) rfl
  have FG := L.f126
  have HC : Aside _ := hcmp
  have HK : Hid (∀ x y, cf x y < 0 ↔ key x < key y) := hkey
  clear hcmp hkey
  have A1 := Lib.hid hA1
  have A2 := Lib.hid hA2
  have S0 : Aside (SWK enc k w0 blk off d w) := S
  clear hA1 hA2 S
  have t1 : ((m : Int) - (a : Int) == 1) = true := by simp; omega
  have C1 := Lib.hid c1
  clear c1
  go_enter FG, Try.ntmps126
  go_wp2
  go_loopg [10, 11] (b - m) (fun kx s10 s11 wr => ∃ (i j : Nat), s10 = .int .i64 i ∧ s11 = .int .i64 j ∧ m ≤ i ∧ i ≤ j ∧ j ≤ b ∧ j - i ≤ kx ∧ Aside (SWK enc k w0 blk off d wr) ∧
    Hid ((∀ h, m ≤ h → h < i → key d[h]! < key d[a]!) ∧ (∀ h, j ≤ h → h < b → key d[a]! ≤ key d[h]!)))
  case atStart => exact ⟨m, b, rfl, rfl, Nat.le_refl _, by omega, Nat.le_refl _, by omega, S0, ⟨fun h h1 h2 => by omega, fun h h1 h2 => by omega⟩⟩
  case round =>
    clear S0
    obtain ⟨i, j, rfl, rfl, hmi, hij, hjb, hkx, S1, HB⟩ := hrel
    by_cases hlt : i < j
    · have hltz : (i : Int) < (j : Int) := by omega
      by_cases hk : key d[(i + j) / 2]! < key d[a]!
      · have HKT := Lib.hid hk
        clear hk
        go_wp2_with fail
        have ea1 : (((i : Int) + (j : Int)) / 2).toNat = (i + j) / 2 := by omega
        have pa1 : (0 : Int) ≤ ((i : Int) + (j : Int)) / 2 := by omega
        have ba1 : ((i : Int) + (j : Int)) / 2 < (d.size : Int) := by omega
        have ra1 : IntKind.i64.wrap (((i : Int) + (j : Int)) / 2) = ((i : Int) + (j : Int)) / 2 := by rw [IntKind.wrap_i64]; omega
        have ec1 : ((a : Int)).toNat = a := by omega
        have pc1 : (0 : Int) ≤ (a : Int) := by omega
        have bc1 : (a : Int) < (d.size : Int) := by omega
        have rc1 : IntKind.i64.wrap ((a : Int)) = (a : Int) := by rw [IntKind.wrap_i64]; omega
        obtain ⟨x1, hx1⟩ : ∃ x, x = d[(i + j) / 2]! := ⟨_, rfl⟩
        obtain ⟨y1, hy1⟩ : ∃ x, x = d[a]! := ⟨_, rfl⟩
        have l1a := S1.out.ld R (by omega) P ((i + j) / 2) (by omega)
        have l1b := S1.out.ld R (by omega) P (a) (by omega)
        rw [← hx1] at l1a
        rw [← hy1] at l1b
        have hc1 := S1.out.cmp HC.out (by omega) x1 y1
        have hv1 : cf x1 y1 < 0 := by rw [hx1, hy1]; exact (HK.out _ _).2 HKT.out
        have hd1 : decide (cf x1 y1 < 0) = true := decide_eq_true hv1
        clear hx1 hy1
        go_wp2_with fail
        go_quiet_grown (first | (go_at_fn g; refine Calls.grown_of (hc1 _ _)))
        have S2 : Aside (SWK enc k w0 blk off d (grow (wr.drewN nq) osq)) := S1.out.grown nq osq
        clear l1a l1b hc1
        generalize grow (wr.drewN nq) osq = w2 at S2 ⊢
        clear nq osq
        go_wp2
        go_roundg (j - ((i + j) / 2 + 1))
        case measure => omega
        case rel =>
          refine ⟨(i + j) / 2 + 1, j, by first | rfl | (congr 1; omega), rfl, by omega, by omega, hjb, Nat.le_refl _, S2, (show Hid _ from ⟨fun h h1 h2 => ?_, HB.out.2⟩)⟩
          have := A2.out.le (i := h) (j := (i + j) / 2) h1 (by omega) (by omega)
          have := HKT.out
          omega
      · have HKT := Lib.hid hk
        clear hk
        go_wp2_with fail
        have ea2 : (((i : Int) + (j : Int)) / 2).toNat = (i + j) / 2 := by omega
        have pa2 : (0 : Int) ≤ ((i : Int) + (j : Int)) / 2 := by omega
        have ba2 : ((i : Int) + (j : Int)) / 2 < (d.size : Int) := by omega
        have ra2 : IntKind.i64.wrap (((i : Int) + (j : Int)) / 2) = ((i : Int) + (j : Int)) / 2 := by rw [IntKind.wrap_i64]; omega
        have ec2 : ((a : Int)).toNat = a := by omega
        have pc2 : (0 : Int) ≤ (a : Int) := by omega
        have bc2 : (a : Int) < (d.size : Int) := by omega
        have rc2 : IntKind.i64.wrap ((a : Int)) = (a : Int) := by rw [IntKind.wrap_i64]; omega
        obtain ⟨x2, hx2⟩ : ∃ x, x = d[(i + j) / 2]! := ⟨_, rfl⟩
        obtain ⟨y2, hy2⟩ : ∃ x, x = d[a]! := ⟨_, rfl⟩
        have l2a := S1.out.ld R (by omega) P ((i + j) / 2) (by omega)
        have l2b := S1.out.ld R (by omega) P (a) (by omega)
        rw [← hx2] at l2a
        rw [← hy2] at l2b
        have hc2 := S1.out.cmp HC.out (by omega) x2 y2
        have hv2 : ¬ cf x2 y2 < 0 := by rw [hx2, hy2]; exact fun h => absurd ((HK.out _ _).1 h) (by have := HKT.out; omega)
        have hd2 : decide (cf x2 y2 < 0) = false := decide_eq_false hv2
        clear hx2 hy2
        go_wp2_with fail
        go_quiet_grown (first | (go_at_fn g; refine Calls.grown_of (hc2 _ _)))
        have S2 : Aside (SWK enc k w0 blk off d (grow (wr.drewN nq) osq)) := S1.out.grown nq osq
        clear l2a l2b hc2
        generalize grow (wr.drewN nq) osq = w2 at S2 ⊢
        clear nq osq
        go_wp2
        go_roundg ((i + j) / 2 - i)
        case measure => omega
        case rel =>
          refine ⟨i, (i + j) / 2, rfl, by first | rfl | (congr 1; omega), hmi, by omega, by omega, Nat.le_refl _, S2, (show Hid _ from ⟨HB.out.1, fun h h1 h2 => ?_⟩)⟩
          have := A2.out.le (i := (i + j) / 2) (j := h) (by omega) h1 h2
          have := HKT.out
          omega
    · have hltz : ¬ (i : Int) < (j : Int) := by omega
      obtain rfl : i = j := by omega
      go_wp2
      go_loopg [13] (i - a) (fun kx s13 wr => ∃ (q : Nat) (dk : Array α), s13 = .int .i64 q ∧ a ≤ q ∧ q + 1 ≤ i ∧ i - q ≤ kx ∧ dk.size = d.size ∧ Aside (SWK enc k w0 blk off dk wr) ∧ Hid (IsRot a (a + 1) (q + 1) d dk))
      case atStart => exact ⟨a, d, rfl, Nat.le_refl _, by omega, Nat.le_refl _, rfl, S1, IsRot.refl_right _ _ _⟩
      case round =>
        clear S1
        obtain ⟨q, dk, rfl, haq, hqi, hkx, hds, S2, HR⟩ := hrel
        by_cases hlt2 : q + 1 < i
        · have hltz2 : (q : Int) < (i : Int) - 1 := by omega
          go_wp2_with fail
          have ea3 : ((q : Int)).toNat = q := by omega
          have pa3 : (0 : Int) ≤ (q : Int) := by omega
          have ba3 : (q : Int) < (d.size : Int) := by omega
          have ra3 : IntKind.i64.wrap ((q : Int)) = (q : Int) := by rw [IntKind.wrap_i64]; omega
          have ec3 : ((q : Int) + 1).toNat = q + 1 := by omega
          have pc3 : (0 : Int) ≤ (q : Int) + 1 := by omega
          have bc3 : (q : Int) + 1 < (d.size : Int) := by omega
          have rc3 : IntKind.i64.wrap ((q : Int) + 1) = (q : Int) + 1 := by rw [IntKind.wrap_i64]; omega
          have S3 : Aside (SWK enc k w0 blk off (swp dk (q) (q + 1)) ((wr.drew.setCells blk (off + (q) * k) (enc dk[q + 1]!)).setCells blk (off + (q + 1) * k) (enc dk[q]!))) := S2.out.swapped R (q) (q + 1) (by omega) (by omega)
          have l3a := S2.out.ld1 R (by omega) P (q) (by omega)
          have l3b := S2.out.ld1 R (by omega) P (q + 1) (by omega)
          have s3a := S2.out.st1 R (by omega) P (q) (by omega) dk[q + 1]!
          have s3b := S2.out.st2 R (by omega) P (q) (q + 1) (by omega) (by omega) dk[q + 1]! dk[q]!
          have n3a : (enc dk[q]!).length = k := R.hk _
          have n3b : (enc dk[q + 1]!).length = k := R.hk _
          generalize enc dk[q]! = cI3 at S3 l3a s3b n3a
          generalize enc dk[q + 1]! = cJ3 at S3 l3b s3a s3b n3b
          clear S2
          go_wp2_with fail
          go_big_region_o
          clear l3a l3b s3a s3b
          generalize (wr.drew.setCells blk (off + (q) * k) cJ3).setCells blk (off + (q + 1) * k) cI3 = w2 at S3 ⊢
          go_wp2
          go_roundg (i - (q + 1))
          case measure => omega
          case rel => exact ⟨q + 1, swp dk q (q + 1), by go_num, by omega, by omega, Nat.le_refl _, by rw [size_swp]; exact hds, S3, (show Hid _ from HR.out.push haq (by omega))⟩
        · have hltz2 : ¬ (q : Int) < (i : Int) - 1 := by omega
          go_wp2
          (try simp only [Exit.inBlock, Exit.then]); refine bodyPost_ret (results_none rfl _ _ _) rfl ?_
          obtain rfl : i = q + 1 := by omega
          have e := C1.out
          subst e
          have := insert_left (key := key) (b := b) HR.out (by omega) (by omega) A2.out HB.out.1 HB.out.2
          exact ⟨rfl, dk, S2.out, this.1, this.2⟩

set_option maxHeartbeats 16000000 in
set_option maxRecDepth 1000000 in
theorem symMerge_right (L : Inner P) (k : Nat) (aE : ∀ w, (isAgg 78).run P w = .ok true w) (zE : ∀ w, (Go.sizeOf 78).run P w = .ok k w) (enc : α → List Value) (cf : α → α → Int) (g : Nat) (cb : Array Value) (key : α → Int) (hkey : ∀ x y, cf x y < 0 ↔ key x < key y) (blk off cap : Nat) (d0 : Array α) (w0 : World)
    (eg : ∀ args w, (callFunc g args).run P w = .ok (.enter g args) w) (hcmp : CmpLays P g cb enc k cf blk off d0.size w0) (R : RowK enc k w0 blk off d0) (hsz : d0.size < 4611686018427387904)
    (a m b : Nat) (d : Array α) (w : World) (hs : d0.size = d.size) (S : SWK enc k w0 blk off d w) (ham : a < m) (hmb : m < b) (hb : b ≤ d.size) (hA1 : Asc key a m d) (hA2 : Asc key m b d) (c1 : ¬ m = a + 1) (c2 : b = m + 1) :
    Calls P 126 #[.slice (some ⟨blk, off, none⟩) d.size cap, .int .i64 a, .int .i64 m, .int .i64 b, .func (.func g) #[] cb] w (MergedTo enc k w0 blk off key a b d) := by
  have mixed := L.mixed; have t0 := L.t0; have a0 := L.a0; have z0 := L.z0; have v0 := L.v0; have t3 := L.t3; have a3 := L.a3; have z3 := L.z3; have v3 := L.v3; have t4 := L.t4; have a4 := L.a4; have z4 := L.z4; have v4 := L.v4; have t36 := L.t36; have a36 := L.a36; have z36 := L.z36; have v36 := L.v36; have t22 := L.t63; have a22 := L.a63; have z22 := L.z63; have v22 := L.v63; have t25 := L.t80; have a25 := L.a80; have z25 := L.z80; have v25 := L.v80
  have e125 : ∀ args w, (callFunc 125 args).run P w = .ok (.enter 125 args) w := enters_of L.f125 (by kernel_rfl) rfl
  have e126 : ∀ args w, (callFunc 126 args).run P w = .ok (.enter 126 args) w := enters_of L.f126 (by kernel_rfl) rfl
  have FG := L.f126
  have HC : Aside _ := hcmp
  have HK : Hid (∀ x y, cf x y < 0 ↔ key x < key y) := hkey
  clear hcmp hkey
  have A1 := Lib.hid hA1
  have A2 := Lib.hid hA2
  have S0 : Aside (SWK enc k w0 blk off d w) := S
  clear hA1 hA2 S
  have t1 : ((m : Int) - (a : Int) == 1) = false := by simp; omega
  have t2 : ((b : Int) - (m : Int) == 1) = true := by simp; omega
  have C2 := Lib.hid c2
  clear c1 c2
  go_enter FG, Try.ntmps126
  go_wp2
  go_loopg [14, 15] (m - a) (fun kx s14 s15 wr => ∃ (i j : Nat), s14 = .int .i64 i ∧ s15 = .int .i64 j ∧ a ≤ i ∧ i ≤ j ∧ j ≤ m ∧ j - i ≤ kx ∧ Aside (SWK enc k w0 blk off d wr) ∧
    Hid ((∀ h, a ≤ h → h < i → key d[h]! ≤ key d[m]!) ∧ (∀ h, j ≤ h → h < m → key d[m]! < key d[h]!)))
  case atStart => exact ⟨a, m, rfl, rfl, Nat.le_refl _, by omega, Nat.le_refl _, by omega, S0, ⟨fun h h1 h2 => by omega, fun h h1 h2 => by omega⟩⟩
  case round =>
    clear S0
    obtain ⟨i, j, rfl, rfl, hmi, hij, hjb, hkx, S1, HB⟩ := hrel
    by_cases hlt : i < j
    · have hltz : (i : Int) < (j : Int) := by omega
      by_cases hk : key d[m]! < key d[(i + j) / 2]!
      · have HKT := Lib.hid hk
        clear hk
        go_wp2_with fail
        have ea4 : ((m : Int)).toNat = m := by omega
        have pa4 : (0 : Int) ≤ (m : Int) := by omega
        have ba4 : (m : Int) < (d.size : Int) := by omega
        have ra4 : IntKind.i64.wrap ((m : Int)) = (m : Int) := by rw [IntKind.wrap_i64]; omega
        have ec4 : (((i : Int) + (j : Int)) / 2).toNat = (i + j) / 2 := by omega
        have pc4 : (0 : Int) ≤ ((i : Int) + (j : Int)) / 2 := by omega
        have bc4 : ((i : Int) + (j : Int)) / 2 < (d.size : Int) := by omega
        have rc4 : IntKind.i64.wrap (((i : Int) + (j : Int)) / 2) = ((i : Int) + (j : Int)) / 2 := by rw [IntKind.wrap_i64]; omega
        obtain ⟨x4, hx4⟩ : ∃ x, x = d[m]! := ⟨_, rfl⟩
        obtain ⟨y4, hy4⟩ : ∃ x, x = d[(i + j) / 2]! := ⟨_, rfl⟩
        have l4a := S1.out.ld R (by omega) P (m) (by omega)
        have l4b := S1.out.ld R (by omega) P ((i + j) / 2) (by omega)
        rw [← hx4] at l4a
        rw [← hy4] at l4b
        have hc4 := S1.out.cmp HC.out (by omega) x4 y4
        have hv4 : cf x4 y4 < 0 := by rw [hx4, hy4]; exact (HK.out _ _).2 HKT.out
        have hd4 : decide (cf x4 y4 < 0) = true := decide_eq_true hv4
        clear hx4 hy4
        go_wp2_with fail
        go_quiet_grown (first | (go_at_fn g; refine Calls.grown_of (hc4 _ _)))
        have S2 : Aside (SWK enc k w0 blk off d (grow (wr.drewN nq) osq)) := S1.out.grown nq osq
        clear l4a l4b hc4
        generalize grow (wr.drewN nq) osq = w2 at S2 ⊢
        clear nq osq
        go_wp2
        go_roundg ((i + j) / 2 - i)
        case measure => omega
        case rel =>
          refine ⟨i, (i + j) / 2, rfl, by first | rfl | (congr 1; omega), hmi, by omega, by omega, Nat.le_refl _, S2, (show Hid _ from ⟨HB.out.1, fun h h1 h2 => ?_⟩)⟩
          have := A1.out.le (i := (i + j) / 2) (j := h) (by omega) h1 h2
          have := HKT.out
          omega
      · have HKT := Lib.hid hk
        clear hk
        go_wp2_with fail
        have ea5 : ((m : Int)).toNat = m := by omega
        have pa5 : (0 : Int) ≤ (m : Int) := by omega
        have ba5 : (m : Int) < (d.size : Int) := by omega
        have ra5 : IntKind.i64.wrap ((m : Int)) = (m : Int) := by rw [IntKind.wrap_i64]; omega
        have ec5 : (((i : Int) + (j : Int)) / 2).toNat = (i + j) / 2 := by omega
        have pc5 : (0 : Int) ≤ ((i : Int) + (j : Int)) / 2 := by omega
        have bc5 : ((i : Int) + (j : Int)) / 2 < (d.size : Int) := by omega
        have rc5 : IntKind.i64.wrap (((i : Int) + (j : Int)) / 2) = ((i : Int) + (j : Int)) / 2 := by rw [IntKind.wrap_i64]; omega
        obtain ⟨x5, hx5⟩ : ∃ x, x = d[m]! := ⟨_, rfl⟩
        obtain ⟨y5, hy5⟩ : ∃ x, x = d[(i + j) / 2]! := ⟨_, rfl⟩
        have l5a := S1.out.ld R (by omega) P (m) (by omega)
        have l5b := S1.out.ld R (by omega) P ((i + j) / 2) (by omega)
        rw [← hx5] at l5a
        rw [← hy5] at l5b
        have hc5 := S1.out.cmp HC.out (by omega) x5 y5
        have hv5 : ¬ cf x5 y5 < 0 := by rw [hx5, hy5]; exact fun h => absurd ((HK.out _ _).1 h) (by have := HKT.out; omega)
        have hd5 : decide (cf x5 y5 < 0) = false := decide_eq_false hv5
        clear hx5 hy5
        go_wp2_with fail
        go_quiet_grown (first | (go_at_fn g; refine Calls.grown_of (hc5 _ _)))
        have S2 : Aside (SWK enc k w0 blk off d (grow (wr.drewN nq) osq)) := S1.out.grown nq osq
        clear l5a l5b hc5
        generalize grow (wr.drewN nq) osq = w2 at S2 ⊢
        clear nq osq
        go_wp2
        go_roundg (j - ((i + j) / 2 + 1))
        case measure => omega
        case rel =>
          refine ⟨(i + j) / 2 + 1, j, by first | rfl | (congr 1; omega), rfl, by omega, by omega, hjb, Nat.le_refl _, S2, (show Hid _ from ⟨fun h h1 h2 => ?_, HB.out.2⟩)⟩
          have := A1.out.le (i := h) (j := (i + j) / 2) h1 (by omega) (by omega)
          have := HKT.out
          omega
    · have hltz : ¬ (i : Int) < (j : Int) := by omega
      obtain rfl : i = j := by omega
      go_wp2
      go_loopg [17] (m - i) (fun kx s17 wr => ∃ (q : Nat) (dk : Array α), s17 = .int .i64 q ∧ i ≤ q ∧ q ≤ m ∧ q - i ≤ kx ∧ dk.size = d.size ∧ Aside (SWK enc k w0 blk off dk wr) ∧ Hid (IsRot q m (m + 1) d dk))
      case atStart => exact ⟨m, d, rfl, hjb, Nat.le_refl _, Nat.le_refl _, rfl, S1, IsRot.refl_left _ _ _⟩
      case round =>
        clear S1
        obtain ⟨q, dk, rfl, hiq, hqm, hkx, hds, S2, HR⟩ := hrel
        by_cases hlt2 : i < q
        · obtain ⟨q, rfl⟩ : ∃ t, q = t + 1 := ⟨q - 1, by omega⟩
          have hltz2 : (i : Int) < (q : Int) + 1 := by omega
          go_wp2_with fail
          have ea6 : ((q : Int) + 1).toNat = q + 1 := by omega
          have pa6 : (0 : Int) ≤ (q : Int) + 1 := by omega
          have ba6 : (q : Int) + 1 < (d.size : Int) := by omega
          have ra6 : IntKind.i64.wrap ((q : Int) + 1) = (q : Int) + 1 := by rw [IntKind.wrap_i64]; omega
          have ec6 : ((q : Int)).toNat = q := by omega
          have pc6 : (0 : Int) ≤ (q : Int) := by omega
          have bc6 : (q : Int) < (d.size : Int) := by omega
          have rc6 : IntKind.i64.wrap ((q : Int)) = (q : Int) := by rw [IntKind.wrap_i64]; omega
          have S3 : Aside (SWK enc k w0 blk off (swp dk (q + 1) (q)) ((wr.drew.setCells blk (off + (q + 1) * k) (enc dk[q]!)).setCells blk (off + (q) * k) (enc dk[q + 1]!))) := S2.out.swapped R (q + 1) (q) (by omega) (by omega)
          have l6a := S2.out.ld1 R (by omega) P (q + 1) (by omega)
          have l6b := S2.out.ld1 R (by omega) P (q) (by omega)
          have s6a := S2.out.st1 R (by omega) P (q + 1) (by omega) dk[q]!
          have s6b := S2.out.st2 R (by omega) P (q + 1) (q) (by omega) (by omega) dk[q]! dk[q + 1]!
          have n6a : (enc dk[q + 1]!).length = k := R.hk _
          have n6b : (enc dk[q]!).length = k := R.hk _
          generalize enc dk[q + 1]! = cI6 at S3 l6a s6b n6a
          generalize enc dk[q]! = cJ6 at S3 l6b s6a s6b n6b
          clear S2
          go_wp2_with fail
          go_big_region_o
          clear l6a l6b s6a s6b
          generalize (wr.drew.setCells blk (off + (q + 1) * k) cJ6).setCells blk (off + (q) * k) cI6 = w2 at S3 ⊢
          go_wp2
          go_roundg (q - i)
          case measure => omega
          case rel => exact ⟨q, swp dk (q + 1) q, by first | rfl | (congr 1; omega), by omega, by omega, Nat.le_refl _, by rw [size_swp]; exact hds, S3, (show Hid _ from HR.out.pull (by omega) (by omega))⟩
        · have hltz2 : ¬ (i : Int) < (q : Int) := by omega
          go_wp2
          (try simp only [Exit.inBlock, Exit.then]); refine bodyPost_ret (results_none rfl _ _ _) rfl ?_
          obtain rfl : i = q := by omega
          have e := C2.out
          subst e
          have := insert_right (key := key) (a := a) HR.out hmi hqm A1.out HB.out.1 HB.out.2
          exact ⟨rfl, dk, S2.out, this.1, this.2⟩

set_option maxHeartbeats 16000000 in
set_option maxRecDepth 1000000 in
theorem symMerge_step (L : Inner P) (k : Nat) (aE : ∀ w, (isAgg 78).run P w = .ok true w) (zE : ∀ w, (Go.sizeOf 78).run P w = .ok k w) (enc : α → List Value) (cf : α → α → Int) (g : Nat) (cb : Array Value) (key : α → Int) (hkey : ∀ x y, cf x y < 0 ↔ key x < key y) (blk off cap : Nat) (d0 : Array α) (w0 : World)
    (eg : ∀ args w, (callFunc g args).run P w = .ok (.enter g args) w) (hcmp : CmpLays P g cb enc k cf blk off d0.size w0) (R : RowK enc k w0 blk off d0) (hsz : d0.size < 4611686018427387904)
    (a m b : Nat) (d : Array α) (w : World) (hs : d0.size = d.size) (S : SWK enc k w0 blk off d w) (ham : a < m) (hmb : m < b) (hb : b ≤ d.size) (hA1 : Asc key a m d) (hA2 : Asc key m b d) (ih : ∀ (a' m' b' : Nat) (d : Array α) (w : World), b' - a' < b - a → d0.size = d.size → SWK enc k w0 blk off d w → a' < m' → m' < b' → b' ≤ d.size → Asc key a' m' d → Asc key m' b' d →
    Calls P 126 #[.slice (some ⟨blk, off, none⟩) d.size cap, .int .i64 a', .int .i64 m', .int .i64 b', .func (.func g) #[] cb] w (MergedTo enc k w0 blk off key a' b' d)) (c1 : ¬ m = a + 1) (c2 : ¬ b = m + 1) :
    Calls P 126 #[.slice (some ⟨blk, off, none⟩) d.size cap, .int .i64 a, .int .i64 m, .int .i64 b, .func (.func g) #[] cb] w (MergedTo enc k w0 blk off key a b d) := by
  have mixed := L.mixed; have t0 := L.t0; have a0 := L.a0; have z0 := L.z0; have v0 := L.v0; have t3 := L.t3; have a3 := L.a3; have z3 := L.z3; have v3 := L.v3; have t4 := L.t4; have a4 := L.a4; have z4 := L.z4; have v4 := L.v4; have t36 := L.t36; have a36 := L.a36; have z36 := L.z36; have v36 := L.v36; have t22 := L.t63; have a22 := L.a63; have z22 := L.z63; have v22 := L.v63; have t25 := L.t80; have a25 := L.a80; have z25 := L.z80; have v25 := L.v80
  have e125 : ∀ args w, (callFunc 125 args).run P w = .ok (.enter 125 args) w := enters_of L.f125 (by kernel_rfl) rfl
  have e126 : ∀ args w, (callFunc 126 args).run P w = .ok (.enter 126 args) w := enters_of L.f126 (by kernel_rfl) rfl
  have FG := L.f126
  have HC : Aside _ := hcmp
  have HK : Hid (∀ x y, cf x y < 0 ↔ key x < key y) := hkey
  clear hcmp hkey
  have IH := Lib.hid ih
  clear ih
  have A1 := Lib.hid hA1
  have A2 := Lib.hid hA2
  have S0 : Aside (SWK enc k w0 blk off d w) := S
  clear hA1 hA2 S
  have t1 : ((m : Int) - (a : Int) == 1) = false := by simp; omega
  have t2 : ((b : Int) - (m : Int) == 1) = false := by simp; omega
  obtain ⟨mid, hmid⟩ : ∃ mid, mid = (a + b) / 2 := ⟨_, rfl⟩
  have hmz : ((a : Int) + (b : Int)) / 2 = (mid : Int) := by omega
  have hm1 : a < mid := by omega
  have hm2 : mid < b := by omega
  have hm3 : 2 * mid ≤ a + b := by omega
  have hm4 : a + b ≤ 2 * mid + 1 := by omega
  have HM := Lib.hid hmid
  clear hmid c1 c2
  go_enter FG, Try.ntmps126
  go_upto_if 140 with fail
  go_cut [20, 21] from 25 (fun s20 s21 wc => ∃ s0 r0 : Nat, s20 = .int .i64 s0 ∧ s21 = .int .i64 r0 ∧ a ≤ s0 ∧ mid + m - b ≤ s0 ∧ (s0 = a ∨ s0 = mid + m - b) ∧ r0 ≤ m ∧ r0 ≤ mid ∧ (r0 = m ∨ r0 = mid) ∧ s0 ≤ r0 ∧ wc = w)
  case first => as_aux_lemma =>
    by_cases hg : mid < m
    · have hgz : (mid : Int) < (m : Int) := by omega
      go_wp2_with fail
      go_meet
      case rel => exact ⟨mid + m - b, mid, by congr 1; omega, rfl, by omega, Nat.le_refl _, .inr rfl, by omega, Nat.le_refl _, .inr rfl, by omega, rfl⟩
    · have hgz : ¬ (mid : Int) < (m : Int) := by omega
      go_wp2_with fail
      go_meet
      case rel => exact ⟨a, m, rfl, rfl, Nat.le_refl _, by omega, .inl rfl, Nat.le_refl _, by omega, .inl rfl, by omega, rfl⟩
  case rest => as_aux_lemma =>
    obtain ⟨s0, r0, rfl, rfl, u1, u2, u3, u4, u5, u6, u7, rfl⟩ := hcut
    go_wp2
    go_loopg [20, 21] (r0 - s0) (fun kx s20 s21 wr => ∃ (s r : Nat), s20 = .int .i64 s ∧ s21 = .int .i64 r ∧ s0 ≤ s ∧ s ≤ r ∧ r ≤ r0 ∧ r - s ≤ kx ∧ Aside (SWK enc k w0 blk off d wr) ∧
      Hid ((s0 < s → key d[s - 1]! ≤ key d[mid + m - s]!) ∧ (r < r0 → key d[mid + m - 1 - r]! < key d[r]!)))
    case atStart => exact ⟨s0, r0, rfl, rfl, Nat.le_refl _, u7, Nat.le_refl _, Nat.le_refl _, S0, ⟨fun h => by omega, fun h => by omega⟩⟩
    case round => as_aux_lemma =>
      clear S0
      obtain ⟨s, r, rfl, rfl, v1, v2, v3, hkx, S1, HB⟩ := hrel
      by_cases hlt : s < r
      · have hltz : (s : Int) < (r : Int) := by omega
        obtain ⟨q, hq⟩ : ∃ q, q = mid + m - 1 - (s + r) / 2 := ⟨_, rfl⟩
        have hqz : (mid : Int) + (m : Int) - 1 - ((s : Int) + (r : Int)) / 2 = (q : Int) := by omega
        have hq1 : q < d.size := by omega
        have HQ := Lib.hid hq
        clear hq
        by_cases hk : key d[q]! < key d[(s + r) / 2]!
        · have HKT := Lib.hid hk
          clear hk
          go_wp2_with fail
          have ea7 : ((q : Int)).toNat = q := by omega
          have pa7 : (0 : Int) ≤ (q : Int) := by omega
          have ba7 : (q : Int) < (d.size : Int) := by omega
          have ra7 : IntKind.i64.wrap ((q : Int)) = (q : Int) := by rw [IntKind.wrap_i64]; omega
          have ec7 : (((s : Int) + (r : Int)) / 2).toNat = (s + r) / 2 := by omega
          have pc7 : (0 : Int) ≤ ((s : Int) + (r : Int)) / 2 := by omega
          have bc7 : ((s : Int) + (r : Int)) / 2 < (d.size : Int) := by omega
          have rc7 : IntKind.i64.wrap (((s : Int) + (r : Int)) / 2) = ((s : Int) + (r : Int)) / 2 := by rw [IntKind.wrap_i64]; omega
          obtain ⟨x7, hx7⟩ : ∃ x, x = d[q]! := ⟨_, rfl⟩
          obtain ⟨y7, hy7⟩ : ∃ x, x = d[(s + r) / 2]! := ⟨_, rfl⟩
          have l7a := S1.out.ld R (by omega) P (q) (by omega)
          have l7b := S1.out.ld R (by omega) P ((s + r) / 2) (by omega)
          rw [← hx7] at l7a
          rw [← hy7] at l7b
          have hc7 := S1.out.cmp HC.out (by omega) x7 y7
          have hv7 : cf x7 y7 < 0 := by rw [hx7, hy7]; exact (HK.out _ _).2 HKT.out
          have hd7 : decide (cf x7 y7 < 0) = true := decide_eq_true hv7
          clear hx7 hy7
          go_wp2_with fail
          go_quiet_grown (first | (go_at_fn g; refine Calls.grown_of (hc7 _ _)))
          have S2 : Aside (SWK enc k w0 blk off d (grow (wr.drewN nq) osq)) := S1.out.grown nq osq
          clear l7a l7b hc7
          generalize grow (wr.drewN nq) osq = w2 at S2 ⊢
          clear nq osq
          go_wp2
          go_roundg ((s + r) / 2 - s)
          case measure => omega
          case rel => exact ⟨s, (s + r) / 2, rfl, by first | rfl | (congr 1; omega), v1, by omega, by omega, Nat.le_refl _, S2, (show Hid _ from ⟨HB.out.1, fun _ => by rw [← HQ.out]; exact HKT.out⟩)⟩
        · have HKT := Lib.hid hk
          clear hk
          go_wp2_with fail
          have ea8 : ((q : Int)).toNat = q := by omega
          have pa8 : (0 : Int) ≤ (q : Int) := by omega
          have ba8 : (q : Int) < (d.size : Int) := by omega
          have ra8 : IntKind.i64.wrap ((q : Int)) = (q : Int) := by rw [IntKind.wrap_i64]; omega
          have ec8 : (((s : Int) + (r : Int)) / 2).toNat = (s + r) / 2 := by omega
          have pc8 : (0 : Int) ≤ ((s : Int) + (r : Int)) / 2 := by omega
          have bc8 : ((s : Int) + (r : Int)) / 2 < (d.size : Int) := by omega
          have rc8 : IntKind.i64.wrap (((s : Int) + (r : Int)) / 2) = ((s : Int) + (r : Int)) / 2 := by rw [IntKind.wrap_i64]; omega
          obtain ⟨x8, hx8⟩ : ∃ x, x = d[q]! := ⟨_, rfl⟩
          obtain ⟨y8, hy8⟩ : ∃ x, x = d[(s + r) / 2]! := ⟨_, rfl⟩
          have l8a := S1.out.ld R (by omega) P (q) (by omega)
          have l8b := S1.out.ld R (by omega) P ((s + r) / 2) (by omega)
          rw [← hx8] at l8a
          rw [← hy8] at l8b
          have hc8 := S1.out.cmp HC.out (by omega) x8 y8
          have hv8 : ¬ cf x8 y8 < 0 := by rw [hx8, hy8]; exact fun h => absurd ((HK.out _ _).1 h) (by have := HKT.out; omega)
          have hd8 : decide (cf x8 y8 < 0) = false := decide_eq_false hv8
          clear hx8 hy8
          go_wp2_with fail
          go_quiet_grown (first | (go_at_fn g; refine Calls.grown_of (hc8 _ _)))
          have S2 : Aside (SWK enc k w0 blk off d (grow (wr.drewN nq) osq)) := S1.out.grown nq osq
          clear l8a l8b hc8
          generalize grow (wr.drewN nq) osq = w2 at S2 ⊢
          clear nq osq
          go_wp2
          go_roundg (r - ((s + r) / 2 + 1))
          case measure => omega
          case rel =>
            refine ⟨(s + r) / 2 + 1, r, by first | rfl | (congr 1; omega), rfl, by omega, by omega, v3, Nat.le_refl _, S2, (show Hid _ from ⟨fun _ => ?_, HB.out.2⟩)⟩
            have := HKT.out
            rw [show (s + r) / 2 + 1 - 1 = (s + r) / 2 from by omega, show mid + m - ((s + r) / 2 + 1) = mid + m - 1 - (s + r) / 2 from by omega, ← HQ.out]
            omega
      · have hltz : ¬ (s : Int) < (r : Int) := by omega
        obtain rfl : s = r := by omega
        have hcutS : SymCut key a m b s d := by
          have e := HM.out
          subst e
          refine ⟨by omega, by omega, by omega, by omega, by omega, fun q1 q2 => ?_, fun q1 q2 => ?_⟩
          · rw [show m + (a + b) / 2 - s = (a + b) / 2 + m - s from by omega]
            exact HB.out.1 (by omega)
          · rw [show m + (a + b) / 2 - s - 1 = (a + b) / 2 + m - 1 - s from by omega]
            exact HB.out.2 (by omega)
        have CUT := Lib.hid hcutS
        clear hcutS HB
        obtain ⟨en, hen⟩ : ∃ en, en = mid + m - s := ⟨_, rfl⟩
        have henz : (mid : Int) + (m : Int) - (s : Int) = (en : Int) := by omega
        have x1 : m ≤ en := by omega
        have x2 : en ≤ b := by omega
        have x3 : mid ≤ en := by omega
        have x4 : s + (en - m) = mid := by omega
        have x5 : a ≤ s := by omega
        have HEN := Lib.hid hen
        have HX4 := Lib.hid x4
        clear hen x4
        obtain ⟨b1, hb1⟩ : ∃ b1 : Bool, b1 = decide (s < m ∧ m < en) := ⟨_, rfl⟩
        have HB1 := Lib.hid hb1
        clear hb1
        go_upto_region 39 with fail
        go_cut [185] from 25 (fun c wx => c = .bool b1 ∧ wx = wr)
        case first => as_aux_lemma =>
          by_cases y1 : s < m
          · have y1z : (s : Int) < (m : Int) := by omega
            by_cases y2 : m < en
            · have y2z : (m : Int) < (en : Int) := by omega
              go_wp2_with fail
              go_meet
              case rel => exact ⟨by rw [HB1.out, decide_eq_true ⟨y1, y2⟩], rfl⟩
            · have y2z : ¬ (m : Int) < (en : Int) := by omega
              go_wp2_with fail
              go_meet
              case rel => exact ⟨by rw [HB1.out, decide_eq_false fun h => y2 h.2], rfl⟩
          · have y1z : ¬ (s : Int) < (m : Int) := by omega
            go_wp2_with fail
            go_meet
            case rel => exact ⟨by rw [HB1.out, decide_eq_false fun h => y1 h.1], rfl⟩
        case rest => as_aux_lemma =>
        obtain ⟨rfl, rfl⟩ := hcut
        go_upto_if 185 with fail
        go_cut [] from 25 (fun wc => ∃ d1, SWK enc k w0 blk off d1 wc ∧ d1.size = d.size ∧ Hid (IsRot s m en d d1))
        case first => as_aux_lemma =>
          cases b1 with
          | true =>
            obtain ⟨y1, y2⟩ := of_decide_eq_true HB1.out.symm
            have hc := rotate_item L k aE zE enc g cb blk off cap s m en d0 d w0 _ R hs S1.out y1 y2 (by omega) (by omega)
            go_wp2_with (go_at_call 125; refine hc.mono ?_; rintro e w1 ⟨rfl, hw1⟩)
            go_meet
            case rel => exact ⟨_, hw1, (rotate_spec y1 y2 (by omega)).size, rotate_spec y1 y2 (by omega)⟩
          | false =>
            have hn := of_decide_eq_false HB1.out.symm
            go_wp2_with fail
            go_meet
            case rel =>
              refine ⟨d, S1.out, rfl, ?_⟩
              by_cases y1 : s < m
              · obtain rfl : m = en := by omega
                exact IsRot.refl_right _ _ _
              · obtain rfl : s = m := by omega
                exact IsRot.refl_left _ _ _
        case rest => as_aux_lemma =>
          obtain ⟨d1, hS2, hz1, HR⟩ := hcut
          have hM : MergeStep key a s m en b d d1 := by
            have e := HM.out
            have e2 := HEN.out
            subst e
            rw [Nat.add_comm] at e2
            subst e2
            exact CUT.out.step A1.out A2.out HR.out
          have M := Lib.hid hM
          have S2 : Aside (SWK enc k w0 blk off d1 wc) := hS2
          clear hM hS2 S1
          obtain ⟨b2, hb2⟩ : ∃ b2 : Bool, b2 = decide (a < s ∧ s < mid) := ⟨_, rfl⟩
          have HB2 := Lib.hid hb2
          clear hb2
          go_upto_region 41 with fail
          go_cut [199] from 25 (fun c wx => c = .bool b2 ∧ wx = wc)
          case first => as_aux_lemma =>
            by_cases y1 : a < s
            · have y1z : (a : Int) < (s : Int) := by omega
              by_cases y2 : s < mid
              · have y2z : (s : Int) < (mid : Int) := by omega
                go_wp2_with fail
                go_meet
                case rel => exact ⟨by rw [HB2.out, decide_eq_true ⟨y1, y2⟩], rfl⟩
              · have y2z : ¬ (s : Int) < (mid : Int) := by omega
                go_wp2_with fail
                go_meet
                case rel => exact ⟨by rw [HB2.out, decide_eq_false fun h => y2 h.2], rfl⟩
            · have y1z : ¬ (a : Int) < (s : Int) := by omega
              go_wp2_with fail
              go_meet
              case rel => exact ⟨by rw [HB2.out, decide_eq_false fun h => y1 h.1], rfl⟩
          case rest => as_aux_lemma =>
          obtain ⟨rfl, rfl⟩ := hcut
          go_upto_if 199 with fail
          go_cut [] from 25 (fun wd => ∃ d2, SWK enc k w0 blk off d2 wd ∧ d2.size = d.size ∧ Hid (Stab key a mid d1 d2 ∧ Asc key a mid d2))
          case first => as_aux_lemma =>
            cases b2 with
            | true =>
              obtain ⟨y1, y2⟩ := of_decide_eq_true HB2.out.symm
              have hc := IH.out a s mid d1 _ (by omega) (by omega) S2.out y1 y2 (by omega) M.out.left0 (by have := M.out.left1; rwa [HX4.out] at this)
              rw [hz1] at hc
              go_wp2_with (go_at_call 126; refine hc.mono ?_; rintro e w1 ⟨rfl, d2, hw1, hst, has⟩)
              go_meet
              case rel => exact ⟨d2, hw1, hst.size.trans hz1, ⟨hst, has⟩⟩
            | false =>
              have hn := of_decide_eq_false HB2.out.symm
              go_wp2_with fail
              go_meet
              case rel =>
                refine ⟨d1, S2.out, hz1, ⟨Stab.refl _ _ _, ?_⟩⟩
                by_cases y1 : a < s
                · obtain rfl : s = mid := by omega
                  exact M.out.left0
                · obtain rfl : a = s := by omega
                  have := M.out.left1
                  rwa [HX4.out] at this
          case rest => as_aux_lemma =>
            obtain ⟨d2, hS3, hz2, HL⟩ := hcut
            have S3 : Aside (SWK enc k w0 blk off d2 _) := hS3
            clear hS3 S2
            have hR0 : Asc key mid en d2 := by
              have := M.out.right0
              rw [HX4.out] at this
              exact this.congr fun i h1 h2 => HL.out.1.out i (.inr h1)
            have hR1 : Asc key en b d2 := M.out.right1.congr fun i h1 h2 => HL.out.1.out i (.inr (by omega))
            have R0 := Lib.hid hR0
            have R1 := Lib.hid hR1
            have fin : ∀ d3, Stab key mid b d2 d3 → Asc key mid b d3 → Stab key a b d d3 ∧ Asc key a b d3 := fun d3 q1 q2 => by
              have h := halves (key := key) (by omega) (by omega) HL.out.1 HL.out.2 q1 q2 (by have := M.out.cross; rwa [HX4.out] at this)
              exact ⟨M.out.stab.trans h.1, h.2⟩
            have FIN := Lib.hid fin
            clear hR0 hR1 fin
            by_cases y1 : mid < en
            · have y1z : (mid : Int) < (en : Int) := by omega
              by_cases y2 : en < b
              · have y2z : (en : Int) < (b : Int) := by omega
                have hc := IH.out mid en b d2 _ (by omega) (by omega) S3.out y1 y2 (by omega) R0.out R1.out
                rw [hz2] at hc
                go_wp2_with (go_at_call 126; refine hc.mono ?_; rintro e w1 ⟨rfl, d3, hw1, hst, has⟩)
                go_end0
                have := FIN.out d3 hst has
                exact ⟨rfl, d3, hw1, this.1, this.2⟩
              · have y2z : ¬ (en : Int) < (b : Int) := by omega
                go_wp2
                go_end0
                obtain rfl : en = b := by omega
                have := FIN.out d2 (Stab.refl _ _ _) R0.out
                exact ⟨rfl, d2, S3.out, this.1, this.2⟩
            · have y1z : ¬ (mid : Int) < (en : Int) := by omega
              go_wp2
              go_end0
              obtain rfl : mid = en := by omega
              have := FIN.out d2 (Stab.refl _ _ _) R1.out
              exact ⟨rfl, d2, S3.out, this.1, this.2⟩

set_option maxHeartbeats 1000000 in
set_option maxRecDepth 1000000 in
theorem symMerge_item (L : Inner P) (k : Nat) (aE : ∀ w, (isAgg 78).run P w = .ok true w) (zE : ∀ w, (Go.sizeOf 78).run P w = .ok k w) (enc : α → List Value) (cf : α → α → Int) (g : Nat) (cb : Array Value) (key : α → Int) (hkey : ∀ x y, cf x y < 0 ↔ key x < key y) (blk off cap : Nat) (d0 : Array α) (w0 : World)
    (eg : ∀ args w, (callFunc g args).run P w = .ok (.enter g args) w) (hcmp : CmpLays P g cb enc k cf blk off d0.size w0) (R : RowK enc k w0 blk off d0) (hsz : d0.size < 4611686018427387904) :
    ∀ (N a m b : Nat) (d : Array α) (w : World), b - a < N → d0.size = d.size → SWK enc k w0 blk off d w → a < m → m < b → b ≤ d.size → Asc key a m d → Asc key m b d →
    Calls P 126 #[.slice (some ⟨blk, off, none⟩) d.size cap, .int .i64 a, .int .i64 m, .int .i64 b, .func (.func g) #[] cb] w (MergedTo enc k w0 blk off key a b d) := by
  intro N
  induction N with
  | zero => intro _ _ _ _ _ h; exact absurd h (Nat.not_lt_zero _)
  | succ N ih =>
    intro a m b d w hN hs S ham hmb hb hA1 hA2
    by_cases c1 : m = a + 1
    · exact symMerge_left L k aE zE enc cf g cb key hkey blk off cap d0 w0 eg hcmp R hsz a m b d w hs S ham hmb hb hA1 hA2 c1
    · by_cases c2 : b = m + 1
      · exact symMerge_right L k aE zE enc cf g cb key hkey blk off cap d0 w0 eg hcmp R hsz a m b d w hs S ham hmb hb hA1 hA2 c1 c2
      · exact symMerge_step L k aE zE enc cf g cb key hkey blk off cap d0 w0 eg hcmp R hsz a m b d w hs S ham hmb hb hA1 hA2 (fun a' m' b' d w h => ih a' m' b' d w (by omega)) c1 c2

end Go.Proofs.Ytcamaikogengoaa
