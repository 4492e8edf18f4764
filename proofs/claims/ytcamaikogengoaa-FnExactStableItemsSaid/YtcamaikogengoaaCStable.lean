/- stableCmpFunc over items sorts by keys, those of one key in their order. -/
import Derived.Test.YtcamaikogengoaaCSym
import Derived.Test.YtcamaikogengoaaCInsW
import Derived.Sort.WalkB2
import Derived.Sort.WalkB12
import Derived.Deep.LoopGhost
import Derived.Lib.Hide
import Derived.Deep.Cut
namespace Go.Proofs.Ytcamaikogengoaa
set_option linter.unusedVariables false
set_option linter.unusedSimpArgs false
set_option linter.unusedSectionVars false
open Go.Shelf Go.RowKit Go.Lib Go.Sort
variable {P : Program} {α : Type} [Inhabited α]

/-- A part sorted by insertion ends what was begun. -/
theorem runs_ins {a hi s n : Nat} {key : α → Int} {d dk : Array α} {bs : Nat} (hs : a = s * bs) (h : Runs key bs 0 a dk) (st : Stab key 0 n d dk) (ha : a ≤ hi) (hn : hi ≤ n) (hz : n ≤ dk.size) :
    Runs key bs 0 hi (insertionSort (ltKey key) dk a hi) ∧ Stab key 0 n d (insertionSort (ltKey key) dk a hi) := by
  have S := insertionSort_stab (key := key) (a := a) (b := hi) (d := dk) (by omega)
  have A : Asc key a hi (insertionSort (ltKey key) dk a hi) := asc_sorted.2 (insertionSort_holds (swo_key key) dk a hi ha (by omega)).2
  exact ⟨(h.congr fun i _ h2 => S.out i (.inl h2)).more hs A ha, st.trans (S.mono ha (Nat.zero_le _) hn)⟩

/-- Two runs merged into one. -/
theorem runs_merge {a hi s n : Nat} {key : α → Int} {d dj dm : Array α} {bs : Nat} (hs : a = s * (2 * bs)) (h : Runs key (2 * bs) 0 a dj) (st : Stab key 0 n d dj) (ha : a ≤ hi) (hn : hi ≤ n) (S : Stab key a hi dj dm) (A : Asc key a hi dm) :
    Runs key (2 * bs) 0 hi dm ∧ Stab key 0 n d dm :=
  ⟨(h.congr fun i _ h2 => S.out i (.inl h2)).more hs A ha, st.trans (S.mono ha (Nat.zero_le _) hn)⟩

set_option maxHeartbeats 32000000 in
set_option maxRecDepth 1000000 in
theorem stable_item (L : Inner P) (k : Nat) (aE : ∀ w, (isAgg 78).run P w = .ok true w) (zE : ∀ w, (Go.sizeOf 78).run P w = .ok k w) (enc : α → List Value) (cf : α → α → Int) (g : Nat) (cb : Array Value) (key : α → Int) (hkey : ∀ x y, cf x y < 0 ↔ key x < key y) (blk off cap : Nat) (d0 : Array α) (w0 : World)
    (eg : ∀ args w, (callFunc g args).run P w = .ok (.enter g args) w) (hcmp : CmpLays P g cb enc k cf blk off d0.size w0) (R : RowK enc k w0 blk off d0) (hsz : d0.size < 1152921504606846976)
    (d : Array α) (w : World) (hs : d0.size = d.size) (S : SWK enc k w0 blk off d w) :
    Calls P 127 #[.slice (some ⟨blk, off, none⟩) d.size cap, .int .i64 d.size, .func (.func g) #[] cb] w (MergedTo enc k w0 blk off key 0 d.size d) := by
  have mixed := L.mixed; have t0 := L.t0; have a0 := L.a0; have z0 := L.z0; have v0 := L.v0; have t3 := L.t3; have a3 := L.a3; have z3 := L.z3; have v3 := L.v3; have t4 := L.t4; have a4 := L.a4; have z4 := L.z4; have v4 := L.v4; have t36 := L.t36; have a36 := L.a36; have z36 := L.z36; have v36 := L.v36; have t22 := L.t63; have a22 := L.a63; have z22 := L.z63; have v22 := L.v63; have t25 := L.t80; have a25 := L.a80; have z25 := L.z80; have v25 := L.v80
  have e116 : ∀ args w, (callFunc 116 args).run P w = .ok (.enter 116 args) w := enters_of L.f116 (by kernel_rfl) rfl
  have e126 : ∀ args w, (callFunc 126 args).run P w = .ok (.enter 126 args) w := enters_of L.f126 (by kernel_rfl) rfl
  have hlt : ltOf cf = ltKey key := by
    funext x y
    unfold ltOf ltKey
    exact decide_eq_decide.2 (hkey x y)
  have hO : SWO (ltOf cf) := by rw [hlt]; exact swo_key key
  have INS : Hid (∀ (a b : Nat) (dk : Array α) (wr : World), dk.size = d.size → SWK enc k w0 blk off dk wr → a ≤ b → b ≤ d.size →
      Calls P 116 #[.slice (some ⟨blk, off, none⟩) d.size cap, .int .i64 a, .int .i64 b, .func (.func g) #[] cb] wr fun e w' => e = .returned (.tuple #[]) ∧ SWK enc k w0 blk off (insertionSort (ltKey key) dk a b) w') := fun a b dk wr hz hS hab hb => by
    have h := insertion_item_w L k aE zE enc cf g cb blk off cap a b d0 dk w0 wr eg hcmp R (by omega) hS hO hab (by omega) (by omega)
    rwa [hz, hlt] at h
  have SYM : Hid (∀ (a m b : Nat) (dk : Array α) (wr : World), dk.size = d.size → SWK enc k w0 blk off dk wr → a < m → m < b → b ≤ d.size → Asc key a m dk → Asc key m b dk →
      Calls P 126 #[.slice (some ⟨blk, off, none⟩) d.size cap, .int .i64 a, .int .i64 m, .int .i64 b, .func (.func g) #[] cb] wr (MergedTo enc k w0 blk off key a b dk)) := fun a m b dk wr hz hS ham hmb hb h1 h2 => by
    have h := symMerge_item L k aE zE enc cf g cb key hkey blk off cap d0 w0 eg hcmp R (by omega) (b - a + 1) a m b dk wr (by omega) (by omega) hS ham hmb (by omega) h1 h2
    rwa [hz] at h
  have FG := L.f127
  have S0 : Aside (SWK enc k w0 blk off d w) := S
  clear S hcmp hkey hlt hO
  go_enter FG, Try.ntmps127
  go_wp2
  go_loopg [7, 8] (d.size + 1) (fun kx s7 s8 wr => ∃ (a s : Nat) (dk : Array α), s7 = .int .i64 a ∧ s8 = .int .i64 ((a : Int) + 20) ∧ a ≤ d.size ∧ d.size - a < kx ∧ dk.size = d.size ∧ Aside (SWK enc k w0 blk off dk wr) ∧
    Hid (a = s * 20 ∧ Runs key 20 0 a dk ∧ Stab key 0 d.size d dk))
  case atStart => exact ⟨0, 0, d, rfl, by simp, Nat.zero_le _, by omega, rfl, S0, ⟨by omega, Runs.none_ _ _ _, Stab.refl _ _ _⟩⟩
  case round =>
    clear S0
    obtain ⟨a, s, dk, rfl, rfl, ha, hkx, hds, S1, HR⟩ := hrel
    by_cases hle : a + 20 ≤ d.size
    · have hlez : (a : Int) + 20 ≤ (d.size : Int) := by omega
      have hc := INS.out a (a + 20) dk wr hds S1.out (by omega) hle
      rw [show ((a + 20 : Nat) : Int) = (a : Int) + 20 from by omega] at hc
      go_wp2_with (go_at_call 116; refine hc.mono ?_; rintro e w1 ⟨rfl, hw1⟩)
      go_roundg (d.size - a - 19)
      case measure => omega
      case rel =>
        have r := runs_ins HR.out.1 HR.out.2.1 HR.out.2.2 (hi := a + 20) (by omega) hle (by omega)
        exact ⟨a + 20, s + 1, insertionSort (ltKey key) dk a (a + 20), by first | rfl | go_num, by first | rfl | go_num | (congr 1; omega), hle, by omega, by rw [r.2.size], hw1, (show Hid _ from ⟨by have := HR.out.1; omega, r⟩)⟩
    · have hlez : ¬ ((a : Int) + 20 ≤ (d.size : Int)) := by omega
      have hc := INS.out a d.size dk wr hds S1.out ha (Nat.le_refl _)
      have r0 := runs_ins HR.out.1 HR.out.2.1 HR.out.2.2 (hi := d.size) ha (Nat.le_refl _) (by omega)
      have R0 := Lib.hid r0
      clear r0
      go_wp2_with (go_at_call 116; refine hc.mono ?_; rintro e w1 ⟨rfl, hw1⟩)
      clear hc S1
      have S1 : Aside (SWK enc k w0 blk off (insertionSort (ltKey key) dk a d.size) w1) := hw1
      clear hw1
      go_loopg [6] (d.size + 1) (fun kx s6 wr => ∃ (bs : Nat) (dj : Array α), s6 = .int .i64 bs ∧ 0 < bs ∧ bs ≤ 2 * d.size + 20 ∧ d.size - bs < kx ∧ dj.size = d.size ∧ Aside (SWK enc k w0 blk off dj wr) ∧
        Hid (Runs key bs 0 d.size dj ∧ Stab key 0 d.size d dj))
      case atStart => exact ⟨20, _, rfl, by omega, by omega, by omega, R0.out.2.size, S1, R0.out⟩
      case round =>
        clear S1
        obtain ⟨bs, dj, rfl, hb0, hbn, hkx2, hdj, S2, HJ⟩ := hrel
        by_cases hbl : bs < d.size
        · have hblz : (bs : Int) < (d.size : Int) := by omega
          obtain ⟨wo, rfl⟩ : ∃ wo : World, wo = wr := ⟨_, rfl⟩
          go_wp2_with fail
          go_loopg [7, 8] (d.size + 1) (fun ky s7 s8 wr => ∃ (a s : Nat) (dm : Array α), s7 = .int .i64 a ∧ s8 = .int .i64 ((a : Int) + 2 * (bs : Int)) ∧ a ≤ d.size ∧ d.size - a < ky ∧ dm.size = d.size ∧ Aside (SWK enc k w0 blk off dm wr) ∧
            Hid (a = s * (2 * bs) ∧ Runs key (2 * bs) 0 a dm ∧ Runs key bs a d.size dm ∧ Stab key 0 d.size d dm))
          case atStart => exact ⟨0, 0, dj, rfl, by simp, Nat.zero_le _, by omega, hdj, S2, ⟨by omega, Runs.none_ _ _ _, HJ.out⟩⟩
          case round =>
            clear S2
            obtain ⟨a, s, dm, rfl, rfl, ha, hky, hdm, S3, HM⟩ := hrel
            by_cases hle : a + 2 * bs ≤ d.size
            · have hlez : (a : Int) + 2 * (bs : Int) ≤ (d.size : Int) := by omega
              have hc := SYM.out a (a + bs) (a + 2 * bs) dm _ hdm S3.out (by omega) (by omega) hle (HM.out.2.2.1.first (Nat.le_refl _) (by omega)) (HM.out.2.2.1.second (Nat.le_refl _) hle)
              rw [show ((a + 2 * bs : Nat) : Int) = (a : Int) + 2 * (bs : Int) from by omega, show ((a + bs : Nat) : Int) = (a : Int) + (bs : Int) from by omega] at hc
              go_wp2_with (go_at_call 126; refine hc.mono ?_; rintro e w2 ⟨rfl, d2, hw2, hst, has⟩)
              have ST := Lib.hid hst
              have AS := Lib.hid has
              clear hst has hc
              go_roundg (d.size - a - bs)
              case measure => omega
              case rel =>
                have r := runs_merge HM.out.1 HM.out.2.1 HM.out.2.2.2 (hi := a + 2 * bs) (by omega) hle ST.out AS.out
                refine ⟨a + 2 * bs, s + 1, d2, by first | rfl | go_num | (congr 1; omega), by first | rfl | go_num | (congr 1; omega), hle, by omega, ST.out.size.trans hdm, hw2, (show Hid _ from ⟨?_, r.1, HM.out.2.2.1.behind.congr fun i h1 _ => ST.out.out i (.inr h1), r.2⟩)⟩
                rw [Nat.add_mul, Nat.one_mul, ← HM.out.1]
            · have hlez : ¬ ((a : Int) + 2 * (bs : Int) ≤ (d.size : Int)) := by omega
              by_cases hml : a + bs < d.size
              · have hmlz : (a : Int) + (bs : Int) < (d.size : Int) := by omega
                have hc := SYM.out a (a + bs) d.size dm _ hdm S3.out (by omega) hml (Nat.le_refl _) (HM.out.2.2.1.first (Nat.le_refl _) (by omega)) (HM.out.2.2.1.second (by omega) (Nat.le_refl _))
                rw [show ((a + bs : Nat) : Int) = (a : Int) + (bs : Int) from by omega] at hc
                go_wp2_with (go_at_call 126; refine hc.mono ?_; rintro e w2 ⟨rfl, d2, hw2, hst, has⟩)
                have ST := Lib.hid hst
                have AS := Lib.hid has
                clear hst has hc
                go_roundg (d.size - bs)
                case measure => omega
                case rel =>
                  have r := runs_merge HM.out.1 HM.out.2.1 HM.out.2.2.2 (hi := d.size) ha (Nat.le_refl _) ST.out AS.out
                  exact ⟨2 * bs, d2, by congr 1; omega, by omega, by omega, by omega, ST.out.size.trans hdm, hw2, r⟩
              · have hmlz : ¬ ((a : Int) + (bs : Int) < (d.size : Int)) := by omega
                go_wp2_with fail
                go_roundg (d.size - bs)
                case measure => omega
                case rel =>
                  have r := runs_merge HM.out.1 HM.out.2.1 HM.out.2.2.2 (hi := d.size) ha (Nat.le_refl _) (Stab.refl _ _ _) (HM.out.2.2.1.first (by omega) (Nat.le_refl _))
                  exact ⟨2 * bs, dm, by congr 1; omega, by omega, by omega, by omega, hdm, S3.out, r⟩
        · have hblz : ¬ ((bs : Int) < (d.size : Int)) := by omega
          go_wp2
          go_end0
          exact ⟨rfl, dj, S2.out, HJ.out.2, HJ.out.1.whole (by omega)⟩

end Go.Proofs.Ytcamaikogengoaa
