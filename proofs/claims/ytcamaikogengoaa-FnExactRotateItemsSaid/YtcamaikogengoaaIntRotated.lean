/- The reference spec.Rotated joins four parts of a list: two parts of a range exchanged. -/
import Derived.Test.YtcamaikogengoaaCatI
import Derived.Test.YtcamaikogengoaaPlainRot
import Derived.Deep.RegionHeld3
namespace Go.Proofs.Ytcamaikogengoaa
set_option linter.unusedVariables false
set_option linter.unusedSimpArgs false
set_option linter.unusedSectionVars false
open Go.RowKit Go.Sort

theorem slAt_len {α : Type} {HH : World → Nat → Nat → Array α → Prop} {B : Nat} {w : World} {A : Option Addr} {n c : Nat} {D : Array α} (h : SlAt HH B w (.slice A n c) D) : n = D.size := by
  obtain ⟨_, _, e, _⟩ := h
  injection e

theorem concatI4 {A0 A1 A2 A3 : Option Addr} {n0 n1 n2 n3 c0 c1 c2 c3 : Nat} {D0 D1 D2 D3 : Array Int} (bk : Nat) (w : World) (hbk : bk < w.heap.size)
    (k0 : w.cell? ⟨bk, 0, none⟩ = some (.slice A0 n0 c0)) (k1 : w.cell? ⟨bk, 1, none⟩ = some (.slice A1 n1 c1)) (k2 : w.cell? ⟨bk, 2, none⟩ = some (.slice A2 n2 c2)) (k3 : w.cell? ⟨bk, 3, none⟩ = some (.slice A3 n3 c3))
    (s0 : SlAt HI 0 w (.slice A0 n0 c0) D0) (s1 : SlAt HI 0 w (.slice A1 n1 c1) D1) (s2 : SlAt HI 0 w (.slice A2 n2 c2) D2) (s3 : SlAt HI 0 w (.slice A3 n3 c3) D3) (hn : D0.size + D1.size + D2.size + D3.size ≤ 2147483647) :
    Calls Try.prog 92 #[.slice (some ⟨bk, 0, none⟩) 4 4] w (Copied HI w (D0 ++ D1 ++ D2 ++ D3)) := by
  obtain rfl := slAt_len s0
  obtain rfl := slAt_len s1
  obtain rfl := slAt_len s2
  obtain rfl := slAt_len s3
  have e : catI (fun j => match j with | 0 => D0 | 1 => D1 | 2 => D2 | _ => D3) 4 = D0 ++ D1 ++ D2 ++ D3 := by
    show #[] ++ D0 ++ D1 ++ D2 ++ D3 = _
    simp
  have h := concatI (fun j => match j with | 0 => A0 | 1 => A1 | 2 => A2 | _ => A3) (fun j => match j with | 0 => c0 | 1 => c1 | 2 => c2 | _ => c3) (fun j => match j with | 0 => D0 | 1 => D1 | 2 => D2 | _ => D3) bk w hbk
    (fun j hj => match j, hj with | 0, _ => k0 | 1, _ => k1 | 2, _ => k2 | 3, _ => k3) (fun j hj => match j, hj with | 0, _ => s0 | 1, _ => s1 | 2, _ => s2 | 3, _ => s3) (by rw [e]; simp; omega)
  rwa [e] at h

theorem rotate_parts {α : Type} [Inhabited α] {D : Array α} {a m b : Nat} (h1 : a < m) (h2 : m < b) (hb : b ≤ D.size) : rotate D a m b = D.extract 0 a ++ D.extract m b ++ D.extract a m ++ D.extract b D.size := by
  apply Array.ext'
  rw [rotate_list h1 h2 hb]
  simp only [Array.toList_append, Array.toList_extract, List.extract_eq_take_drop, List.drop_zero, Nat.sub_zero, List.append_assoc]
  rw [List.take_of_length_le (l := D.toList.drop b) (by simp)]

set_option maxHeartbeats 2000000 in
set_option maxRecDepth 100000 in
theorem Rotated_at (v : Value) (D : Array Int) (a m b : Nat) (w : World) (h : SlAt HI 0 w v D) (ham : a < m) (hmb : m < b) (hb : b ≤ D.size) (hn : D.size ≤ 2147483647) :
    Calls Try.prog 64 #[v, .int .i64 a, .int .i64 m, .int .i64 b] w (Copied HI w (rotate D a m b)) := by
  have h' := h
  obtain ⟨A, cap, rfl, hcp, hh⟩ := h
  clear hh
  have K : ∀ W, RowKit.Below w.heap.size w W → Calls Try.prog 92 #[.slice (some ⟨W.heap.size, 0, none⟩) 4 4] (W.alloc (.cells #[.slice A a cap, .slice (cutA A cap m 1) (b - m) (cap - m), .slice (cutA A cap a 1) (m - a) (cap - a), .slice (cutA A cap b 1) (D.size - b) (cap - b)] 27))
      (fun e w' => ∃ v', e = .returned v' ∧ SlAt HI w.heap.size w' v' (rotate D a m b) ∧ RowKit.Below w.heap.size w w') := fun W hW => by
    have hW2 := hW.alloc hW.size (.cells #[.slice A a cap, .slice (cutA A cap m 1) (b - m) (cap - m), .slice (cutA A cap a 1) (m - a) (cap - a), .slice (cutA A cap b 1) (D.size - b) (cap - b)] 27)
    have g := keepI h' hW2
    have g0 := g.part (a := 0) (b := a) (Nat.zero_le _) (by omega)
    rw [cutA_zero, Nat.sub_zero, Nat.sub_zero] at g0
    rw [rotate_parts ham hmb hb]
    refine (concatI4 W.heap.size _ (by simp) (by rw [World.cell?_alloc_at _ _ _ _ (by simp)]; rfl) (by rw [World.cell?_alloc_at _ _ _ _ (by simp)]; rfl) (by rw [World.cell?_alloc_at _ _ _ _ (by simp)]; rfl) (by rw [World.cell?_alloc_at _ _ _ _ (by simp)]; rfl)
      g0 (g.part (a := m) (b := b) (by omega) hb) (g.part (a := a) (b := m) (by omega) (by omega)) (g.part (a := b) (b := D.size) hb (Nat.le_refl _)) (by simp; omega)).mono ?_
    rintro e w' ⟨v', he, hs, hb'⟩
    exact ⟨v', he, hs.mono hW2.size, hW2.trans (hb'.mono hW2.size)⟩
  have K0 : Calls Try.prog 92 #[.slice (some ⟨w.heap.size, 0, none⟩) 4 4] (w.alloc (.cells #[.slice A a cap, .slice (cutA A cap m 1) (b - m) (cap - m), .slice (cutA A cap a 1) (m - a) (cap - a), .slice (cutA A cap b 1) (D.size - b) (cap - b)] 27)).drew
      (fun e w' => ∃ v', e = .returned v' ∧ SlAt HI w.heap.size w' v' (rotate D a m b) ∧ RowKit.Below w.heap.size w w') := K w.drew (below_drewN (RowKit.Below.refl _ _) 1)
  have KH := Lib.hid K0
  clear K0
  have hb0 : RowKit.Below w.heap.size w w.drew := below_drewN (RowKit.Below.refl _ _) 1
  have q1 := fun W => run_cut_h Try.underlying27 Try.sizeOf3 A D.size cap a (by omega) W
  have q2 := fun W => run_cut_lh Try.underlying27 Try.sizeOf3 A D.size cap m b (by omega) (by omega) W
  have q3 := fun W => run_cut_lh Try.underlying27 Try.sizeOf3 A D.size cap a m (by omega) (by omega) W
  have q4 := fun W => run_cut_l Try.underlying27 Try.sizeOf3 A D.size cap b hb W
  clear K h'
  go_enter Try.func64, Try.ntmps64
  go_wp2_with fail
  go_region_held3 (fun _ => True) (trivial) (first
    | (go_at_call 92; (with_reducible refine (KH.out).mono ?_); rintro e w1 ⟨v1, rfl, hs1, hb1⟩))
  go_wp2
  go_ret
  exact ⟨v1, rfl, hs1, hb1⟩
end Go.Proofs.Ytcamaikogengoaa
