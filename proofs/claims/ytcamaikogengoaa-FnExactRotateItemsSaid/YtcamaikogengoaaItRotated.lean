/- Four parts of a list of items joined (slices.Concat): two parts of a range exchanged. -/
import Derived.Test.YtcamaikogengoaaCatT
import Derived.Test.YtcamaikogengoaaIntRotated
import Derived.Test.YtcamaikogengoaaItSome
namespace Go.Proofs.Ytcamaikogengoaa
set_option linter.unusedVariables false
set_option linter.unusedSimpArgs false
set_option linter.unusedSectionVars false
open Go.RowKit Go.Sort

theorem concatT4 {A0 A1 A2 A3 : Option Addr} {n0 n1 n2 n3 c0 c1 c2 c3 : Nat} {D0 D1 D2 D3 : Array It} (bk : Nat) (w : World) (hbk : bk < w.heap.size)
    (k0 : w.cell? ⟨bk, 0, none⟩ = some (.slice A0 n0 c0)) (k1 : w.cell? ⟨bk, 1, none⟩ = some (.slice A1 n1 c1)) (k2 : w.cell? ⟨bk, 2, none⟩ = some (.slice A2 n2 c2)) (k3 : w.cell? ⟨bk, 3, none⟩ = some (.slice A3 n3 c3))
    (s0 : SlAt HT 0 w (.slice A0 n0 c0) D0) (s1 : SlAt HT 0 w (.slice A1 n1 c1) D1) (s2 : SlAt HT 0 w (.slice A2 n2 c2) D2) (s3 : SlAt HT 0 w (.slice A3 n3 c3) D3) (hn : D0.size + D1.size + D2.size + D3.size ≤ 2147483647) :
    Calls Try.prog 70 #[.slice (some ⟨bk, 0, none⟩) 4 4] w (Copied HT w (D0 ++ D1 ++ D2 ++ D3)) := by
  obtain rfl := slAt_len s0
  obtain rfl := slAt_len s1
  obtain rfl := slAt_len s2
  obtain rfl := slAt_len s3
  have e : catT (fun j => match j with | 0 => D0 | 1 => D1 | 2 => D2 | _ => D3) 4 = D0 ++ D1 ++ D2 ++ D3 := by
    show #[] ++ D0 ++ D1 ++ D2 ++ D3 = _
    simp
  have h := concatT (fun j => match j with | 0 => A0 | 1 => A1 | 2 => A2 | _ => A3) (fun j => match j with | 0 => c0 | 1 => c1 | 2 => c2 | _ => c3) (fun j => match j with | 0 => D0 | 1 => D1 | 2 => D2 | _ => D3) bk w hbk
    (fun j hj => match j, hj with | 0, _ => k0 | 1, _ => k1 | 2, _ => k2 | 3, _ => k3) (fun j hj => match j, hj with | 0, _ => s0 | 1, _ => s1 | 2, _ => s2 | 3, _ => s3) (by rw [e]; simp; omega)
  rwa [e] at h

theorem joined_at {w : World} {A : Option Addr} {cap : Nat} {D : Array It} {a m b : Nat} (h' : SlAt HT 0 w (.slice A D.size cap) D) (ham : a < m) (hmb : m < b) (hb : b ≤ D.size) (hn : D.size ≤ 2147483647) (W : World) (hW : RowKit.Below w.heap.size w W) :
    Calls Try.prog 70 #[.slice (some ⟨W.heap.size, 0, none⟩) 4 4] (W.alloc (.cells #[.slice A a cap, .slice (cutA A cap m 2) (b - m) (cap - m), .slice (cutA A cap a 2) (m - a) (cap - a), .slice (cutA A cap b 2) (D.size - b) (cap - b)] 39))
      (fun e w' => ∃ v', e = .returned v' ∧ SlAt HT w.heap.size w' v' (rotate D a m b) ∧ RowKit.Below W.heap.size W w') := by
  have hWa := (RowKit.Below.refl W.heap.size W).alloc (Nat.le_refl _) (.cells #[.slice A a cap, .slice (cutA A cap m 2) (b - m) (cap - m), .slice (cutA A cap a 2) (m - a) (cap - a), .slice (cutA A cap b 2) (D.size - b) (cap - b)] 39)
  have hW2 := hW.alloc hW.size (.cells #[.slice A a cap, .slice (cutA A cap m 2) (b - m) (cap - m), .slice (cutA A cap a 2) (m - a) (cap - a), .slice (cutA A cap b 2) (D.size - b) (cap - b)] 39)
  have g := keepT h' hW2
  have g0 := g.partT (a := 0) (b := a) (Nat.zero_le _) (by omega)
  rw [cutA_zero, Nat.sub_zero, Nat.sub_zero] at g0
  rw [rotate_parts ham hmb hb]
  refine (concatT4 W.heap.size _ (by simp) (by rw [World.cell?_alloc_at _ _ _ _ (by simp)]; rfl) (by rw [World.cell?_alloc_at _ _ _ _ (by simp)]; rfl) (by rw [World.cell?_alloc_at _ _ _ _ (by simp)]; rfl) (by rw [World.cell?_alloc_at _ _ _ _ (by simp)]; rfl)
    g0 (g.partT (a := m) (b := b) (by omega) hb) (g.partT (a := a) (b := m) (by omega) (by omega)) (g.partT (a := b) (b := D.size) hb (Nat.le_refl _)) (by simp; omega)).mono ?_
  rintro e w' ⟨v', he, hs, hb'⟩
  exact ⟨v', he, hs.mono hW2.size, hWa.trans (hb'.mono hWa.size)⟩

/-- The four parts' row as it is laid. -/
def partsRow (A : Option Addr) (cap : Nat) (D : Array It) (a m b : Nat) : Obj := .cells #[.slice A a cap, .slice (cutA A cap m 2) (b - m) (cap - m), .slice (cutA A cap a 2) (m - a) (cap - a), .slice (cutA A cap b 2) (D.size - b) (cap - b)] 39

/-- The same where the row was laid ahead of another call. -/
theorem joined_later {w : World} {A : Option Addr} {cap : Nat} {D : Array It} {a m b : Nat} (h' : SlAt HT 0 w (.slice A D.size cap) D) (ham : a < m) (hmb : m < b) (hb : b ≤ D.size) (hn : D.size ≤ 2147483647) (W : World)
    (hW : RowKit.Below ((w.alloc (partsRow A cap D a m b)).drew).heap.size ((w.alloc (partsRow A cap D a m b)).drew) W) :
    Calls Try.prog 70 #[.slice (some ⟨w.heap.size, 0, none⟩) 4 4] W
      (fun e w' => ∃ v', e = .returned v' ∧ SlAt HT W.heap.size w' v' (rotate D a m b) ∧ RowKit.Below W.heap.size W w') := by
  have hA : RowKit.Below w.heap.size w ((w.alloc (partsRow A cap D a m b)).drew) := below_drewN ((RowKit.Below.refl _ _).alloc (Nat.le_refl _) _) 1
  have hz : ((w.alloc (partsRow A cap D a m b)).drew).heap.size = w.heap.size + 1 := by show (w.alloc _).heap.size = _; simp
  have g := keepT h' (hA.trans (hW.mono hA.size))
  have g0 := g.partT (a := 0) (b := a) (Nat.zero_le _) (by omega)
  rw [cutA_zero, Nat.sub_zero, Nat.sub_zero] at g0
  have hc : ∀ j, W.cell? ⟨w.heap.size, j, none⟩ = (w.alloc (partsRow A cap D a m b)).cell? ⟨w.heap.size, j, none⟩ := fun j => hW.cell (p := ⟨w.heap.size, j, none⟩) (by rw [hz]; exact Nat.lt_succ_self _)
  have hlt : w.heap.size < W.heap.size := by have := hW.size; omega
  rw [rotate_parts ham hmb hb]
  refine (concatT4 w.heap.size W hlt (by rw [hc]; unfold partsRow; rw [World.cell?_alloc_at _ _ _ _ (by simp)]; rfl) (by rw [hc]; unfold partsRow; rw [World.cell?_alloc_at _ _ _ _ (by simp)]; rfl) (by rw [hc]; unfold partsRow; rw [World.cell?_alloc_at _ _ _ _ (by simp)]; rfl) (by rw [hc]; unfold partsRow; rw [World.cell?_alloc_at _ _ _ _ (by simp)]; rfl)
    g0 (g.partT (a := m) (b := b) (by omega) hb) (g.partT (a := a) (b := m) (by omega) (by omega)) (g.partT (a := b) (b := D.size) hb (Nat.le_refl _)) (by simp; omega)).mono ?_
  rintro e w' ⟨v', he, hs, hb'⟩
  exact ⟨v', he, hs, hb'⟩
end Go.Proofs.Ytcamaikogengoaa
