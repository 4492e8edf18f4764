/- The reference spec.Subtree says whether no node of the tree below a node is less than a node below it. -/
import Derived.Test.YtcamaikogengoaaBase1
import Derived.Test.YtcamaikogengoaaPlainHeap
import Derived.Deep.RegionHeld3
namespace Go.Proofs.Ytcamaikogengoaa
set_option linter.unusedVariables false
set_option linter.unusedSimpArgs false
set_option linter.unusedSectionVars false
open Go.RowKit Go.Sort

/-- A child that is there is not greater than the node, and its own tree is in order. -/
def childB (D : Array Int) (F hi root c : Nat) : Bool := if c < hi then !ltInt D[F + root]! D[F + c]! && subtree ltInt D F hi c else true
theorem subtree_leaf {D : Array Int} {F hi root : Nat} (h : hi ≤ root) : subtree ltInt D F hi root = true := by rw [subtree, dif_pos h]
theorem subtree_node {D : Array Int} {F hi root : Nat} (h : root < hi) : subtree ltInt D F hi root = (childB D F hi root (2 * root + 1) && childB D F hi root (2 * root + 2)) := by
  rw [subtree, dif_neg (by omega)]; rfl
theorem child_out {D : Array Int} {F hi root c : Nat} (h : ¬ c < hi) : childB D F hi root c = true := by unfold childB; rw [if_neg h]
theorem child_less {D : Array Int} {F hi root c : Nat} (h : c < hi) (hl : D[F + root]! < D[F + c]!) : childB D F hi root c = false := by
  unfold childB; rw [if_pos h]; simp [ltInt, hl]
theorem child_sub {D : Array Int} {F hi root c : Nat} (h : c < hi) (hl : ¬ D[F + root]! < D[F + c]!) : childB D F hi root c = subtree ltInt D F hi c := by
  unfold childB; rw [if_pos h]; simp [ltInt, hl]
theorem node_false {D : Array Int} {F hi root t : Nat} (h : root < hi) (ht : t < 2) (hc : childB D F hi root (2 * root + 1 + t) = false) : subtree ltInt D F hi root = false := by
  rw [subtree_node h]
  rcases (show t = 0 ∨ t = 1 by omega) with rfl | rfl
  · rw [show childB D F hi root (2 * root + 1) = false from hc]; rfl
  · rw [show childB D F hi root (2 * root + 2) = false from hc, Bool.and_false]
theorem node_true {D : Array Int} {F hi root : Nat} (h : root < hi) (hc : ∀ t, t < 2 → childB D F hi root (2 * root + 1 + t) = true) : subtree ltInt D F hi root = true := by
  rw [subtree_node h, show childB D F hi root (2 * root + 1) = true from hc 0 (by omega), show childB D F hi root (2 * root + 2) = true from hc 1 (by omega)]; rfl

set_option maxHeartbeats 4000000 in
set_option maxRecDepth 100000 in
theorem Subtree_at (v : Value) (D : Array Int) (hi first : Nat) (hb : first + hi ≤ D.size) (hn : D.size ≤ 2147483647) : ∀ (N root : Nat) (w : World), hi - root ≤ N → root ≤ 2 * hi + 2 → SlAt HI 0 w v D →
    Calls Try.prog 51 #[v, .int .i64 root, .int .i64 hi, .int .i64 first] w fun e w' => e = .returned (.bool (subtree ltInt D first hi root)) ∧ RowKit.Below w.heap.size w w' := by
  intro N
  induction N with
  | zero =>
    intro root w hN hr h
    have hge : (hi : Int) ≤ (root : Int) := by omega
    rw [subtree_leaf (by omega)]
    clear h
    go_enter Try.func51, Try.ntmps51
    go_wp2
    go_ret
    exact ⟨rfl, RowKit.Below.refl _ _⟩
  | succ N ih =>
    intro root w hN hr h
    by_cases hge : hi ≤ root
    · have hgz : (hi : Int) ≤ (root : Int) := by omega
      rw [subtree_leaf hge]
      clear h ih
      go_enter Try.func51, Try.ntmps51
      go_wp2
      go_ret
      exact ⟨rfl, RowKit.Below.refl _ _⟩
    · have hlt : (root : Int) < (hi : Int) := by omega
      have h' := h
      obtain ⟨A, cap, rfl, hcp, hh⟩ := h
      obtain ⟨bk, off, rfl, _, g2, hH⟩ := hh (by omega)
      have hroot : root < hi := by omega
      have IH := Lib.hid ih
      have HS := Lib.hid h'
      have hdec : decide (hi ≤ root) = false := decide_eq_false hge
      clear ih hh h' hge
      go_enter Try.func51, Try.ntmps51
      go_wp2
      go_loopw [22] (fun vt wr => ∃ t : Nat, vt = .int .i64 t ∧ t ≤ 2 ∧ RowKit.Below (w.heap.size + 1) (w.alloc (.cells #[.int .i64 (2 * (root : Int) + 1), .int .i64 (2 * (root : Int) + 2)] 3)) wr ∧
          Hid (∀ s, s < t → childB D first hi root (2 * root + 1 + s) = true)) (fun vt _ => 2 - (intOf vt).toNat)
      case atStart => exact ⟨0, rfl, by omega, RowKit.Below.refl _ _, fun s hs => by omega⟩
      case round =>
        obtain ⟨t, rfl, ht, hbw, HR⟩ := hrel
        have hb0 : RowKit.Below w.heap.size w wr := ((RowKit.Below.refl w.heap.size w).alloc (Nat.le_refl _) _).trans (hbw.mono (by omega))
        have hbkw : bk < wr.heap.size := Nat.lt_of_lt_of_le g2 hb0.size
        by_cases ht2 : t < 2
        · have htz : (t : Int) < 2 := by omega
          have cg : wr.cell? ⟨w.heap.size, t, none⟩ = some (.int .i64 ((2 * root + 1 + t : Nat) : Int)) := by
            rw [hbw.cell (p := ⟨w.heap.size, t, none⟩) (by show w.heap.size < _; omega)]
            rcases (show t = 0 ∨ t = 1 by omega) with rfl | rfl <;> simp <;> omega
          obtain ⟨c, hc⟩ : ∃ c, c = 2 * root + 1 + t := ⟨_, rfl⟩
          rw [← hc] at cg
          have HC : Hid (c = 2 * root + 1 + t) := hc
          have hcr : root < c := by omega
          have hcle : c ≤ 2 * root + 2 := by omega
          clear hc
          by_cases hch : c < hi
          · have hcz : (c : Int) < (hi : Int) := by omega
            obtain ⟨x, hx⟩ : ∃ x, D[first + root]! = x := ⟨_, rfl⟩
            obtain ⟨y, hy⟩ : ∃ y, D[first + c]! = y := ⟨_, rfl⟩
            have k1 : wr.cell? ⟨bk, off + (first + root), none⟩ = some (.int .i64 x) := by rw [hb0.cell (p := ⟨bk, off + (first + root), none⟩) g2, (hH (first + root) (by omega)).1, hx]
            have k2 : wr.cell? ⟨bk, off + (first + c), none⟩ = some (.int .i64 y) := by rw [hb0.cell (p := ⟨bk, off + (first + c), none⟩) g2, (hH (first + c) (by omega)).1, hy]
            have z1 : (first : Int) + (root : Int) < (D.size : Int) := by omega
            have z2 : (first : Int) + (c : Int) < (D.size : Int) := by omega
            have HX : Hid (D[first + root]! = x) := hx
            have HY : Hid (D[first + c]! = y) := hy
            clear hx hy
            by_cases hxy : x < y
            · go_wp2_with fail
              go_quiet (fail)
              go_wp2
              go_ret
              have e := node_false (D := D) (F := first) (t := t) hroot ht2 (by rw [← HC.out]; exact child_less hch (by rw [HX.out, HY.out]; exact hxy))
              exact ⟨congrArg (fun b => Ending.returned (.bool b)) e.symm, below_drewN hb0 _⟩
            · have hxy' : decide (x < y) = false := decide_eq_false hxy
              have hyx : y ≤ x := by omega
              have hsub : childB D first hi root (2 * root + 1 + t) = subtree ltInt D first hi c := by rw [← HC.out]; exact child_sub hch (by rw [HX.out, HY.out]; exact hxy)
              cases hs : subtree ltInt D first hi c with
              | true =>
                have CC : ∀ W, RowKit.Below w.heap.size w W → Calls Try.prog 51 #[.slice (some ⟨bk, off, none⟩) D.size cap, .int .i64 c, .int .i64 hi, .int .i64 first] W fun e w' => e = .returned (.bool true) ∧ RowKit.Below W.heap.size W w' := fun W hW => by
                  have := IH.out c W (by omega) (by omega) (keepI HS.out hW); rw [hs] at this; exact this
                have HCC := Lib.hid CC
                have HSUB : Hid (childB D first hi root (2 * root + 1 + t) = true) := hsub.trans hs
                have hbd : RowKit.Below w.heap.size w wr.drew := below_drewN hb0 1
                clear hs hsub CC
                have ws1 : IntKind.i64.wrap ((first : Int) + (root : Int)) = (first : Int) + (root : Int) := by rw [IntKind.wrap_i64]; omega
                have ws2 : IntKind.i64.wrap ((first : Int) + (c : Int)) = (first : Int) + (c : Int) := by rw [IntKind.wrap_i64]; omega
                have pp1 : (0 : Int) ≤ (first : Int) + (root : Int) := by omega
                have pp2 : (0 : Int) ≤ (first : Int) + (c : Int) := by omega
                have tt1 : ((first : Int) + (root : Int)).toNat = first + root := by omega
                have tt2 : ((first : Int) + (c : Int)).toNat = first + c := by omega
                go_wp2_with fail
                go_region_held3 (fun W => W.cell? ⟨bk, off + (first + root), none⟩ = some (.int .i64 x) ∧ W.cell? ⟨bk, off + (first + c), none⟩ = some (.int .i64 y)) (first
                  | go_keep
                  | (go_split_ands; refine ⟨?_, ?_⟩ <;> (rw [hb1.cell (by simp; omega)]; assumption)))
                  (first | (go_at_call 51; (with_reducible refine (HCC.out _ hbd).mono ?_); rintro e w1 ⟨rfl, hb1⟩))
                clear ws1 ws2 tt1 tt2
                go_wp2
                go_roundw
                case rel =>
                  have hz : w.heap.size + 1 ≤ wr.heap.size := by have := hbw.size; simpa using this
                  refine ⟨t + 1, by go_num, by omega, hbw.trans ((below_drewN (RowKit.Below.refl _ wr) 1).trans (hb1.mono hz)), fun s hs => ?_⟩
                  by_cases e : s = t
                  · subst e; exact HSUB.out
                  · exact HR.out s (by omega)
                case measure => simp [intOf]; omega
              | false =>
                have CC : ∀ W, RowKit.Below w.heap.size w W → Calls Try.prog 51 #[.slice (some ⟨bk, off, none⟩) D.size cap, .int .i64 c, .int .i64 hi, .int .i64 first] W fun e w' => e = .returned (.bool false) ∧ RowKit.Below W.heap.size W w' := fun W hW => by
                  have := IH.out c W (by omega) (by omega) (keepI HS.out hW); rw [hs] at this; exact this
                have HCC := Lib.hid CC
                have HSUB : Hid (childB D first hi root (2 * root + 1 + t) = false) := hsub.trans hs
                have hbd : RowKit.Below w.heap.size w wr.drew := below_drewN hb0 1
                clear hs hsub CC
                have ws1 : IntKind.i64.wrap ((first : Int) + (root : Int)) = (first : Int) + (root : Int) := by rw [IntKind.wrap_i64]; omega
                have ws2 : IntKind.i64.wrap ((first : Int) + (c : Int)) = (first : Int) + (c : Int) := by rw [IntKind.wrap_i64]; omega
                have pp1 : (0 : Int) ≤ (first : Int) + (root : Int) := by omega
                have pp2 : (0 : Int) ≤ (first : Int) + (c : Int) := by omega
                have tt1 : ((first : Int) + (root : Int)).toNat = first + root := by omega
                have tt2 : ((first : Int) + (c : Int)).toNat = first + c := by omega
                go_wp2_with fail
                go_region_held3 (fun W => W.cell? ⟨bk, off + (first + root), none⟩ = some (.int .i64 x) ∧ W.cell? ⟨bk, off + (first + c), none⟩ = some (.int .i64 y)) (first
                  | go_keep
                  | (go_split_ands; refine ⟨?_, ?_⟩ <;> (rw [hb1.cell (by simp; omega)]; assumption)))
                  (first | (go_at_call 51; (with_reducible refine (HCC.out _ hbd).mono ?_); rintro e w1 ⟨rfl, hb1⟩))
                clear ws1 ws2 tt1 tt2
                go_wp2
                go_ret
                have e := node_false (D := D) (F := first) (t := t) hroot ht2 HSUB.out
                exact ⟨congrArg (fun b => Ending.returned (.bool b)) e.symm, hbd.trans (hb1.mono hbd.size)⟩
          · have hcz : decide ((c : Int) < (hi : Int)) = false := decide_eq_false (by omega)
            have hcz' : (hi : Int) ≤ (c : Int) := by omega
            go_wp2_with fail
            go_quiet (fail)
            go_wp2
            go_roundw
            case rel =>
              refine ⟨t + 1, by go_num, by omega, below_drewN hbw _, fun s hs => ?_⟩
              by_cases e : s = t
              · subst e; rw [← HC.out]; exact child_out hch
              · exact HR.out s (by omega)
            case measure => simp [intOf]; omega
        · have htz : ¬ (t : Int) < 2 := by omega
          go_wp2
          go_ret
          have e := node_true (D := D) (F := first) hroot fun s hs => HR.out s (by omega)
          exact ⟨congrArg (fun b => Ending.returned (.bool b)) e.symm, hb0⟩
end Go.Proofs.Ytcamaikogengoaa
