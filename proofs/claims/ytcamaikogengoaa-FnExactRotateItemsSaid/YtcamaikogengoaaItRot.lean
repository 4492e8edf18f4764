/- Rotation over items: in place, and the wrappers that copy, work in place and return. -/
import Derived.Test.YtcamaikogengoaaItFn
import Derived.Test.YtcamaikogengoaaCRot
namespace Go.Proofs.Ytcamaikogengoaa
set_option linter.unusedVariables false
set_option linter.unusedSimpArgs false
set_option linter.unusedSectionVars false
open Go.RowKit Go.Sort Go.Lib

theorem rotT_at (B : Nat) (v : Value) (d : Array It) (a m b : Nat) (w : World) (h : SlAt HT B w v d) (hB : B ≤ w.heap.size) (ham : a < m) (hmb : m < b) (hb : b ≤ d.size) (hsz : d.size ≤ 2147483647) :
    Calls Try.prog 125 #[v, .int .i64 a, .int .i64 m, .int .i64 b, .func (.func 112) #[] #[]] w (Placed HT B w v (rotate d a m b)) := by
  have hz : (rotate d a m b).size = d.size := (rotate_spec ham hmb hb).size
  obtain ⟨A, cap, rfl, hcp, hh⟩ := h
  obtain ⟨bk, off, rfl, h1, h2, h3⟩ := hh (by omega)
  refine (rotate_item inner 2 agg78 size78 encIt 112 #[] bk off cap a m b d d w w (rowT h3 h2) rfl (SWK.start h3) ham hmb hb (by omega)).mono fun e w' ⟨he, hw⟩ => ?_
  have := placedT (cap := cap) h3 h1 h2 hB hz hcp rfl hw
  exact ⟨he, this.1, this.2⟩

set_option maxHeartbeats 400000 in
theorem rotT_in (v : Value) (d : Array It) (a m b : Nat) (w : World) (h : SlAt HT 0 w v d) (ham : a < m) (hmb : m < b) (hb : b ≤ d.size) (hn : d.size ≤ 2147483647) :
    Calls Try.prog 97 #[v, .int .i64 a, .int .i64 m, .int .i64 b] w fun e w' => ∃ v', e = .returned v' ∧ SlAt HT w.heap.size w' v' (rotate d a m b) ∧ RowKit.Below w.heap.size w w' := by
  have K := fun (B : Nat) (v1 : Value) (w1 : World) (hs : SlAt HT B w1 v1 d) (hB : B ≤ w1.heap.size) => rotT_at B v1 d a m b w1 hs hB ham hmb hb hn
  have KH := Lib.hid K
  clear K
  go_enter Try.func97, Try.ntmps97
  go_wp2_with (first | (go_at_call 110; refine (cloneItems_at v d _ h hn).mono ?_; rintro e w1 ⟨v1, rfl, hs1, hb1⟩))
  go_wp2_with (first | (go_at_call 125; refine (KH.out w.heap.size v1 _ hs1 hb1.size).mono ?_; rintro e w2 ⟨rfl, hs2, hb2⟩))
  go_ret
  exact ⟨_, rfl, hs2, hb1.trans hb2⟩

set_option maxHeartbeats 400000 in
theorem rotT_impl (v : Value) (d : Array It) (a m b : Nat) (w : World) (h : SlAt HT 0 w v d) (ham : a < m) (hmb : m < b) (hb : b ≤ d.size) (hn : d.size ≤ 2147483647) :
    Calls Try.prog 69 #[v, .int .i64 a, .int .i64 m, .int .i64 b] w fun e w' => ∃ v', e = .returned v' ∧ SlAt HT w.heap.size w' v' (rotate d a m b) ∧ RowKit.Below w.heap.size w w' := by
  have hz : (rotate d a m b).size = d.size := (rotate_spec ham hmb hb).size
  have HZ := Lib.hid hz
  clear hz
  have K := fun (v1 : Value) (w1 : World) (hs : SlAt HT 0 w1 v1 d) => rotT_in v1 d a m b w1 hs ham hmb hb hn
  have KH := Lib.hid K
  clear K
  go_enter Try.func69, Try.ntmps69
  go_wp2_with (first
    | (go_at_call 83; refine (In_at v d _ h hn).mono ?_; rintro e w1 ⟨v1, rfl, hs1, hb1⟩)
    | (go_at_call 97; refine (KH.out v1 _ hs1.any).mono ?_; rintro e w2 ⟨v2, rfl, hs2, hb2⟩)
    | (go_at_call 81; refine (Out_at v2 _ _ hs2.any (by rw [HZ.out]; exact hn)).mono ?_; rintro e w3 ⟨v3, rfl, hs3, hb3⟩))
  go_ret
  have hb12 := hb1.trans (hb2.mono hb1.size)
  exact ⟨v3, rfl, hs3.mono hb12.size, hb12.trans (hb3.mono hb12.size)⟩

end Go.Proofs.Ytcamaikogengoaa
