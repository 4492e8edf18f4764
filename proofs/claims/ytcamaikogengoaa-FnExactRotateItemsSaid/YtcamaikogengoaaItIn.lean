/- impl.in, impl.out and spec.Keys: a list of items copied into new memory, element by element; the keys. -/
import Derived.Test.YtcamaikogengoaaItWords
namespace Go.Proofs.Ytcamaikogengoaa
set_option linter.unusedVariables false
set_option linter.unusedSimpArgs false
set_option linter.unusedSectionVars false
open Go.RowKit Go.Sort

set_option maxHeartbeats 1000000 in
set_option maxRecDepth 100000 in
theorem In_at (v : Value) (D : Array It) (w : World) (h : SlAt HT 0 w v D) (hn : D.size ≤ 2147483647) :
    Calls Try.prog 83 #[v] w (Copied HT w D) := by
  obtain ⟨A, cap, rfl, hcp, hh⟩ := h
  obtain ⟨i0, hi0, hz0, hz1, hz2⟩ := info_parts sitem_info
  go_enter Try.func83, Try.ntmps83
  go_wp2
  go_loopw [3, 8] (fun v3 vi wr => ∃ k : Nat, vi = .int .i64 k ∧ k ≤ D.size ∧ wr.ownsRow w.heap.size 78 2 v3 k ((D.toList.take k).flatMap encIt) ∧ RowKit.Below w.heap.size w wr) (fun _ vi _ => D.size - (intOf vi).toNat)
  case atStart => exact ⟨0, rfl, Nat.zero_le _, by simpa using World.ownsRow_nil w w.heap.size 78 2, RowKit.Below.refl _ _⟩
  case round =>
    obtain ⟨k, rfl, hk, hown, hb⟩ := hrel
    by_cases hlt : k < D.size
    · have hltz : (k : Int) < (D.size : Int) := by omega
      obtain ⟨bk, off, rfl, _, g2, hH⟩ := hh (by omega)
      obtain ⟨x, hx⟩ : ∃ x, x = D[k]! := ⟨_, rfl⟩
      have k1 := (HT.fst hH hlt).1
      have k2 := (HT.snd hH hlt).1
      rw [← hx] at k1 k2
      rw [← hb.cell (p := ⟨bk, off + k * 2, none⟩) g2] at k1
      rw [← hb.cell (p := ⟨bk, off + k * 2 + 1, none⟩) g2] at k2
      have HX := Lib.hid hx
      have HH' := Lib.hid hH
      clear hx hH
      have hs1 : wr.heap.size + 1 ≤ ((wr.alloc (.cells #[.int .i64 x.1, .int .i64 x.2] 50)).alloc (.cells #[.int .i64 x.1, .int .i64 x.2] 78)).heap.size := by simp
      have hr : Reads ((wr.alloc (.cells #[.int .i64 x.1, .int .i64 x.2] 50)).alloc (.cells #[.int .i64 x.1, .int .i64 x.2] 78)) (wr.heap.size + 2) 2 (some ⟨wr.heap.size + 1, 0, none⟩) 1 [.int .i64 x.1, .int .i64 x.2] := by
        refine ⟨rfl, fun _ => ⟨_, rfl, by show wr.heap.size + 1 < wr.heap.size + 2; omega, fun j u hu => ?_⟩⟩
        rw [add_plain]
        rw [World.cell?_alloc_at _ _ _ _ (by simp)]
        match j, hu with
        | 0, hu => simpa using hu
        | 1, hu => simpa using hu
      have hown2 := (hown.alloc (.cells #[.int .i64 x.1, .int .i64 x.2] 50)).alloc (.cells #[.int .i64 x.1, .int .i64 x.2] 78)
      have HO := Lib.hid hown2
      have HR := Lib.hid hr
      have HB := Lib.hid hb
      clear hown2 hr hown
      go_wp2_with (first
        | (at_builtin
           refine wpList_append_any _ rfl (.tmp 12) (.tmp 18) _ rfl w.heap.size 78 i0 _ 2 16 Try.underlying63 hi0 hz0 hz1 hz2 rfl (by omega) _ k _ rfl HO.out (wr.heap.size + 2) (some ⟨wr.heap.size + 1, 0, none⟩) 1 1 [.int .i64 x.1, .int .i64 x.2] rfl HR.out
             (by intro u hu; simp only [List.mem_cons, List.not_mem_nil, or_false] at hu; rcases hu with rfl | rfl <;> rfl) (by simp only [maxLen]; omega) (by omega) (by have := hb.size; simp; omega) ?_
           intro v1 w1 hown1 hg1 hat1))
      go_roundw
      case rel =>
        refine ⟨k + 1, by go_num, by omega, ?_, ?_⟩
        · have e : (D.toList.take (k + 1)).flatMap encIt = (D.toList.take k).flatMap encIt ++ [.int .i64 x.1, .int .i64 x.2] := by
            rw [List.take_succ_eq_append_getElem (by simpa using hlt), List.flatMap_append]
            congr 1
            rw [HX.out, getElem!_pos D k hlt]
            rfl
          rw [e]
          exact hown1
        · have h2 := (hb.alloc hb.size (.cells #[.int .i64 x.1, .int .i64 x.2] 50))
          have h3 := h2.alloc h2.size (.cells #[.int .i64 x.1, .int .i64 x.2] 78)
          exact h3.grown hg1 h3.size fun q hq => (HO.out.lt q hq).1
      case measure => simp [intOf]; omega
    · have hltz : ¬ (k : Int) < (D.size : Int) := by omega
      obtain rfl : k = D.size := by omega
      have HO := Lib.hid hown
      clear hown
      go_wp2
      go_ret
      refine ⟨_, rfl, ?_, hb⟩
      have := HO.out
      rw [List.take_of_length_le (by simp)] at this
      exact items_of_own this

set_option maxHeartbeats 1000000 in
set_option maxRecDepth 100000 in
theorem Out_at (v : Value) (D : Array It) (w : World) (h : SlAt HT 0 w v D) (hn : D.size ≤ 2147483647) :
    Calls Try.prog 81 #[v] w (Copied HT w D) := by
  obtain ⟨A, cap, rfl, hcp, hh⟩ := h
  obtain ⟨i0, hi0, hz0, hz1, hz2⟩ := info_parts item_info
  go_enter Try.func81, Try.ntmps81
  go_wp2
  go_loopw [3, 8] (fun v3 vi wr => ∃ k : Nat, vi = .int .i64 k ∧ k ≤ D.size ∧ wr.ownsRow w.heap.size 50 2 v3 k ((D.toList.take k).flatMap encIt) ∧ RowKit.Below w.heap.size w wr) (fun _ vi _ => D.size - (intOf vi).toNat)
  case atStart => exact ⟨0, rfl, Nat.zero_le _, by simpa using World.ownsRow_nil w w.heap.size 50 2, RowKit.Below.refl _ _⟩
  case round =>
    obtain ⟨k, rfl, hk, hown, hb⟩ := hrel
    by_cases hlt : k < D.size
    · have hltz : (k : Int) < (D.size : Int) := by omega
      obtain ⟨bk, off, rfl, _, g2, hH⟩ := hh (by omega)
      obtain ⟨x, hx⟩ : ∃ x, x = D[k]! := ⟨_, rfl⟩
      have k1 := (HT.fst hH hlt).1
      have k2 := (HT.snd hH hlt).1
      rw [← hx] at k1 k2
      rw [← hb.cell (p := ⟨bk, off + k * 2, none⟩) g2] at k1
      rw [← hb.cell (p := ⟨bk, off + k * 2 + 1, none⟩) g2] at k2
      have HX := Lib.hid hx
      have HH' := Lib.hid hH
      clear hx hH
      have hs1 : wr.heap.size + 1 ≤ ((wr.alloc (.cells #[.int .i64 x.1, .int .i64 x.2] 78)).alloc (.cells #[.int .i64 x.1, .int .i64 x.2] 50)).heap.size := by simp
      have hr : Reads ((wr.alloc (.cells #[.int .i64 x.1, .int .i64 x.2] 78)).alloc (.cells #[.int .i64 x.1, .int .i64 x.2] 50)) (wr.heap.size + 2) 2 (some ⟨wr.heap.size + 1, 0, none⟩) 1 [.int .i64 x.1, .int .i64 x.2] := by
        refine ⟨rfl, fun _ => ⟨_, rfl, by show wr.heap.size + 1 < wr.heap.size + 2; omega, fun j u hu => ?_⟩⟩
        rw [add_plain]
        rw [World.cell?_alloc_at _ _ _ _ (by simp)]
        match j, hu with
        | 0, hu => simpa using hu
        | 1, hu => simpa using hu
      have hown2 := (hown.alloc (.cells #[.int .i64 x.1, .int .i64 x.2] 78)).alloc (.cells #[.int .i64 x.1, .int .i64 x.2] 50)
      have HO := Lib.hid hown2
      have HR := Lib.hid hr
      have HB := Lib.hid hb
      clear hown2 hr hown
      go_wp2_with (first
        | (at_builtin
           refine wpList_append_any _ rfl (.tmp 12) (.tmp 18) _ rfl w.heap.size 50 i0 _ 2 16 Try.underlying39 hi0 hz0 hz1 hz2 rfl (by omega) _ k _ rfl HO.out (wr.heap.size + 2) (some ⟨wr.heap.size + 1, 0, none⟩) 1 1 [.int .i64 x.1, .int .i64 x.2] rfl HR.out
             (by intro u hu; simp only [List.mem_cons, List.not_mem_nil, or_false] at hu; rcases hu with rfl | rfl <;> rfl) (by simp only [maxLen]; omega) (by omega) (by have := hb.size; simp; omega) ?_
           intro v1 w1 hown1 hg1 hat1))
      go_roundw
      case rel =>
        refine ⟨k + 1, by go_num, by omega, ?_, ?_⟩
        · have e : (D.toList.take (k + 1)).flatMap encIt = (D.toList.take k).flatMap encIt ++ [.int .i64 x.1, .int .i64 x.2] := by
            rw [List.take_succ_eq_append_getElem (by simpa using hlt), List.flatMap_append]
            congr 1
            rw [HX.out, getElem!_pos D k hlt]
            rfl
          rw [e]
          exact hown1
        · have h2 := (hb.alloc hb.size (.cells #[.int .i64 x.1, .int .i64 x.2] 78))
          have h3 := h2.alloc h2.size (.cells #[.int .i64 x.1, .int .i64 x.2] 50)
          exact h3.grown hg1 h3.size fun q hq => (HO.out.lt q hq).1
      case measure => simp [intOf]; omega
    · have hltz : ¬ (k : Int) < (D.size : Int) := by omega
      obtain rfl : k = D.size := by omega
      have HO := Lib.hid hown
      clear hown
      go_wp2
      go_ret
      refine ⟨_, rfl, ?_, hb⟩
      have := HO.out
      rw [List.take_of_length_le (by simp)] at this
      exact items_of_own this

/-- The keys. -/
def keysOf (D : Array It) : Array Int := D.map (·.1)
theorem keysOf_size (D : Array It) : (keysOf D).size = D.size := by simp [keysOf]
theorem keysOf_at {D : Array It} {i : Nat} (h : i < D.size) : (keysOf D)[i]! = D[i]!.1 := by
  rw [getElem!_pos _ i (by simpa [keysOf] using h), getElem!_pos D i h]
  simp [keysOf]

set_option maxHeartbeats 1000000 in
set_option maxRecDepth 100000 in
theorem Keys_at (v : Value) (D : Array It) (w : World) (h : SlAt HT 0 w v D) (hn : D.size ≤ 2147483647) :
    Calls Try.prog 54 #[v] w (Copied HI w (keysOf D)) := by
  obtain ⟨A, cap, rfl, hcp, hh⟩ := h
  obtain ⟨i0, hi0, hz0, hz1, hz2⟩ := info_parts int_info
  go_enter Try.func54, Try.ntmps54
  go_wp2
  go_loopw [3, 8] (fun v3 vi wr => ∃ k : Nat, vi = .int .i64 k ∧ k ≤ D.size ∧ wr.ownsRow w.heap.size 3 1 v3 k (((keysOf D).toList.take k).map (Value.int .i64)) ∧ RowKit.Below w.heap.size w wr) (fun _ vi _ => D.size - (intOf vi).toNat)
  case atStart => exact ⟨0, rfl, Nat.zero_le _, by simpa using World.ownsRow_nil w w.heap.size 3 1, RowKit.Below.refl _ _⟩
  case round =>
    obtain ⟨k, rfl, hk, hown, hb⟩ := hrel
    by_cases hlt : k < D.size
    · have hltz : (k : Int) < (D.size : Int) := by omega
      obtain ⟨bk, off, rfl, _, g2, hH⟩ := hh (by omega)
      obtain ⟨x, hx⟩ : ∃ x, x = D[k]! := ⟨_, rfl⟩
      have k1 := (HT.fst hH hlt).1
      have k2 := (HT.snd hH hlt).1
      rw [← hx] at k1 k2
      rw [← hb.cell (p := ⟨bk, off + k * 2, none⟩) g2] at k1
      rw [← hb.cell (p := ⟨bk, off + k * 2 + 1, none⟩) g2] at k2
      have HX := Lib.hid hx
      clear hx hH
      have hr : Reads ((wr.alloc (.cells #[.int .i64 x.1, .int .i64 x.2] 50)).alloc (.cells #[.int .i64 x.1] 3)) (wr.heap.size + 2) 1 (some ⟨wr.heap.size + 1, 0, none⟩) 1 [.int .i64 x.1] := by
        refine ⟨rfl, fun _ => ⟨_, rfl, by show wr.heap.size + 1 < wr.heap.size + 2; omega, fun j u hu => ?_⟩⟩
        rw [add_plain]
        rw [World.cell?_alloc_at _ _ _ _ (by simp)]
        match j, hu with
        | 0, hu => simpa using hu
      have hown2 := (hown.alloc (.cells #[.int .i64 x.1, .int .i64 x.2] 50)).alloc (.cells #[.int .i64 x.1] 3)
      have HO := Lib.hid hown2
      have HR := Lib.hid hr
      clear hown2 hr hown
      go_wp2_with (first
        | (at_builtin
           refine wpList_append_any _ rfl (.tmp 12) (.tmp 15) _ rfl w.heap.size 3 i0 _ 1 8 Try.underlying27 hi0 hz0 hz1 hz2 rfl (by omega) _ k _ rfl HO.out (wr.heap.size + 2) (some ⟨wr.heap.size + 1, 0, none⟩) 1 1 [.int .i64 x.1] rfl HR.out
             (by intro u hu; simp only [List.mem_cons, List.not_mem_nil, or_false] at hu; rcases hu with rfl; rfl) (by simp only [maxLen]; omega) (by omega) (by have := hb.size; simp; omega) ?_
           intro v1 w1 hown1 hg1 hat1))
      go_roundw
      case rel =>
        refine ⟨k + 1, by go_num, by omega, ?_, ?_⟩
        · have e : ((keysOf D).toList.take (k + 1)).map (Value.int .i64) = ((keysOf D).toList.take k).map (Value.int .i64) ++ [.int .i64 x.1] := by
            rw [List.take_succ_eq_append_getElem (by simpa [keysOf] using hlt), List.map_append]
            congr 1
            rw [HX.out, getElem!_pos D k hlt]
            simp [keysOf]
          rw [e]
          exact hown1
        · have h2 := (hb.alloc hb.size (.cells #[.int .i64 x.1, .int .i64 x.2] 50))
          have h3 := h2.alloc h2.size (.cells #[.int .i64 x.1] 3)
          exact h3.grown hg1 h3.size fun q hq => (HO.out.lt q hq).1
      case measure => simp [intOf]; omega
    · have hltz : ¬ (k : Int) < (D.size : Int) := by omega
      obtain rfl : k = D.size := by omega
      have HO := Lib.hid hown
      clear hown
      go_wp2
      go_ret
      refine ⟨_, rfl, ?_, hb⟩
      have := HO.out
      rw [List.take_of_length_le (by simp [keysOf])] at this
      exact ints_of_own this
end Go.Proofs.Ytcamaikogengoaa
