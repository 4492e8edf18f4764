/- The random numbers: impl.Random and the reference spec.Random hand back the same numbers, those of the shift register; slices.Equal at uint64. -/
import Derived.Test.YtcamaikogengoaaBase1
import Derived.Test.YtcamaikogengoaaWXor
import Derived.WalkSpells
namespace Go.Proofs.Ytcamaikogengoaa
set_option linter.unusedVariables false
set_option linter.unusedSimpArgs false
set_option linter.unusedSectionVars false
open Go.RowKit Go.Sort

abbrev HU (W : World) (b off : Nat) (d : Array Int) : Prop := Holds (Value.int .u64) W b off d
theorem byU : ByBlock HU := fun h e => holds_block h e
theorem keepU {B : Nat} {W W' : World} {v : Value} {d : Array Int} (h : SlAt HU B W v d) (hb : RowKit.Below W.heap.size W W') : SlAt HU 0 W' v d := (SlAt.below (HH := HU) byU h hb (Nat.le_refl _)).any

theorem u64s_of_own {W : World} {B : Nat} {e : TypeId} {v : Value} {n : Nat} {d : Array Int} (h : W.ownsRow B e 1 v n (d.toList.map (Value.int .u64))) : SlAt HU B W v d := by
  have hl : n = d.size := by have := h.1; simp at this; omega
  subst hl
  by_cases h0 : 0 < d.size
  · obtain ⟨g, cap, rfl, hg, hlt⟩ := h.form h0
    refine ⟨_, cap, rfl, own_caps h, fun _ => ⟨g, 0, rfl, hg, hlt, fun j hj => ?_⟩⟩
    refine ⟨?_, h.frozenAt _⟩
    rw [h.cellAt (0 + j) (by omega)]
    simp [getElem!_pos d j hj, hj]
  · have hz : d.size = 0 := by omega
    rcases h.2 with ⟨rfl, _⟩ | ⟨g, cap, cur, rfl, _, _, h1, h2, _⟩
    · exact ⟨none, 0, by rw [hz], ⟨by omega, Nat.zero_le _⟩, fun h => absurd h h0⟩
    · exact ⟨_, cap, rfl, ⟨h1, h2⟩, fun h => absurd h h0⟩

theorem u64_info : (Try.prog.info? 22).map (fun i => (i.zero, i.size, i.bytes)) = some (some (.int .u64 0), 1, 8) := by kernel_rfl

/-- The register behind k steps. -/
def reg (s : Nat) : Nat → Nat
  | 0 => s
  | k + 1 => xorNextN (reg s k)
theorem reg_lt {s : Nat} (h : s < 18446744073709551616) : ∀ k, reg s k < 18446744073709551616
  | 0 => h
  | k + 1 => xorNextN_lt _ (reg_lt h k)
/-- The first k numbers. -/
def nums (s k : Nat) : Array Int := (Array.range k).map fun i => ((reg s (i + 1) : Nat) : Int)
theorem nums_size (s k : Nat) : (nums s k).size = k := by simp [nums]
theorem nums_vals (s k : Nat) : (nums s (k + 1)).toList.map (Value.int .u64) = (nums s k).toList.map (Value.int .u64) ++ [.int .u64 ((reg s (k + 1) : Nat) : Int)] := by
  simp [nums, Array.range_succ]

theorem reads_one {w : World} {t : TypeId} (u : Value) : Reads (w.alloc (.cells #[u] t)) (w.heap.size + 1) 1 (some ⟨w.heap.size, 0, none⟩) 1 [u] := by
  refine ⟨rfl, fun _ => ⟨_, rfl, by show w.heap.size < w.heap.size + 1; omega, fun j x hx => ?_⟩⟩
  rw [add_plain, World.cell?_alloc_at _ _ _ _ (by simp)]
  match j, hx with
  | 0, hx => simpa using hx

set_option maxHeartbeats 1000000 in
set_option maxRecDepth 100000 in
theorem Random_in (s n : Nat) (w : World) (hs : s < 18446744073709551616) (hn : n ≤ 10000) :
    Calls Try.prog 73 #[.int .u64 s, .int .i64 n] w (Copied HU w (nums s n)) := by
  obtain ⟨i0, hi0, hz0, hz1, hz2⟩ := info_parts u64_info
  have HS := Lib.hid hs
  go_enter Try.func73, Try.ntmps73
  go_wp2
  go_loopw [6, 7] (fun v6 vi wr => ∃ k : Nat, vi = .int .i64 k ∧ k ≤ n ∧ wr.ownsRow (w.heap.size + 1) 22 1 v6 k ((nums s k).toList.map (Value.int .u64)) ∧
    wr.cell? ⟨w.heap.size, 0, none⟩ = some (.int .u64 ((reg s k : Nat) : Int)) ∧ wr.frozen? ⟨w.heap.size, 0, none⟩ = false ∧ RowKit.Below w.heap.size w wr ∧ w.heap.size + 1 ≤ wr.heap.size) (fun _ vi _ => n - (intOf vi).toNat)
  case atStart => exact ⟨0, rfl, Nat.zero_le _, by simpa [nums] using World.ownsRow_nil _ (w.heap.size + 1) 22 1, by simp [reg], by simp, (RowKit.Below.refl _ _).alloc (Nat.le_refl _) _, by simp⟩
  case round =>
    obtain ⟨k, rfl, hk, hown, hc, hf, hb, hsz⟩ := hrel
    by_cases hlt : k < n
    · have hltz : (k : Int) < (n : Int) := by omega
      have hX := xorshift_Next w.heap.size 0 (reg s k) (reg_lt HS.out k) wr hc hf
      rw [show xorNextN (reg s k) = reg s (k + 1) from rfl] at hX
      obtain ⟨X, hXe⟩ : ∃ X : Nat, X = reg s (k + 1) := ⟨_, rfl⟩
      rw [← hXe] at hX
      obtain ⟨w2, hw2⟩ : ∃ w2, w2 = (wr.setCell ⟨w.heap.size, 0, none⟩ (.int .u64 (X : Int))).drewN 3 := ⟨_, rfl⟩
      rw [← hw2] at hX
      have c2 : w2.cell? ⟨w.heap.size, 0, none⟩ = some (.int .u64 (X : Int)) := by rw [hw2, World.cell?_drewN]; exact World.cell?_setCell_same _ _ _ hc
      have f2 : w2.frozen? ⟨w.heap.size, 0, none⟩ = false := by rw [hw2, World.frozen?_drewN]; simpa using hf
      have z2 : w2.heap.size = wr.heap.size := by rw [hw2]; show (wr.setCell _ _).heap.size = _; simp
      have hwz : w.heap.size + 1 ≤ w2.heap.size := by omega
      clear z2
      have b2 : RowKit.Below w.heap.size w w2 := by
        rw [hw2]
        exact below_drewN (hb.setCell (Nat.le_refl _) _) 3
      have o2 : w2.ownsRow (w.heap.size + 1) 22 1 u6 k ((nums s k).toList.map (Value.int .u64)) := by
        rw [hw2]
        exact ownsRow_setCell_below hown (a := ⟨w.heap.size, 0, none⟩) (Nat.lt_succ_self _) _
      have HX := Lib.hid hXe
      have HC := Lib.hid hX
      have HO := Lib.hid (o2.alloc (.cells #[.int .u64 (X : Int)] 22))
      have Hc2 := Lib.hid c2
      have Hf2 := Lib.hid f2
      clear hX hXe hw2 c2 f2 hc hf hown o2 hs
      go_wp2_with (first
        | (go_at_call 101; refine (HC.out).mono ?_; rintro e w' ⟨rfl, hw'⟩; obtain rfl : w2 = w' := hw'.symm)
        | (at_builtin
           refine wpList_append_any _ rfl (.tmp 14) (.tmp 16) _ rfl (w.heap.size + 1) 22 i0 _ 1 8 Try.underlying24 hi0 hz0 hz1 hz2 rfl (by omega) u6 k _ rfl HO.out (w2.heap.size + 1) (some ⟨w2.heap.size, 0, none⟩) 1 1 [.int .u64 (X : Int)] rfl (reads_one _)
             (by intro u hu; simp only [List.mem_cons, List.not_mem_nil, or_false] at hu; rcases hu with rfl; rfl) (by simp only [maxLen]; omega) (by omega) (by simp; omega) ?_
           intro v1 w3 hown3 hg3 hat3))
      go_roundw
      case rel =>
        have hne : some w.heap.size ≠ u6.ownBlock := fun he => by have := (HO.out.lt _ he.symm).1; omega
        have c3 : (w2.alloc (.cells #[.int .u64 (X : Int)] 22)).cell? ⟨w.heap.size, 0, none⟩ = some (.int .u64 (X : Int)) := by rw [World.cell?_alloc_lt _ _ _ (by show w.heap.size < w2.heap.size; omega)]; exact Hc2.out
        have f3 : (w2.alloc (.cells #[.int .u64 (X : Int)] 22)).frozen? ⟨w.heap.size, 0, none⟩ = false := by
          rw [World.frozen?_of_block (w := w2) (a := ⟨w.heap.size, 0, none⟩) (Below.heap_alloc w2 _ w.heap.size (by omega))]; exact Hf2.out
        have hblk : w3.heap[w.heap.size]? = (w2.alloc (.cells #[.int .u64 (X : Int)] 22)).heap[w.heap.size]? := hg3.block _ (by simp; omega) hne
        have ba := b2.alloc b2.size (.cells #[.int .u64 (X : Int)] 22)
        refine ⟨k + 1, by go_num, by omega, ?_, ?_, ?_, ba.grown hg3 ba.size fun q hq => by have := (HO.out.lt q hq).1; omega, ?_⟩
        · rw [nums_vals, ← HX.out]; exact hown3
        · rw [World.cell?_of_block (a := ⟨w.heap.size, 0, none⟩) hblk, c3, HX.out]
        · rw [World.frozen?_of_block (a := ⟨w.heap.size, 0, none⟩) hblk]; exact f3
        · have := hg3.size; simp at this; omega
      case measure => simp [intOf]; omega
    · have hltz : ¬ (k : Int) < (n : Int) := by omega
      obtain rfl : k = n := by omega
      have HO := Lib.hid hown
      clear hown hc hf
      go_wp2
      go_ret
      exact ⟨_, rfl, (u64s_of_own HO.out).mono (Nat.le_succ _), hb⟩

theorem Random_impl (s n : Nat) (w : World) (hs : s < 18446744073709551616) (hn : n ≤ 10000) :
    Calls Try.prog 30 #[.int .u64 s, .int .i64 n] w (Copied HU w (nums s n)) := by
  go_enter Try.func30, Try.ntmps30
  go_wp2_with (first | (go_at_call 73; refine (Random_in s n _ hs hn).mono ?_; rintro e w1 ⟨v1, rfl, hs1, hb1⟩))
  go_ret
  exact ⟨v1, rfl, hs1, hb1⟩

set_option maxHeartbeats 1000000 in
set_option maxRecDepth 100000 in
theorem Random_spec (s n : Nat) (w : World) (hs : s < 18446744073709551616) (hn : n ≤ 10000) :
    Calls Try.prog 31 #[.int .u64 s, .int .i64 n] w (Copied HU w (nums s n)) := by
  obtain ⟨i0, hi0, hz0, hz1, hz2⟩ := info_parts u64_info
  have HS := Lib.hid hs
  go_enter Try.func31, Try.ntmps31
  go_wp2
  go_loopw [0, 1, 5] (fun v0 v1 v5 wr => ∃ k : Nat, v0 = .int .u64 ((reg s k : Nat) : Int) ∧ v1 = .int .i64 ((n : Int) - (k : Int)) ∧ k ≤ n ∧ wr.ownsRow w.heap.size 22 1 v5 k ((nums s k).toList.map (Value.int .u64)) ∧ RowKit.Below w.heap.size w wr) (fun _ v1 _ _ => (intOf v1).toNat)
  case atStart => exact ⟨0, rfl, by simp, Nat.zero_le _, by simpa [nums] using World.ownsRow_nil _ w.heap.size 22 1, RowKit.Below.refl _ _⟩
  case round =>
    obtain ⟨k, rfl, rfl, hk, hown, hb⟩ := hrel
    by_cases hlt : k < n
    · have hltz : (0 : Int) < (n : Int) - (k : Int) := by omega
      have hltz2 : (k : Int) < (n : Int) := by omega
      obtain ⟨X, hXe⟩ : ∃ X : Nat, X = reg s k := ⟨_, rfl⟩
      have hX : X < 18446744073709551616 := by rw [hXe]; exact reg_lt HS.out k
      obtain ⟨A, hA⟩ : ∃ A : Nat, A = X ^^^ (X * 8192 % 18446744073709551616) := ⟨_, rfl⟩
      obtain ⟨B, hB⟩ : ∃ B : Nat, B = A ^^^ (A / 128) := ⟨_, rfl⟩
      obtain ⟨C, hC⟩ : ∃ C : Nat, C = B ^^^ (B * 131072 % 18446744073709551616) := ⟨_, rfl⟩
      have lA : A < 18446744073709551616 := by rw [hA]; exact Nat.xor_lt_two_pow (n := 64) (by omega) (by omega)
      have lB : B < 18446744073709551616 := by rw [hB]; exact Nat.xor_lt_two_pow (n := 64) (by omega) (by omega)
      have e1 : bits .xor .u64 (X : Int) (IntKind.u64.wrap ((X : Int) * 8192)) = (A : Int) := by
        rw [IntKind.wrap_u64, show ((X : Int) * 8192 % 18446744073709551616) = ((X * 8192 % 18446744073709551616 : Nat) : Int) by omega, bits_xor_u64_nat _ _ hX (by omega), hA]
      have e2 : bits .xor .u64 (A : Int) ((A : Int) / 128) = (B : Int) := by
        rw [show ((A : Int) / 128) = ((A / 128 : Nat) : Int) by omega, bits_xor_u64_nat _ _ lA (by omega), hB]
      have e3 : bits .xor .u64 (B : Int) (IntKind.u64.wrap ((B : Int) * 131072)) = (C : Int) := by
        rw [IntKind.wrap_u64, show ((B : Int) * 131072 % 18446744073709551616) = ((B * 131072 % 18446744073709551616 : Nat) : Int) by omega, bits_xor_u64_nat _ _ lB (by omega), hC]
      have hv : C = reg s (k + 1) := by show C = xorNextN (reg s k); rw [← hXe]; unfold xorNextN; simp only []; rw [← hA, ← hB, ← hC]
      rw [← hXe]
      have HX := Lib.hid hv
      have HO := Lib.hid (hown.alloc (.cells #[.int .u64 (C : Int)] 22))
      clear hA hB hC hv hXe hown hs
      go_wp2_with (first
        | (at_builtin
           refine wpList_append_any _ rfl (.tmp 22) (.tmp 24) _ rfl w.heap.size 22 i0 _ 1 8 Try.underlying24 hi0 hz0 hz1 hz2 rfl (by omega) u5 k _ rfl HO.out (wr.heap.size + 1) (some ⟨wr.heap.size, 0, none⟩) 1 1 [.int .u64 (C : Int)] rfl (reads_one _)
             (by intro u hu; simp only [List.mem_cons, List.not_mem_nil, or_false] at hu; rcases hu with rfl; rfl) (by simp only [maxLen]; omega) (by omega) (by have := hb.size; simp; omega) ?_
           intro v1 w3 hown3 hg3 hat3))
      go_roundw
      case rel =>
        have ba := hb.alloc hb.size (.cells #[.int .u64 (C : Int)] 22)
        refine ⟨k + 1, by rw [← HX.out], by congr 1; omega, by omega, ?_, ba.grown hg3 ba.size fun q hq => (HO.out.lt q hq).1⟩
        rw [nums_vals, ← HX.out]; exact hown3
      case measure => simp [intOf]; omega
    · have hltz : ¬ (0 : Int) < (n : Int) - (k : Int) := by omega
      have hltz2 : ¬ (k : Int) < (n : Int) := by omega
      obtain rfl : k = n := by omega
      have HO := Lib.hid hown
      clear hown
      go_wp2
      go_ret
      exact ⟨_, rfl, u64s_of_own HO.out, hb⟩

set_option maxHeartbeats 1000000 in
set_option maxRecDepth 100000 in
theorem equalU_yes (v1 v2 : Value) (d : Array Int) (w : World) (h1 : SlAt HU 0 w v1 d) (h2 : SlAt HU 0 w v2 d) (hn : d.size ≤ 2147483647) :
    Calls Try.prog 29 #[v1, v2] w fun e w' => e = .returned (.bool true) ∧ ∃ n, w' = w.drewN n := by
  obtain ⟨A1, c1, rfl, hcp1, hh1⟩ := h1
  obtain ⟨A2, c2, rfl, hcp2, hh2⟩ := h2
  have hne : ((d.size : Int) != (d.size : Int)) = false := by simp
  go_enter Try.func29, Try.ntmps29
  go_wp2
  go_loopw [13] (fun vi wr => ∃ (k n : Nat), vi = .int .i64 k ∧ k ≤ d.size ∧ wr = w.drewN n) (fun vi _ => d.size - (intOf vi).toNat)
  case atStart => exact ⟨0, 0, rfl, Nat.zero_le _, rfl⟩
  case round =>
    obtain ⟨k, n, rfl, hk, rfl⟩ := hrel
    by_cases hlt : k < d.size
    · obtain ⟨b1, o1, rfl, _, _, g1⟩ := hh1 (by omega)
      obtain ⟨b2, o2, rfl, _, _, g2⟩ := hh2 (by omega)
      obtain ⟨x, hx⟩ : ∃ x, d[k]! = x := ⟨_, rfl⟩
      have k1 := (g1 k hlt).1
      have k2 := (g2 k hlt).1
      rw [hx] at k1 k2
      have hxx : (x != x) = false := by simp
      clear hx g1 g2 hh1 hh2
      have hz : (k : Int) < (d.size : Int) := by omega
      go_wp2_with fail
      go_quiet (fail)
      go_wp2
      go_roundw
      case rel => exact ⟨k + 1, n + nq, by go_num, by omega, rfl⟩
      case measure => simp [intOf]; omega
    · have hz : ¬ (k : Int) < (d.size : Int) := by omega
      go_wp2
      go_ret
      exact ⟨rfl, n, rfl⟩
end Go.Proofs.Ytcamaikogengoaa
