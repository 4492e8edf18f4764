/- The law FnPower is proved: the next power of two is a power of two, more than the length, and half of it is not. It holds for every input, with no condition. -/
import Derived.Test.YtcamaikogengoaaClosed
import Derived.Test.YtcamaikogengoaaWXor
import Derived.Test.YtcamaikogengoaaBase1
import Derived.Laws.Bits64b
namespace Go.Proofs.Ytcamaikogengoaa.fnPower
set_option linter.unusedVariables false
set_option linter.unusedSimpArgs false
set_option linter.unusedSectionVars false
open Go.ChangeShapes Go.WideShapes Go.ChangeAt Go.RowKit

open Go.Sort

theorem power_wrap (n : Nat) (hn : n < 4611686018427387904) (w : World) :
    Calls Try.prog 80 #[.int .i64 n] w fun e w' => e = .returned (.int .u64 ((2 ^ bitsLen n : Nat) : Int)) ∧ w' = w := by
  go_enter Try.func80, Try.ntmps80
  go_wp2_with (first | (go_at_call 109; refine (nextPowerOfTwo n hn _).mono ?_; rintro e w' ⟨rfl, rfl⟩))
  go_ret
  exact ⟨by show Ending.returned (.int .u64 ((1 <<< bitsLen n : Nat) : Int)) = _; rw [Nat.shiftLeft_eq, Nat.one_mul], rfl⟩

theorem power_impl (n : Nat) (hn : n < 4611686018427387904) (w : World) :
    Calls Try.prog 44 #[.int .i64 n] w fun e w' => e = .returned (.int .u64 ((2 ^ bitsLen n : Nat) : Int)) ∧ w' = w := by
  go_enter Try.func44, Try.ntmps44
  go_wp2_with (first | (go_at_call 80; refine (power_wrap n hn _).mono ?_; rintro e w' ⟨rfl, rfl⟩))
  go_ret
  exact ⟨rfl, rfl⟩

set_option maxRecDepth 100000 in
set_option maxHeartbeats 1000000 in
theorem law (n : Int) (w : World) (_wa : (Lit.int .i64 n).wf = true) :
    Calls Try.prog 8 #[.int .i64 n] w fun e w' => e = .returned (.bool true) ∧ RowKit.Below w.heap.size w w' := by
  by_cases c1 : n < 1
  · go_enter Try.func8, Try.ntmps8
    go_wp2
    go_ret
    exact ⟨rfl, RowKit.Below.refl _ _⟩
  have n1 : 1 ≤ n := by omega
  by_cases c2 : 1152921504606846976 < n
  · go_enter Try.func8, Try.ntmps8
    go_wp2
    go_ret
    exact ⟨rfl, RowKit.Below.refl _ _⟩
  have n2 : n ≤ 1152921504606846976 := by omega
  obtain ⟨n, rfl⟩ := Int.eq_ofNat_of_zero_le (show 0 ≤ n by omega)
  have c := fun W => power_impl n (by omega) W
  have hl := lt_two_pow_bitsLen n
  have hg : 2 ^ bitsLen n ≤ 2 * n := by
    have h1 : ¬ bitsLen n ≤ bitsLen n - 1 := by
      intro h
      have h0 : bitsLen n = 0 := by omega
      rw [h0] at hl
      simp at hl
      omega
    have h2 : ¬ n < 2 ^ (bitsLen n - 1) := fun h => h1 ((bitsLen_le_iff n _).2 h)
    have h3 : bitsLen n = (bitsLen n - 1) + 1 := by omega
    rw [h3, Nat.pow_succ]; omega
  have ha : 2 ^ bitsLen n &&& (2 ^ bitsLen n - 1) = 0 := by rw [Nat.and_two_pow_sub_one_eq_mod]; exact Nat.mod_self _
  obtain ⟨p, hp⟩ : ∃ p, 2 ^ bitsLen n = p := ⟨_, rfl⟩
  rw [hp] at c hl hg ha
  have C := Lib.hid c
  have hb : bits .and .u64 (p : Int) ((p : Int) - 1) = 0 := by
    rw [show ((p : Int) - 1) = ((p - 1 : Nat) : Int) from by omega, bits_and_u64_nat _ _ (by omega) (by omega), ha]; rfl
  clear c hp ha
  have hn0 : 0 ≤ (n : Int) := by omega
  have hp1 : (p : Int) - 1 ≥ 0 := by omega
  have hp2 : (p : Int) ≤ 2305843009213693952 := by omega
  have hp3 : (n : Int) < (p : Int) := by omega
  have hp4 : (p : Int) / 2 ≤ (n : Int) := by omega
  have w1 : IntKind.u64.wrap (n : Int) = (n : Int) := by rw [IntKind.wrap_u64]; omega
  go_enter Try.func8, Try.ntmps8
  go_wp2_with fail
  refine (C.out _).mono ?_
  rintro e w1 ⟨rfl, rfl⟩
  go_wp2
  go_ret
  exact ⟨rfl, RowKit.Below.refl _ _⟩

set_option maxRecDepth 100000 in
theorem lifted (os : Os) (started : os.Started) (H : Type) (enc : TypeId × Value → H) :
    ReturnsInHanded {} Try.checked os 8 .any (Rows.fnPowerSpec.pre6 enc Try.prog Try.f8 Rows.fnPowerRow.domain false) (Rows.fnPowerSpec.post enc Try.prog Try.f8 false true false false) := by
  refine returnsInHanded_of_change (C := Try.checked) own started (by kernel_rfl) Try.func8
    (ChangeSpec.witness6 (enc := enc) (C := Try.checked) false ⟨#[], #[.int .i64 0], []⟩ 8 (by kernel_rfl) (by kernel_rfl) (by kernel_rfl) (by kernel_rfl)) ?_
  intro W base args ds gs before hval0 hW _ _
  have hval : ∀ (j : Nat) t v, Try.f8.params[j]? = some t → args[j]? = some v → Value.okWide Try.prog W .any base t v := hval0
  have hW' := hW
  obtain ⟨p, q, hA0, hV, rfl, hfz, _⟩ := hW
  have hA : DataW.TrodAll enc Try.prog W 0 (fun _ => true) true Try.f8.params.toList args.toList ds p := hA0
  rw [Try.params8] at hA hval
  obtain ⟨rfl, rfl⟩ := trodVars_none hV
  have hlt := hW'.lt
  simp only [List.append_nil] at hfz hlt
  have hA1 := hA
  obtain ⟨v0, vs0, d0, ds0, p0, q0, hargs, rfl, rfl, h0, r0⟩ := trodAll_cons hA1
  obtain ⟨rfl, rfl, rfl⟩ := trodAll_nil r0
  obtain rfl : args = #[v0] := by cases args; simp_all
  clear hA0 hval0 hA1
  obtain ⟨x0, rfl, rfl, rfl, w0⟩ := open_int Try.underlying3 (hval 0 3 v0 rfl rfl) h0
  refine (law x0 W w0).mono fun e W' ⟨he, hb⟩ => ?_
  subst he
  exact ⟨_, rfl, post_of_below (pv := []) hW' (fun _ _ _ => trodAll_cons_mk (shut_bool Try.underlying4 _) trodAll_mk0)
    (fun sp hs => trodAll_stays hb (readable_all (by simp)) hA hlt sp (fun x hx => hs x (List.mem_append_left _ hx))) (fun _ _ => rfl) rfl hb (ok_one (by kernel_rfl) rfl (okWide_bool_mk Try.underlying4 _))⟩

/-- The statement. -/
theorem proved : Rows.FnPowerSaid :=
  OpenClaim.holds_of_wide 8 Try.f8 rfl rfl rfl rfl rfl rfl rfl ⟨rfl, rfl, rfl, rfl, rfl⟩ rfl rfl rfl rfl rfl (by as_aux_lemma => kernel_rfl) Try.func8
    (closed_mk (P := Try.prog) (by as_aux_lemma => kernel_rfl) all_laid all_rowed (by as_aux_lemma => kernel_rfl) rfl rfl all_stops rfl all_knobs
      (by as_aux_lemma => kernel_rfl) (by as_aux_lemma => kernel_rfl) (by as_aux_lemma => kernel_rfl) (by as_aux_lemma => kernel_rfl)
      (by as_aux_lemma => kernel_rfl) (by as_aux_lemma => kernel_rfl) (by as_aux_lemma => kernel_rfl) (by as_aux_lemma => kernel_rfl) (by as_aux_lemma => kernel_rfl)
      rfl (by as_aux_lemma => kernel_rfl) (by as_aux_lemma => kernel_rfl) (by as_aux_lemma => kernel_rfl)
      (by as_aux_lemma => kernel_rfl) rfl all_heard may_enter rfl lifts_final rfl make_cut rfl rfl rfl (by as_aux_lemma => kernel_rfl) (by as_aux_lemma => kernel_rfl))
    (of_decide_eq_true (by as_aux_lemma => kernel_rfl)) (by as_aux_lemma => (unfold Func.isWrapper; first | (rw [if_pos (by decide +kernel)]; kernel_rfl) | (rw [if_neg (by decide +kernel)]; exact ⟨rfl, rfl⟩)))
    (fun os started H enc _ => lifted os started H enc)
end Go.Proofs.Ytcamaikogengoaa.fnPower
