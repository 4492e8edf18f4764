/- The frame that every law's proof shares: its arguments opened as arrays, read again behind the call where nothing that was there has turned. (Section 9 of the guide's page on small lemmas is turned to this program.) -/
import Derived.Test.YtcamaikogengoaaWords
import Derived.ProofKit
import Derived.OpenShut
import Derived.Lib.RowBridge
import Derived.ChangeSame
import Derived.Deep.Slices
import Derived.Deep.Fields
namespace Go.Proofs.Ytcamaikogengoaa
set_option linter.unusedVariables false
set_option linter.unusedSimpArgs false
set_option linter.unusedSectionVars false
open Go.RowKit Go.WideShapes Go.ChangeShapes Go.ChangeAt

theorem own : ownKnob Try.prog.godebug = none := by kernel_rfl
theorem cells3 : Try.prog.cellsOf 3 = 1 := by kernel_rfl
theorem cells50 : Try.prog.cellsOf 50 = 2 := by kernel_rfl
theorem cells78 : Try.prog.cellsOf 78 = 2 := by kernel_rfl

def readable (ts : List TypeId) : Prop := ∀ t ∈ ts, Try.prog.readableRec t = true ∧ t < Try.prog.types.size
theorem read3 : Try.prog.readableRec 3 = true ∧ 3 < Try.prog.types.size := ⟨by kernel_rfl, of_decide_eq_true (by kernel_rfl)⟩
theorem read22 : Try.prog.readableRec 22 = true ∧ 22 < Try.prog.types.size := ⟨by kernel_rfl, of_decide_eq_true (by kernel_rfl)⟩
theorem read27 : Try.prog.readableRec 27 = true ∧ 27 < Try.prog.types.size := ⟨by kernel_rfl, of_decide_eq_true (by kernel_rfl)⟩
theorem read39 : Try.prog.readableRec 39 = true ∧ 39 < Try.prog.types.size := ⟨by kernel_rfl, of_decide_eq_true (by kernel_rfl)⟩
theorem readable_all {ts : List TypeId} (h : ∀ t ∈ ts, t = 3 ∨ t = 22 ∨ t = 27 ∨ t = 39) : readable ts := fun t ht => by
  rcases h t ht with rfl | rfl | rfl | rfl
  · exact read3
  · exact read22
  · exact read27
  · exact read39

section
variable {H : Type} {enc : TypeId × Value → H}
/-- The arguments read as they did where below the old heap's size nothing has turned. -/
theorem trodAll_stays {W W' : World} (hb : RowKit.Below W.heap.size W W') : ∀ {ts : List TypeId} {vs : List Value} {ds : List (DataW H)} {ps : List MemPlace}, readable ts →
    DataW.TrodAll enc Try.prog W 0 (fun _ => true) true ts vs ds ps → (∀ x ∈ ps, x.block < W.heap.size) → ∀ sp : Nat → Bool, (∀ x ∈ ps, sp x.block = true) → DataW.TrodAll enc Try.prog W' 0 sp true ts vs ds ps := by
  intro ts
  induction ts with
  | nil =>
    intro vs ds ps _ h _ sp _
    obtain ⟨rfl, rfl, rfl⟩ := trodAll_nil h
    exact trodAll_mk0
  | cons t ts ih =>
    intro vs ds ps hr h hlt sp hs
    obtain ⟨v, vs', d, ds', p, q, rfl, rfl, rfl, h0, h1⟩ := trodAll_cons h
    have r := hr t (List.mem_cons_self ..)
    exact trodAll_cons_mk (WideElems.Trod_stays laidOut r.1 r.2 h0 (fun x hx => hb.same (hlt x (List.mem_append_left _ hx))) (fun x hx => hs x (List.mem_append_left _ hx)))
      (ih (fun t ht => hr t (List.mem_cons_of_mem _ ht)) h1 (fun x hx => hlt x (List.mem_append_right _ hx)) sp (fun x hx => hs x (List.mem_append_right _ hx)))

theorem post_of_below {P : Program} {f : Func} {s : ChangeSpec} {apart fresh handsOn again : Bool} {W W' : World} {args : Array Value} {v : Value} {ds gs : List (DataW H)} {before pa pv : List MemPlace}
    (hW : DataW.Whole enc P f.params.toList s.vars apart W args.toList ds gs before)
    (hres : ∀ (b : Nat) (sp : Nat → Bool) (hd : Bool), DataW.TrodAll enc P W' b sp hd f.resultTypes.toList (v.resultList f.resultTypes.size) (s.fn H (ds ++ gs)).results [])
    (hargs : ∀ sp : Nat → Bool, (∀ p ∈ before, sp p.block = true) → DataW.TrodAll enc P W' 0 sp true f.params.toList args.toList (s.fn H (ds ++ gs)).args pa)
    (hvars : ∀ sp : Nat → Bool, (∀ p ∈ before, sp p.block = true) → DataW.TrodVars enc P W' sp s.vars (s.fn H (ds ++ gs)).vars pv)
    (hps : before = pa ++ pv) (hb : RowKit.Below W.heap.size W W')
    (hok : ∀ (j : Nat) (t : TypeId) (r : Value), f.resultTypes[j]? = some t → (v.resultList f.resultTypes.size)[j]? = some r → Value.okWide P W' .any 0 t r) :
    s.post enc P f apart fresh handsOn again W args v W' := by
  have hlt : ∀ p ∈ before, p.block < W.heap.size := fun p hp => hW.lt p hp
  have hold : ∀ p ∈ before, (fun b => decide (b < W.heap.size)) p.block = true := fun p hp => by simpa using hlt p hp
  refine ⟨ds, gs, before, [], pa, pv, hW, hres _ _ _, hargs _ hold, hvars _ hold, World.keptBut_mono (fun p hp => ⟨hp, ?_⟩) (hb.frame (· ∈ before)), fun _ => ?_⟩
  · rw [hps, List.mem_append] at hp
    exact Or.inr hp
  · obtain ⟨_, _, _, _, _, hz, hn⟩ := hW
    refine ⟨hok, _, _, ([] ++ pa) ++ pv, ⟨[] ++ pa, pv, trodAll_append (hargs _ (fun _ _ => rfl)) (hres _ _ _), hvars _ (fun _ _ => rfl), rfl, ?_, ?_⟩, ?_⟩
    · intro b off hp
      have hin : MemPlace.cell b off ∈ before := by rw [hps]; simpa using hp
      rw [hb.frozen (hlt _ hin)]
      exact hz b off hin
    · intro ha
      have := hn ha
      rw [hps] at this
      simpa using this
    · intro p hp _
      rw [hps]
      simpa using hp

set_option maxRecDepth 100000 in
/-- A list of numbers that came in: an array that the memory holds. -/
theorem ints_open {W : World} {r : Reach} {base : Nat} {v : Value} {d : DataW H} {p : List MemPlace} (hv : Value.okWide Try.prog W r base 27 v) (h : DataW.Trod enc Try.prog W 0 (fun _ => true) true 27 v d p)
    (hlt : ∀ x ∈ p, x.block < W.heap.size) (hfz : ∀ b off, MemPlace.cell b off ∈ p → W.frozen? ⟨b, off, none⟩ = false) : ∃ D : Array Int, SlAt HI 0 W v D ∧ D.size ≤ maxLen := by
  obtain ⟨a0, len, cap, rfl⟩ := okWide_slice Try.underlying27 hv
  obtain ⟨fuel, hf⟩ := h
  rcases open_ints Try.underlying27 Try.underlying3 cells3 hf with ⟨hcs, _⟩ | ⟨a, len', cap', zs, hcs, _, hl, hm, hz, hx, hcell, _⟩
  · simp only [Value.cells, List.cons.injEq, Value.slice.injEq, and_true] at hcs
    obtain ⟨rfl, rfl, rfl⟩ := hcs
    exact ⟨#[], SlAt.none_ rfl _ _ _ (Nat.zero_le _), by simp⟩
  · simp only [Value.cells, List.cons.injEq, Value.slice.injEq, and_true] at hcs
    obtain ⟨rfl, rfl, rfl⟩ := hcs
    simp only [if_true] at hz
    have hlen : (zs.take len).toArray.size = len := by simp; omega
    refine ⟨(zs.take len).toArray, ⟨some a, cap, by rw [hlen], by rw [hlen]; exact ⟨hl, hm⟩, fun h0 => ?_⟩, by rw [hlen]; omega⟩
    rw [hlen] at h0
    obtain ⟨b, off, rfl, hc⟩ := ints_at hcell (by omega)
    injection hx with hx1 hx2
    have hin : ∀ j, j < zs.length → MemPlace.cell b (off + j) ∈ p := fun j hj => by
      rw [hx2]
      simp only [MemPlace.row, List.mem_map, List.mem_range]
      exact ⟨j, hj, by simp⟩
    exact ⟨b, off, rfl, Nat.zero_le _, by have := hlt _ (hin 0 (by omega)); simpa [MemPlace.block] using this, Lib.holds_of_ints (by omega) hc fun j hj => hfz b (off + j) (hin j (by omega))⟩
end

end Go.Proofs.Ytcamaikogengoaa
