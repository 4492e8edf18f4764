/- Items in memory: two cells each, read cell by cell; a list of items that came in is an array that the memory holds; a part of a slice of items. -/
import Derived.Test.YtcamaikogengoaaFrame
import Derived.Test.YtcamaikogengoaaIntCut
namespace Go.Proofs.Ytcamaikogengoaa
set_option linter.unusedVariables false
set_option linter.unusedSimpArgs false
set_option linter.unusedSectionVars false
open Go.RowKit Go.Sort Go.WideShapes Go.ChangeShapes Go.ChangeAt Go.Deep

theorem enc_at (x : It) : (encIt x)[0]! = Value.int .i64 x.1 ∧ (encIt x)[1]! = Value.int .i64 x.2 := ⟨rfl, rfl⟩

theorem HT.fst {w : World} {b off : Nat} {D : Array It} (h : HT w b off D) {i : Nat} (hi : i < D.size) : w.cell? ⟨b, off + i * 2, none⟩ = some (.int .i64 D[i]!.1) ∧ w.frozen? ⟨b, off + i * 2, none⟩ = false :=
  HoldsK.cell (c := 0) h hi (by omega)
theorem HT.snd {w : World} {b off : Nat} {D : Array It} (h : HT w b off D) {i : Nat} (hi : i < D.size) : w.cell? ⟨b, off + i * 2 + 1, none⟩ = some (.int .i64 D[i]!.2) ∧ w.frozen? ⟨b, off + i * 2 + 1, none⟩ = false :=
  HoldsK.cell (c := 1) h hi (by omega)

theorem HT.mk {w : World} {b off : Nat} {D : Array It} (h : ∀ i, i < D.size → w.cell? ⟨b, off + i * 2, none⟩ = some (.int .i64 D[i]!.1) ∧ w.cell? ⟨b, off + (i * 2 + 1), none⟩ = some (.int .i64 D[i]!.2))
    (hf : ∀ t, t < D.size * 2 → w.frozen? ⟨b, off + t, none⟩ = false) : HT w b off D := fun t ht => by
  have ht2 : t < D.size * 2 := by simpa using ht
  refine ⟨?_, hf t ht2⟩
  rw [get_flatK _ _ _ _ ht2]
  have g := h (t / 2) (by omega)
  rcases Nat.mod_two_eq_zero_or_one t with e | e
  · rw [e]
    have e2 : t = t / 2 * 2 := by omega
    rw [(enc_at _).1]
    exact (congrArg (fun q => w.cell? ⟨b, off + q, none⟩) e2).trans g.1
  · rw [e]
    have e2 : t = t / 2 * 2 + 1 := by omega
    rw [(enc_at _).2]
    exact (congrArg (fun q => w.cell? ⟨b, off + q, none⟩) e2).trans g.2

section
variable {H : Type} {enc : TypeId × Value → H} {P : Program} {w : World} {base : Nat} {spare : Nat → Bool} {held : Bool}
/-- An argument that is a slice of structs of one-cell fields, opened to cells. (Section 1 of the guide's page on structs.) -/
theorem open_slice_fields {t e : TypeId} {fs : Array Field} {fuel : Nat} {cs : List Value} {x : DataW H × List MemPlace} (ht : P.underlying t = some (.slice e)) (he : P.underlying e = some (.struct fs))
    (hone : oneCellFields P fs = true) (hC : P.cellsOf e = fs.size) (h : DataW.trod enc P w base spare held fuel t cs = some x) :
    (cs = [.slice none 0 0] ∧ x = (.nil, [])) ∨
    ∃ (a : Addr) (len cap m : Nat) (D : Nat → DataW H) (Pl : Nat → List MemPlace), cs = [.slice (some a) len cap] ∧ base ≤ a.block ∧ len ≤ cap ∧ cap ≤ maxLen ∧ m = (if spare a.block then cap else len) ∧
      x = (.slice ((List.range len).map D) ((List.range (m - len)).map fun j => D (len + j)), MemPlace.row a (m * fs.size) ++ (List.range m).flatMap Pl) ∧
      ∀ i, i < m → ∃ (ys : List (DataW H × List MemPlace)) (n : Nat), D i = .agg (ys.map (·.1)) ∧ Pl i = ys.flatMap (·.2) ∧ ys.length = fs.size ∧
        ∀ (j : Nat) (f : Field), fs[j]? = some f → ∃ (v : Value) (y : DataW H × List MemPlace), w.cell? (a.add (i * fs.size + j)) = some v ∧ ys[j]? = some y ∧ DataW.trod enc P w base spare held n f.type [v] = some y := by
  rcases open_slice ht h with h0 | ⟨a, len, cap, m, n, D, Pl, hcs, hb, hl, hm, hmm, hx, hi⟩
  · exact .inl h0
  · refine .inr ⟨a, len, cap, m, D, Pl, hcs, hb, hl, hm, hmm, by rw [hC] at hx; exact hx, fun i him => ?_⟩
    obtain ⟨cs', hc, ht'⟩ := hi i him
    rw [hC] at hc
    obtain ⟨ys, n', hn', hy, hlen, hyl, hf⟩ := DataW.trod_struct he ht'
    obtain ⟨_, hcl, hat⟩ := World.cells?_some hc
    simp only [Prod.mk.injEq] at hy
    refine ⟨ys, n', hy.1, hy.2, hyl, fun j f hj => ?_⟩
    obtain ⟨ho, hk⟩ := hone_of hone j f hj
    have hjl : j < fs.size := (Array.getElem?_eq_some_iff.1 hj).1
    have hcell := hat j hjl
    have hv : cs'[j]? = some (cs'[j]'(by omega)) := List.getElem?_eq_getElem (by omega)
    have h1 := hf j f hj
    rw [ho, hk] at h1
    have hone' : (cs'.drop j).take 1 = [cs'[j]'(by omega)] := by
      rw [List.drop_eq_getElem_cons (by omega)]
      rfl
    rw [hone'] at h1
    have hys : ys[j]? = some (ys[j]'(by omega)) := List.getElem?_eq_getElem (by omega)
    refine ⟨_, _, ?_, hys, h1.trans hys⟩
    rw [← Go.Deep.add_add, hcell, hv]
end

section
variable {H : Type} {enc : TypeId × Value → H}
set_option maxRecDepth 100000 in
/-- A list of items that came in: an array that the memory holds. -/
theorem items_open {W : World} {r : Reach} {base : Nat} {v : Value} {d : DataW H} {p : List MemPlace} (hv : Value.okWide Try.prog W r base 39 v) (h : DataW.Trod enc Try.prog W 0 (fun _ => true) true 39 v d p)
    (hlt : ∀ x ∈ p, x.block < W.heap.size) (hfz : ∀ b off, MemPlace.cell b off ∈ p → W.frozen? ⟨b, off, none⟩ = false) : ∃ D : Array It, SlAt HT 0 W v D ∧ D.size ≤ maxLen := by
  obtain ⟨a0, len, cap, rfl⟩ := okWide_slice Try.underlying39 hv
  obtain ⟨fuel, hf⟩ := h
  rcases open_slice_fields Try.underlying39 Try.underlying50 (by kernel_rfl) cells50 hf with ⟨hcs, _⟩ | ⟨a, len', cap', m, D0, Pl, hcs, _, hl, hm, hmm, hx, hi⟩
  · simp only [Value.cells, List.cons.injEq, Value.slice.injEq, and_true] at hcs
    obtain ⟨rfl, rfl, rfl⟩ := hcs
    exact ⟨#[], SlAt.none_ rfl _ _ _ (Nat.zero_le _), by simp⟩
  · simp only [Value.cells, List.cons.injEq, Value.slice.injEq, and_true] at hcs
    obtain ⟨rfl, rfl, rfl⟩ := hcs
    simp only [if_true] at hmm
    subst hmm
    have hex : ∀ i, i < m → ∃ x : It, W.cell? (a.add (i * 2 + 0)) = some (.int .i64 x.1) ∧ W.cell? (a.add (i * 2 + 1)) = some (.int .i64 x.2) := fun i him => by
      obtain ⟨ys, n, _, _, _, hall⟩ := hi i him
      obtain ⟨v0, y0, c0, _, t0⟩ := hall 0 _ rfl
      obtain ⟨v1, y1, c1, _, t1⟩ := hall 1 _ rfl
      obtain ⟨z0, e0, _, _⟩ := DataW.trod_int Try.underlying3 t0
      obtain ⟨z1, e1, _, _⟩ := DataW.trod_int Try.underlying3 t1
      injection e0 with e0 _
      injection e1 with e1 _
      subst e0; subst e1
      exact ⟨(z0, z1), c0, c1⟩
    let f : Nat → It := fun i => if h : i < m then (hex i h).choose else default
    have hfs : ∀ i (h : i < m), W.cell? (a.add (i * 2 + 0)) = some (.int .i64 (f i).1) ∧ W.cell? (a.add (i * 2 + 1)) = some (.int .i64 (f i).2) := fun i h => by
      show W.cell? (a.add (i * 2 + 0)) = some (.int .i64 (if h : i < m then (hex i h).choose else default).1) ∧ W.cell? (a.add (i * 2 + 1)) = some (.int .i64 (if h : i < m then (hex i h).choose else default).2)
      rw [dif_pos h]
      exact (hex i h).choose_spec
    have hsz : ((Array.range len).map f).size = len := by simp
    refine ⟨(Array.range len).map f, ⟨some a, m, by rw [hsz], by rw [hsz]; exact ⟨hl, hm⟩, fun h0 => ?_⟩, by rw [hsz]; omega⟩
    rw [hsz] at h0
    obtain ⟨b, off, spot⟩ := a
    have hspot : spot = none := by simpa [Addr.add] using World.cell?_spot (hfs 0 (by omega)).1
    subst hspot
    injection hx with hx1 hx2
    have hin : ∀ j, j < m * 2 → MemPlace.cell b (off + j) ∈ p := fun j hj => by
      rw [hx2, List.mem_append]
      left
      simp only [MemPlace.row, List.mem_map, List.mem_range]
      exact ⟨j, hj, by simp⟩
    refine ⟨b, off, rfl, Nat.zero_le _, by have := hlt _ (hin 0 (by omega)); simpa [MemPlace.block] using this, HT.mk (fun i h => ?_) fun t ht => hfz b (off + t) (hin t (by rw [hsz] at ht; omega))⟩
    rw [hsz] at h
    have e : ((Array.range len).map f)[i]! = f i := by
      rw [getElem!_pos _ i (by simpa using h)]
      simp
    rw [e]
    have g := hfs i (by omega)
    rw [Go.WideShapes.add_plain, Go.WideShapes.add_plain] at g
    exact g
end

theorem size50 : ∀ w, (sizeOf 50).run Try.prog w = .ok 2 w := fun _ => by kernel_rfl
theorem size78 : ∀ w, (sizeOf 78).run Try.prog w = .ok 2 w := fun _ => by kernel_rfl

theorem part_sizeT (D : Array It) {a b : Nat} (hb : b ≤ D.size) : (D.extract a b).size = b - a := by simp; omega

/-- A part reads as the list's part. -/
theorem SlAt.partT {B : Nat} {w : World} {A : Option Addr} {cap : Nat} {D : Array It} (h : SlAt HT B w (.slice A D.size cap) D) {a b : Nat} (hab : a ≤ b) (hb : b ≤ D.size) :
    SlAt HT B w (.slice (cutA A cap a 2) (b - a) (cap - a)) (D.extract a b) := by
  obtain ⟨A', cap', e, hcp, hh⟩ := h
  injection e with e1 e2 e3
  subst e1; subst e3
  refine ⟨cutA A cap a 2, cap - a, by rw [part_sizeT D hb], by rw [part_sizeT D hb]; omega, fun h0 => ?_⟩
  rw [part_sizeT D hb] at h0
  obtain ⟨bk, off, rfl, g1, g2, hH⟩ := hh (by omega)
  refine ⟨bk, off + a * 2, ?_, g1, g2, HT.mk (fun i hi => ?_) fun t ht => ?_⟩
  · unfold cutA
    rw [if_neg (by omega)]
    simp [add_plain]
  · rw [part_sizeT D hb] at hi
    rw [part_at D hb hi]
    have g := HT.fst hH (i := a + i) (by omega)
    have g' := HT.snd hH (i := a + i) (by omega)
    rw [show off + a * 2 + i * 2 = off + (a + i) * 2 from by omega, show off + a * 2 + (i * 2 + 1) = off + (a + i) * 2 + 1 from by omega]
    exact ⟨g.1, g'.1⟩
  · rw [part_sizeT D hb] at ht
    have := (hH (a * 2 + t) (by rw [size_flatK]; omega)).2
    rwa [← Nat.add_assoc] at this
end Go.Proofs.Ytcamaikogengoaa
