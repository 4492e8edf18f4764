/- Words on memory for this program's walks: a slice value that reads as an array, in memory from a block on; it is kept where nothing that was there turns; what a call made in new memory. (Section 'append' turns the guide's page on words for memory to this program.) -/
import Derived.Test.YtcamaikogengoaaRows
import Derived.Sort.Walk13a
import Derived.Shelf.SlSortFuncK.RowK2
import Derived.Below
import Derived.Laws.OwnMore
import Derived.Deep.AppendLies
import Derived.Deep.Draws
import Derived.Maps.AppendAt
import Derived.RegionTactic
import Derived.OwnWalk
import Derived.WalkKit
namespace Go.Proofs.Ytcamaikogengoaa
set_option linter.unusedVariables false
set_option linter.unusedSimpArgs false
set_option linter.unusedSectionVars false
open Go.RowKit Go.Sort

/-- A slice's value v reads as d: its cells lie in a block from B on. -/
def SlAt {α : Type} (HH : World → Nat → Nat → Array α → Prop) (B : Nat) (W : World) (v : Value) (d : Array α) : Prop :=
  ∃ A cap, v = .slice A d.size cap ∧ (d.size ≤ cap ∧ cap ≤ maxLen) ∧ (0 < d.size → ∃ b off, A = some ⟨b, off, none⟩ ∧ B ≤ b ∧ b < W.heap.size ∧ HH W b off d)

/-- Numbers. -/
abbrev HI (W : World) (b off : Nat) (d : Array Int) : Prop := Holds (Value.int .i64) W b off d
abbrev It := Int × Int
def encIt (x : It) : List Value := [.int .i64 x.1, .int .i64 x.2]
/-- Items: two cells each. -/
abbrev HT (W : World) (b off : Nat) (d : Array It) : Prop := HoldsK encIt 2 W b off d

theorem len_encIt (x : It) : (encIt x).length = 2 := rfl

theorem holds_block {α : Type} [Inhabited α] {enc : α → Value} {W W' : World} {b off : Nat} {d : Array α} (h : Holds enc W b off d) (e : W'.heap[b]? = W.heap[b]?) : Holds enc W' b off d := fun j hj => by
  obtain ⟨h1, h2⟩ := h j hj
  exact ⟨(World.cell?_of_block (w := W) (a := ⟨b, off + j, none⟩) e).trans h1, (World.frozen?_of_block (w := W) (a := ⟨b, off + j, none⟩) e).trans h2⟩

/-- What a reading hangs on: its block alone. -/
def ByBlock {α : Type} (HH : World → Nat → Nat → Array α → Prop) : Prop := ∀ {W W' : World} {b off : Nat} {d : Array α}, HH W b off d → W'.heap[b]? = W.heap[b]? → HH W' b off d
theorem byI : ByBlock HI := fun h e => holds_block h e
theorem byT : ByBlock HT := fun h e => holds_block h e

section
variable {α : Type} {HH : World → Nat → Nat → Array α → Prop} {B B' : Nat} {W W' : World} {v : Value} {d : Array α}
theorem SlAt.mono (h : SlAt HH B W v d) (hB : B' ≤ B) : SlAt HH B' W v d := by
  obtain ⟨A, cap, rfl, hcp, h⟩ := h
  exact ⟨A, cap, rfl, hcp, fun h0 => by obtain ⟨b, off, e, h1, h2, h3⟩ := h h0; exact ⟨b, off, e, by omega, h2, h3⟩⟩
theorem SlAt.below (by_ : ByBlock HH) (h : SlAt HH B W v d) {C : Nat} (hb : RowKit.Below C W W') (hC : W.heap.size ≤ C) : SlAt HH B W' v d := by
  obtain ⟨A, cap, rfl, hcp, h⟩ := h
  refine ⟨A, cap, rfl, hcp, fun h0 => ?_⟩
  obtain ⟨b, off, e, h1, h2, h3⟩ := h h0
  exact ⟨b, off, e, h1, Nat.lt_of_lt_of_le h2 hb.size, by_ h3 (hb.block b (by omega))⟩
theorem SlAt.cap (h : SlAt HH B W v d) : d.size ≤ maxLen := by
  obtain ⟨A, cap, rfl, hcp, h⟩ := h
  omega
theorem SlAt.any (h : SlAt HH B W v d) : SlAt HH 0 W v d := h.mono (Nat.zero_le _)
theorem SlAt.none_ (h : d.size = 0) (B : Nat) (W : World) (A : Option Addr) {cap : Nat} (hcp : cap ≤ maxLen) : SlAt HH B W (.slice A 0 cap) d := ⟨A, cap, by rw [h], ⟨by omega, hcp⟩, fun h0 => by omega⟩
end

theorem keepI {B : Nat} {W W' : World} {v : Value} {d : Array Int} (h : SlAt HI B W v d) (hb : RowKit.Below W.heap.size W W') : SlAt HI 0 W' v d := (SlAt.below (HH := HI) byI h hb (Nat.le_refl _)).any
theorem keepT {B : Nat} {W W' : World} {v : Value} {d : Array It} (h : SlAt HT B W v d) (hb : RowKit.Below W.heap.size W W') : SlAt HT 0 W' v d := (SlAt.below (HH := HT) byT h hb (Nat.le_refl _)).any

theorem below_ahead (W : World) (n : Nat) : RowKit.Below (Sort.ahead W n).heap.size W (Sort.ahead W n) := ⟨rfl, rfl, rfl, Nat.le_refl _, fun _ _ => rfl⟩
theorem below_drewN {B : Nat} {a w : World} (h : RowKit.Below B a w) (n : Nat) : RowKit.Below B a (w.drewN n) := ⟨h.os, h.tape, h.output, h.size, h.block⟩

theorem below_grow {B : Nat} {a w : World} (h : RowKit.Below B a w) (hB : B ≤ w.heap.size) (os : Array Obj) : RowKit.Below B a (grow w os) :=
  ⟨h.os, h.tape, h.output, by rw [size_grow]; exact Nat.le_trans h.size (Nat.le_add_right _ _), fun k hk => by rw [heap_grow_old w os (by omega)]; exact h.block k hk⟩

theorem below_mapBlock {B : Nat} {a w : World} (h : RowKit.Below B a w) {b : Nat} (hB : B ≤ b) (f : Array Value → Array Value) : RowKit.Below B a (mapBlock w b f) :=
  ⟨h.os, h.tape, h.output, by simpa [mapBlock] using h.size, fun k hk => by
    rw [← h.block k hk]
    simp [mapBlock, Array.getElem?_modify, show b ≠ k from by omega]⟩

/-- A row that is laid in a block from B on, draws, new blocks: below B nothing turns. -/
theorem at_below {α : Type} [Inhabited α] {enc : α → Value} {W W' : World} {b off B : Nat} {d : Array α} (h : At enc W b off d W') (hb : B ≤ b) (hB : B ≤ W.heap.size) : RowKit.Below B W W' := by
  obtain ⟨n, os, rfl⟩ := h
  have h1 : RowKit.Below B W (Sort.ahead W n) := ⟨rfl, rfl, rfl, Nat.le_refl _, fun _ _ => rfl⟩
  exact below_grow (below_mapBlock h1 hb _) (by rw [show (mapBlock (Sort.ahead W n) b (putCells enc off d)).heap.size = W.heap.size from by simp [mapBlock]]; exact hB) os

theorem at_size_le {α : Type} [Inhabited α] {enc : α → Value} {W W' : World} {b off : Nat} {d : Array α} (h : At enc W b off d W') : W.heap.size ≤ W'.heap.size := by
  obtain ⟨n, os, rfl⟩ := h
  rw [size_grow, size_putRow]; exact Nat.le_add_right _ _

theorem own_caps {W : World} {B : Nat} {e : TypeId} {size n cap g : Nat} {xs : List Value} (h : W.ownsRow B e size (.slice (some ⟨g, 0, none⟩) n cap) n xs) : n ≤ cap ∧ cap ≤ maxLen := by
  rcases h.2 with ⟨h', _⟩ | ⟨g', cap', cur, h', _, _, h1, h2, _⟩
  · simp at h'
  · injection h' with _ _ e
    subst e
    exact ⟨h1, h2⟩

/-- A row of the call's own as a slice that reads: numbers. -/
theorem ints_of_own {W : World} {B : Nat} {e : TypeId} {v : Value} {n : Nat} {d : Array Int} (h : W.ownsRow B e 1 v n (d.toList.map (Value.int .i64))) : SlAt HI B W v d := by
  have hl : n = d.size := by have := h.1; simp at this; omega
  subst hl
  by_cases h0 : 0 < d.size
  · obtain ⟨g, cap, rfl, hg, hlt⟩ := h.form h0
    refine ⟨_, cap, rfl, own_caps h, fun _ => ⟨g, 0, rfl, hg, hlt, fun j hj => ?_⟩⟩
    refine ⟨?_, h.frozenAt _⟩
    rw [h.cellAt (0 + j) (by omega)]
    simp [getElem!_pos d j hj, hj]
  · have hz : d.size = 0 := by omega
    rcases h.2 with ⟨rfl, _⟩ | ⟨g, cap, cur, rfl, _, _, h1, h2, _⟩
    · exact ⟨none, 0, by rw [hz], ⟨by omega, Nat.zero_le _⟩, fun h => absurd h h0⟩
    · exact ⟨_, cap, rfl, ⟨h1, h2⟩, fun h => absurd h h0⟩

theorem flat_get (d : Array It) (t : Nat) : (d.toList.flatMap encIt)[t]? = if t < d.size * 2 then some (flatK encIt 2 d)[t]! else none := by
  have key : ∀ (l : List It) (t : Nat), (l.flatMap encIt)[t]? = (l[t / 2]?).map fun x => if t % 2 = 0 then Value.int .i64 x.1 else Value.int .i64 x.2 := by
    intro l
    induction l with
    | nil => intro t; simp
    | cons x l ih =>
      intro t
      rw [List.flatMap_cons]
      match t with
      | 0 => simp [encIt]
      | 1 => simp [encIt]
      | t + 2 =>
        rw [show (encIt x ++ l.flatMap encIt)[t + 2]? = (l.flatMap encIt)[t]? from by simp [encIt], ih]
        have e1 : (t + 2) / 2 = t / 2 + 1 := by omega
        have e2 : (t + 2) % 2 = t % 2 := by omega
        rw [e1, e2]
        simp
  rw [key]
  by_cases h : t < d.size * 2
  · have h1 : t / 2 < d.size := by omega
    rw [if_pos h, get_flatK encIt 2 d t h]
    have e : d.toList[t / 2]? = some d[t / 2]! := by
      rw [getElem!_pos d _ h1]
      simp [h1]
    rw [e]
    rcases Nat.mod_two_eq_zero_or_one t with h2 | h2 <;> simp [h2, encIt]
  · have : d.toList[t / 2]? = none := by simp; omega
    rw [if_neg h, this]; rfl

theorem len_flat (l : List It) : (l.flatMap encIt).length = l.length * 2 := by
  induction l with
  | nil => rfl
  | cons x l ih => simp only [List.flatMap_cons, List.length_append, ih, len_encIt, List.length_cons]; omega

/-- A row of the call's own as a slice that reads: items. -/
theorem items_of_own {W : World} {B : Nat} {e : TypeId} {v : Value} {n : Nat} {d : Array It} (h : W.ownsRow B e 2 v n (d.toList.flatMap encIt)) : SlAt HT B W v d := by
  have hl : n = d.size := by have := h.1; rw [len_flat] at this; simp at this; omega
  subst hl
  by_cases h0 : 0 < d.size
  · obtain ⟨g, cap, rfl, hg, hlt⟩ := h.form h0
    refine ⟨_, cap, rfl, own_caps h, fun _ => ⟨g, 0, rfl, hg, hlt, fun j hj => ?_⟩⟩
    have hj2 : j < d.size * 2 := by simpa using hj
    refine ⟨?_, h.frozenAt _⟩
    rw [h.cellAt (0 + j) (by omega), Nat.zero_add, flat_get, if_pos hj2]
    rfl
  · have hz : d.size = 0 := by omega
    rcases h.2 with ⟨rfl, _⟩ | ⟨g, cap, cur, rfl, _, _, h1, h2, _⟩
    · exact ⟨none, 0, by rw [hz], ⟨by omega, Nat.zero_le _⟩, fun h => absurd h h0⟩
    · exact ⟨_, cap, rfl, ⟨h1, h2⟩, fun h => absurd h h0⟩

/-! ### append onto a row of the call's own, the source nil, empty or not -/
def Reads (w : World) (B size : Nat) (A : Option Addr) (n : Nat) (xs : List Value) : Prop :=
  xs.length = n * size ∧ (0 < n → ∃ ad, A = some ad ∧ ad.block < B ∧ ∀ j u, xs[j]? = some u → w.cell? (ad.add j) = some u)

theorem add_plain (b off j : Nat) : (⟨b, off, none⟩ : Addr).add j = ⟨b, off + j, none⟩ := by
  unfold Addr.add
  split
  · rename_i h; subst h; rfl
  · rfl

theorem reads_ints {W : World} {B C : Nat} {A : Option Addr} {n cap : Nat} {d : Array Int} (h : SlAt HI B W (.slice A n cap) d) (hC : W.heap.size ≤ C) : Reads W C 1 A n (d.toList.map (Value.int .i64)) := by
  obtain ⟨A', cap', e, hcp, h⟩ := h
  injection e with e1 e2 e3
  subst e1; subst e2; subst e3
  refine ⟨by simp, fun h0 => ?_⟩
  obtain ⟨b, off, rfl, _, hlt, hh⟩ := h h0
  refine ⟨_, rfl, by show b < C; omega, fun j u hu => ?_⟩
  have hj : j < d.size := by
    have := (List.getElem?_eq_some_iff.1 hu).1
    simpa using this
  rw [add_plain, (hh j hj).1, ← hu]
  simp [getElem!_pos d j hj, hj]

theorem reads_items {W : World} {B C : Nat} {A : Option Addr} {n cap : Nat} {d : Array It} (h : SlAt HT B W (.slice A n cap) d) (hC : W.heap.size ≤ C) : Reads W C 2 A n (d.toList.flatMap encIt) := by
  obtain ⟨A', cap', e, hcp, h⟩ := h
  injection e with e1 e2 e3
  subst e1; subst e2; subst e3
  refine ⟨by rw [len_flat]; simp, fun h0 => ?_⟩
  obtain ⟨b, off, rfl, _, hlt, hh⟩ := h h0
  refine ⟨_, rfl, by show b < C; omega, fun j u hu => ?_⟩
  rw [flat_get] at hu
  split at hu
  · rename_i hj
    have := (hh j (by rw [size_flatK]; exact hj)).1
    rw [add_plain, this]
    exact hu
  · cases hu

section
variable {P : Program} (w : World)

theorem run_append_of_nil (base : Nat) (t ty e : TypeId) (i : TypeInfo) (size : Nat) (ht : P.underlying t = some (.slice e)) (hi : P.info? e = some i)
    (v : Value) (n : Nat) (xs : List Value) (hown : w.ownsRow base e size v n xs) (c : Nat) : (Builtin.append_ #[t, t] ty #[v, .slice none 0 c]).run P w = .ok v w := by
  rcases hown.2 with ⟨rfl, rfl⟩ | ⟨g, cap, cur, rfl, _, _, hnc, _⟩
  · simp [Builtin.append_, run_underlying ht, sizeOf, typeInfo, hi, Builtin.lenOf, Builtin.firstCells]
  · simp [Builtin.append_, run_underlying ht, sizeOf, typeInfo, hi, Builtin.lenOf, Builtin.firstCells, hnc, storeCells]

theorem run_append_any (base : Nat) (t ty e : TypeId) (i : TypeInfo) (z : Value) (size bytes : Nat) (ht : P.underlying t = some (.slice e)) (hi : P.info? e = some i) (hz : i.zero = some z)
    (hsize : i.size = size) (hby : i.bytes = bytes) (hzs : z.cells.size = size) (hsz : 0 < size)
    (v : Value) (n : Nat) (xs : List Value) (hown : w.ownsRow base e size v n xs)
    (B : Nat) (A : Option Addr) (m c : Nat) (news : List Value) (hr : Reads w B size A m news) (h1 : ∀ u ∈ news, u.oneCell' = true)
    (h63 : n + m ≤ maxLen) (hbytes : (n + m) * bytes ≤ 140737488355328) (hbase : base ≤ w.heap.size) :
    ∃ v' w', (Builtin.append_ #[t, t] ty #[v, .slice A m c]).run P w = .ok v' w' ∧ w'.ownsRow base e size v' (n + m) (xs ++ news) ∧ w.grownBy w' v.ownBlock ∧
      (v'.ownBlock = v.ownBlock ∨ v'.ownBlock = some w.heap.size) := by
  rcases A with _ | ad
  · have hm : m = 0 := by
      rcases Nat.eq_zero_or_pos m with h0 | h0
      · exact h0
      · obtain ⟨ad, h, _⟩ := hr.2 h0
        cases h
    subst hm
    have hn : news = [] := List.eq_nil_of_length_eq_zero (by simpa using hr.1)
    subst hn
    exact ⟨v, w, run_append_of_nil w base t ty e i size ht hi v n xs hown c, by simpa using hown, World.grownBy.refl w _, .inl rfl⟩
  · have hcells : ∀ j u, news[j]? = some u → w.cell? (ad.add j) = some u := by
      intro j u hu
      rcases Nat.eq_zero_or_pos m with h0 | h0
      · subst h0
        have hn : news = [] := List.eq_nil_of_length_eq_zero (by simpa using hr.1)
        subst hn
        simp at hu
      · obtain ⟨ad', h, _, hc⟩ := hr.2 h0
        injection h with h
        subst h
        exact hc j u hu
    obtain ⟨v', w', hrun, h2, h3, _, h5⟩ := run_append_own_at (P := P) w base t ty e i z size bytes ht hi hz hsize hby hzs hsz v n xs hown ad m c news hr.1 hcells h1 h63 hbytes hbase
    exact ⟨v', w', hrun, h2, h3, h5⟩

theorem wp_append_any {o : Oper} {a : Act} {K : Act → World → Prop} {Q : Exit → Act → World → Prop} (s x : Operand) (t : TypeId)
    (ho : o.op = .call { callee := .builtin .append, args := #[s, x], argTypes := #[t, t] })
    (base : Nat) (e : TypeId) (i : TypeInfo) (z : Value) (size bytes : Nat) (ht : P.underlying t = some (.slice e)) (hi : P.info? e = some i) (hz : i.zero = some z)
    (hsize : i.size = size) (hby : i.bytes = bytes) (hzs : z.cells.size = size) (hsz : 0 < size)
    (v : Value) (n : Nat) (xs : List Value) (hs : a.eval s = v) (hown : w.ownsRow base e size v n xs)
    (B : Nat) (A : Option Addr) (m c : Nat) (news : List Value) (hx : a.eval x = .slice A m c) (hr : Reads w B size A m news) (h1 : ∀ u ∈ news, u.oneCell' = true)
    (h63 : n + m ≤ maxLen) (hbytes : (n + m) * bytes ≤ 140737488355328) (hbase : base ≤ w.heap.size)
    (h : ∀ v' w', w'.ownsRow base e size v' (n + m) (xs ++ news) → w.grownBy w' v.ownBlock → (v'.ownBlock = v.ownBlock ∨ v'.ownBlock = some w.heap.size) → K (a.put o.dst v') w') : o.wp P a w K Q := by
  obtain ⟨v', w', hrun, h2, h3, h4⟩ := run_append_any (P := P) w base t o.type e i z size bytes ht hi hz hsize hby hzs hsz v n xs hown B A m c news hr h1 h63 hbytes hbase
  unfold Oper.wp execOp
  simp only [ho, resolve, invoke, builtin, Sem.run_bind, Sem.run_pure, Result.andThen_ok, List.map_toArray, List.map_cons, List.map_nil, hs, hx, hrun]
  exact h v' w' h2 h3 h4

theorem wpList_append_any {ops : Array Oper} {rest : List Oper} {o : Oper} {a : Act} {Q : Exit → Act → World → Prop} (hgd : o.guard = none) (s x : Operand) (t : TypeId)
    (ho : o.op = .call { callee := .builtin .append, args := #[s, x], argTypes := #[t, t] })
    (base : Nat) (e : TypeId) (i : TypeInfo) (z : Value) (size bytes : Nat) (ht : P.underlying t = some (.slice e)) (hi : P.info? e = some i) (hz : i.zero = some z)
    (hsize : i.size = size) (hby : i.bytes = bytes) (hzs : z.cells.size = size) (hsz : 0 < size)
    (v : Value) (n : Nat) (xs : List Value) (hs : a.eval s = v) (hown : w.ownsRow base e size v n xs)
    (B : Nat) (A : Option Addr) (m c : Nat) (news : List Value) (hx : a.eval x = .slice A m c) (hr : Reads w B size A m news) (h1 : ∀ u ∈ news, u.oneCell' = true)
    (h63 : n + m ≤ maxLen) (hbytes : (n + m) * bytes ≤ 140737488355328) (hbase : base ≤ w.heap.size)
    (h : ∀ v' w', w'.ownsRow base e size v' (n + m) (xs ++ news) → w.grownBy w' v.ownBlock → (v'.ownBlock = v.ownBlock ∨ v'.ownBlock = some w.heap.size) → wpList P ops Q rest (a.put o.dst v') w') : wpList P ops Q (o :: rest) a w :=
  wpList_plain hgd fun _ hK => wp_append_any w s x t ho base e i z size bytes ht hi hz hsize hby hzs hsz v n xs hs hown B A m c news hx hr h1 h63 hbytes hbase fun v' w' h2 h3 h4 => hK _ _ (h v' w' h2 h3 h4)
end

/-! ### This program's types -/
theorem laidOut : laidOutB Try.prog = true := by kernel_rfl
theorem int_info : (Try.prog.info? 3).map (fun i => (i.zero, i.size, i.bytes)) = some (some (.int .i64 0), 1, 8) := by kernel_rfl
theorem item_info : (Try.prog.info? 50).map (fun i => (i.zero, i.size, i.bytes)) = some (some (.agg #[.int .i64 0, .int .i64 0]), 2, 16) := by kernel_rfl
theorem sitem_info : (Try.prog.info? 78).map (fun i => (i.zero, i.size, i.bytes)) = some (some (.agg #[.int .i64 0, .int .i64 0]), 2, 16) := by kernel_rfl

theorem one_ints (l : List Int) : ∀ u ∈ l.map (Value.int .i64), u.oneCell' = true := by
  intro u hu
  obtain ⟨x, _, rfl⟩ := List.mem_map.1 hu
  rfl
theorem one_items (l : List It) : ∀ u ∈ l.flatMap encIt, u.oneCell' = true := by
  intro u hu
  obtain ⟨x, _, hx⟩ := List.mem_flatMap.1 hu
  simp only [encIt, List.mem_cons, List.not_mem_nil, or_false] at hx
  rcases hx with rfl | rfl <;> rfl

end Go.Proofs.Ytcamaikogengoaa
