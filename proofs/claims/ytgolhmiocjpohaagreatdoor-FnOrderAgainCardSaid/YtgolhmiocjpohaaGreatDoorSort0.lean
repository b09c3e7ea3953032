/- sort.Slice's family for a less that lays blocks of its own: the words that its walks share. 'Moved': from a world to one in which the row of indices holds d, the older blocks are as they were, and new ones may lie behind. -/
import Derived.Test.YtgolhmiocjpohaaGreatDoorBase
import Derived.Sort.Defs
import Derived.Sort.WalkA
import Derived.Sort.Lot0
import Derived.Sort.LotA
import Derived.Shelf.GgSortFunc.Small
set_option linter.unusedVariables false
set_option linter.unusedSimpArgs false
namespace Go.Proofs.YtgolhmiocjpohaaGreatDoor
open Go.RowKit Go.Sort

/-- The cells of a row of indices. -/
def natCells (d : Array Nat) : Array Value := d.map fun (n : Nat) => Value.int .i64 (n : Int)

/-- A world behind another one: the row g holds d (n of them, each under m). -/
structure Moved (g n m : Nat) (d : Array Nat) (w w' : World) : Prop where
  row : w'.heap[g]? = some (.cells (natCells d) 3 (0, 0))
  len : d.size = n
  ok : ∀ i, i < n → d[i]! < m
  os : w'.os = w.os
  tape : w'.tape = w.tape
  output : w'.output = w.output
  size : w.heap.size ≤ w'.heap.size
  block : ∀ k, k < w.heap.size → k ≠ g → w'.heap[k]? = w.heap[k]?

section
variable {g n m : Nat} {d d' : Array Nat} {w w' w'' : World}

theorem Moved.lt (h : Moved g n m d w w') : g < w'.heap.size := (Array.getElem?_eq_some_iff.1 h.row).1

theorem Moved.start (hr : w.heap[g]? = some (.cells (natCells d) 3 (0, 0))) (hl : d.size = n) (ho : ∀ i, i < n → d[i]! < m) : Moved g n m d w w :=
  ⟨hr, hl, ho, rfl, rfl, rfl, Nat.le_refl _, fun _ _ _ => rfl⟩

theorem Moved.self (h : Moved g n m d w w') : Moved g n m d w' w' := .start h.row h.len h.ok

theorem Moved.trans (h : Moved g n m d w w') (k : Moved g n m d' w' w'') : Moved g n m d' w w'' :=
  ⟨k.row, k.len, k.ok, k.os.trans h.os, k.tape.trans h.tape, k.output.trans h.output, Nat.le_trans h.size k.size, fun i hi hg => (k.block i (Nat.lt_of_lt_of_le hi h.size) hg).trans (h.block i hi hg)⟩

theorem Moved.below (h : Moved g n m d w w') (b : Below w'.heap.size w' w'') : Moved g n m d w w'' :=
  ⟨(b.block g h.lt).trans h.row, h.len, h.ok, b.os.trans h.os, b.tape.trans h.tape, b.output.trans h.output, Nat.le_trans h.size b.size,
    fun k hk hg => (b.block k (Nat.lt_of_lt_of_le hk h.size)).trans (h.block k hk hg)⟩

theorem Moved.alloc (h : Moved g n m d w w') (o : Obj) : Moved g n m d w (w'.alloc o) := h.below ((Below.refl _ _).alloc (Nat.le_refl _) o)
theorem Moved.drewN (h : Moved g n m d w w') (q : Nat) : Moved g n m d w (w'.drewN q) := h.below (below_drewN (Below.refl _ _) q)

theorem Moved.cell (h : Moved g n m d w w') {b o : Nat} (hb : b < w.heap.size) (hg : b ≠ g) : w'.cell? ⟨b, o, none⟩ = w.cell? ⟨b, o, none⟩ := by
  unfold World.cell?
  simp only [h.block b hb hg]

theorem natCells_get (d : Array Nat) (i : Nat) (hi : i < d.size) : (natCells d)[i]? = some (.int .i64 (d[i]! : Nat)) := by
  simp [natCells, hi, getElem!_pos]

theorem row_cell {w : World} (hr : w.heap[g]? = some (.cells (natCells d) 3 (0, 0))) (i : Nat) (hi : i < d.size) : w.cell? ⟨g, i, none⟩ = some (.int .i64 (d[i]! : Nat)) := by
  unfold World.cell?
  simp only [hr]
  simp [natCells_get d i hi]

theorem Moved.at (h : Moved g n m d w w') (i : Nat) (hi : i < n) : w'.cell? ⟨g, i, none⟩ = some (.int .i64 (d[i]! : Nat)) := row_cell h.row i (by rw [h.len]; exact hi)

theorem heap_setCell_same {w : World} {g : Nat} {c : Array Value} {t : TypeId} {fr : Nat × Nat} (hr : w.heap[g]? = some (.cells c t fr)) (i : Nat) (v : Value) :
    (w.setCell ⟨g, i, none⟩ v).heap[g]? = some (.cells (c.setIfInBounds i v) t fr) := by
  rw [setCell_eq]
  show (w.heap.modify g _)[g]? = _
  rw [Array.getElem?_modify]
  simp [hr, onCells]

theorem natCells_set (d : Array Nat) (i x : Nat) : (natCells d).setIfInBounds i (.int .i64 (x : Int)) = natCells (d.setIfInBounds i x) := by
  simp [natCells, Array.map_setIfInBounds]

theorem ok_set {d : Array Nat} (ho : ∀ i, i < n → d[i]! < m) (hl : d.size = n) (j x : Nat) (hx : x < m) : ∀ i, i < n → (d.setIfInBounds j x)[i]! < m := by
  intro i hi
  rw [getElem!_pos _ i (by simp; omega), Array.getElem_setIfInBounds]
  split
  · exact hx
  · have := ho i hi
    rwa [getElem!_pos _ i (by omega)] at this

/-- A store into the row. -/
theorem Moved.set (h : Moved g n m d w w') (i x : Nat) (hx : x < m) : Moved g n m (d.setIfInBounds i x) w (w'.setCell ⟨g, i, none⟩ (.int .i64 (x : Int))) :=
  ⟨by rw [heap_setCell_same h.row, natCells_set], by simpa using h.len, ok_set h.ok h.len i x hx, h.os, h.tape, h.output, by simpa [World.setCell] using h.size,
    fun k hk hg => by rw [Below.heap_setCell _ _ _ _ hg]; exact h.block k hk hg⟩

theorem Moved.swap (h : Moved g n m d w w') (i j : Nat) (hi : i < n) (hj : j < n) :
    Moved g n m (swp d i j) w ((w'.setCell ⟨g, i, none⟩ (.int .i64 (d[j]! : Nat))).setCell ⟨g, j, none⟩ (.int .i64 (d[i]! : Nat))) :=
  (h.set i _ (h.ok j hj)).set j _ (h.ok i hi)

/-- A store into a block that is new. -/
theorem Moved.setNew (h : Moved g n m d w w') {p : Addr} (hp : w.heap.size ≤ p.block) (hg : g < w.heap.size) (v : Value) : Moved g n m d w (w'.setCell p v) :=
  ⟨by rw [Below.heap_setCell _ _ _ _ (by omega)]; exact h.row, h.len, h.ok, h.os, h.tape, h.output, by simpa [World.setCell] using h.size,
    fun k hk hg' => by rw [Below.heap_setCell _ _ _ _ (by omega)]; exact h.block k hk hg'⟩

theorem Moved.frozen (h : Moved g n m d w w') (i : Nat) : w'.frozen? ⟨g, i, none⟩ = false := by
  unfold World.frozen?
  simp [h.row]

theorem Moved.holds (h : Moved g n m d w w') : Holds (fun (x : Nat) => Value.int .i64 (x : Int)) w' g 0 d := fun j hj => by
  rw [Nat.zero_add]
  exact ⟨row_cell h.row j hj, h.frozen j⟩
end

/-- What the sort is given: a less, and a swap. -/
structure SortEnv (w0 : World) (g n m : Nat) (lt : Nat → Nat → Bool) (gl : Nat) (lb : Array Value) (sf : Nat) (sb : Array Value) : Prop where
  enter : ∀ args w, (callFunc gl args).run Tryz.prog w = .ok (.enter gl args) w
  less : ∀ d w, Moved g n m d w0 w → ∀ i j, i < n → j < n → Calls Tryz.prog gl (#[.int .i64 (i : Nat), .int .i64 (j : Nat)] ++ lb) w fun e w' => e = .returned (.bool (lt d[i]! d[j]!)) ∧ Below w.heap.size w w'
  swap : ∀ d w, Moved g n m d w0 w → ∀ i j, i < n → j < n → (callFunc sf (#[.int .i64 (i : Nat), .int .i64 (j : Nat)] ++ sb)).run Tryz.prog w =
    .ok (.value (.tuple #[])) ((w.setCell ⟨g, i, none⟩ (.int .i64 (d[j]! : Nat))).setCell ⟨g, j, none⟩ (.int .i64 (d[i]! : Nat)))
  hn : n ≤ 2147483647
  hg : g < w0.heap.size

section
variable {w0 : World} {g n m : Nat} {lt : Nat → Nat → Bool} {gl : Nat} {lb : Array Value} {sf : Nat} {sb : Array Value}

theorem SortEnv.lessAt (E : SortEnv w0 g n m lt gl lb sf sb) {d : Array Nat} {w : World} (h : Moved g n m d w0 w) (i j : Nat) (x y : Int) (hx : x = (i : Int)) (hy : y = (j : Int)) (hi : i < n) (hj : j < n) :
    Calls Tryz.prog gl (#[.int .i64 x, .int .i64 y] ++ lb) w fun e w' => e = .returned (.bool (lt d[i]! d[j]!)) ∧ Below w.heap.size w w' := by
  subst hx hy
  exact E.less d w h i j hi hj

/-- A swap: its run, and where it leaves the row, against the sort's first world and against any world on the way. -/
theorem SortEnv.swapAt (E : SortEnv w0 g n m lt gl lb sf sb) {d : Array Nat} {w u : World} (h : Moved g n m d w0 w) (h' : Moved g n m d u w) (i j : Nat) (x y : Int) (hx : x = (i : Int)) (hy : y = (j : Int)) (hi : i < n) (hj : j < n) :
    ∃ w', (callFunc sf (#[.int .i64 x, .int .i64 y] ++ sb)).run Tryz.prog w = .ok (.value (.tuple #[])) w' ∧ Moved g n m (swp d i j) u w' := by
  subst hx hy
  exact ⟨_, E.swap d w h i j hi hj, h'.swap i j hi hj⟩

/-- The value of the sort's data: a less, and a swap. -/
def dataV (gl : Nat) (lb : Array Value) (sf : Nat) (sb : Array Value) : Value := .agg #[.func (.func gl) #[] lb, .func (.func sf) #[] sb]
def dataCells (gl : Nat) (lb : Array Value) (sf : Nat) (sb : Array Value) : Array Value := #[.func (.func gl) #[] lb, .func (.func sf) #[] sb]

/-- A post: the row holds d. -/
def SortsTo (g n m : Nat) (d : Array Nat) (w : World) (e : Ending) (w' : World) : Prop := e = .returned (.tuple #[]) ∧ Moved g n m d w w'
end

/-- A world within a function of the family: the row holds d; the function's box (block B) holds the less and the swap. -/
structure InS (g n m B gl : Nat) (lb : Array Value) (sf : Nat) (sb : Array Value) (d : Array Nat) (w wr : World) : Prop where
  mv : Moved g n m d w wr
  c0 : wr.cell? ⟨B, 0, none⟩ = some (.func (.func gl) #[] lb)
  c1 : wr.cell? ⟨B, 1, none⟩ = some (.func (.func sf) #[] sb)
  lt : B < wr.heap.size
  ne : B ≠ g

section
variable {w0 : World} {g n m : Nat} {lt : Nat → Nat → Bool} {gl B : Nat} {lb : Array Value} {sf : Nat} {sb : Array Value} {d d0 d' : Array Nat} {w wr w' : World}

theorem InS.start (h : Moved g n m d w0 w) : InS g n m w.heap.size gl lb sf sb d w (w.alloc (.cells #[.func (.func gl) #[] lb, .func (.func sf) #[] sb] 171)) :=
  ⟨h.self.alloc _, by simp, by simp, by simp, by have := h.lt; omega⟩

theorem InS.below (h : InS g n m B gl lb sf sb d w wr) (b : Below wr.heap.size wr w') : InS g n m B gl lb sf sb d w w' :=
  ⟨h.mv.below b, (b.cell (p := ⟨B, 0, none⟩) h.lt).trans h.c0, (b.cell (p := ⟨B, 1, none⟩) h.lt).trans h.c1, Nat.lt_of_lt_of_le h.lt b.size, h.ne⟩

theorem InS.moved (h : InS g n m B gl lb sf sb d w wr) (k : Moved g n m d' wr w') : InS g n m B gl lb sf sb d' w w' :=
  ⟨h.mv.trans k, (k.cell h.lt h.ne).trans h.c0, (k.cell h.lt h.ne).trans h.c1, Nat.lt_of_lt_of_le h.lt k.size, h.ne⟩

theorem InS.drewN (h : InS g n m B gl lb sf sb d w wr) (q : Nat) : InS g n m B gl lb sf sb d w (wr.drewN q) := h.below (below_drewN (Below.refl _ _) q)

theorem InS.less (h : InS g n m B gl lb sf sb d w wr) (E : SortEnv w0 g n m lt gl lb sf sb) (h0 : Moved g n m d0 w0 w) (i j : Nat) (x y : Int) (hx : x = (i : Int)) (hy : y = (j : Int)) (hi : i < n) (hj : j < n) :
    Calls Tryz.prog gl (#[.int .i64 x, .int .i64 y] ++ lb) wr fun e w' => e = .returned (.bool (lt d[i]! d[j]!)) ∧ InS g n m B gl lb sf sb d w w' :=
  (E.lessAt (h0.trans h.mv) i j x y hx hy hi hj).mono fun _ _ ⟨he, hb⟩ => ⟨he, h.below hb⟩

theorem InS.swap (h : InS g n m B gl lb sf sb d w wr) (E : SortEnv w0 g n m lt gl lb sf sb) (h0 : Moved g n m d0 w0 w) (i j : Nat) (hi : i < n) (hj : j < n) :
    ∃ w', (∀ x y : Int, x = (i : Int) → y = (j : Int) → (callFunc sf (#[.int .i64 x, .int .i64 y] ++ sb)).run Tryz.prog wr = .ok (.value (.tuple #[])) w') ∧ InS g n m B gl lb sf sb (swp d i j) w w' :=
  ⟨_, fun x y hx hy => by subst hx hy; exact E.swap d wr (h0.trans h.mv) i j hi hj, h.moved (h.mv.self.swap i j hi hj)⟩
end

end Go.Proofs.YtgolhmiocjpohaaGreatDoor
