/- The package's order of rows (getSortedRowIndices, 47): a permutation of the places, sorted by the rules that were kept. -/
import Derived.Test.YtgolhmiocjpohaaGreatDoorSort10
import Derived.Test.YtgolhmiocjpohaaGreatDoorImpl4
set_option linter.unusedVariables false
set_option linter.unusedSimpArgs false
namespace Go.Proofs.YtgolhmiocjpohaaGreatDoor
open Go.RowKit Go.Sort

/-- Less on places: by the rows there; a place beyond the rows is behind every other. -/
def ltI (low : ByteArray → ByteArray) (num : ByteArray → Option Nat) (ks : List Rule) (rows : List (List ByteArray)) (x y : Nat) : Bool :=
  if x < rows.length then (if y < rows.length then rowLess low num false ks (rowAt rows x) (rowAt rows y) else true) else false

theorem ltI_in {low : ByteArray → ByteArray} {num : ByteArray → Option Nat} {ks : List Rule} {rows : List (List ByteArray)} {x y : Nat} (hx : x < rows.length) (hy : y < rows.length) :
    ltI low num ks rows x y = rowLess low num false ks (rowAt rows x) (rowAt rows y) := by unfold ltI; rw [if_pos hx, if_pos hy]

theorem keepR_mem {columns : Int} {rs : List Rule} {r : Rule} (h : r ∈ keepR columns rs) : r ∈ rs ∧ 1 ≤ r.number ∧ r.number ≤ columns := by
  unfold keepR at h
  rw [List.mem_filter] at h
  refine ⟨h.1, ?_, ?_⟩ <;> have := h.2 <;> simp at this <;> omega

theorem SbsAt.moved {g n m : Nat} {d : Array Nat} {w w' : World} {A : Option Addr} {rs : List Rule} (h : SbsAt w A rs) (hm : Moved g n m d w w') (hA : ∀ b o, A = some ⟨b, o, none⟩ → b ≠ g) : SbsAt w' A rs := by
  rcases h with rfl | ⟨b, o, rfl, hk, hc⟩
  · exact Or.inl rfl
  · have hne := hA b o rfl
    refine Or.inr ⟨b, o, rfl, Nat.lt_of_lt_of_le hk hm.size, fun i hi => ?_⟩
    rw [hm.cell hk hne, hm.cell hk hne, hm.cell hk hne, hm.cell hk hne, hm.cell hk hne]
    exact hc i hi

theorem Moved.toBelow {g n m : Nat} {d : Array Nat} {w u w' : World} (hb : Below w.heap.size w u) (hm : Moved g n m d u w') (hg : w.heap.size ≤ g) : Below w.heap.size w w' :=
  ⟨hm.os.trans hb.os, hm.tape.trans hb.tape, hm.output.trans hb.output, Nat.le_trans hb.size hm.size, fun k hk => (hm.block k (Nat.lt_of_lt_of_le hk hb.size) (by omega)).trans (hb.block k hk)⟩

/-- A post: a permutation of the places, sorted. -/
def OrderIs (low : ByteArray → ByteArray) (num : ByteArray → Option Nat) (ks : List Rule) (rows : List (List ByteArray)) (w : World) (e : Ending) (w' : World) : Prop :=
  ∃ A c, ∃ ix : List Nat, e = .returned (.slice A ix.length c) ∧ NatsAt w' A ix ∧ ix.Perm (List.range rows.length) ∧ (∀ i j, i < j → j < ix.length → ltI low num ks rows (nAt ix j) (nAt ix i) = false) ∧ Below w.heap.size w w'

theorem info3 : (Tryz.prog.info? 3).map (fun i => (i.zero, i.size, i.bytes)) = some (some (.int .i64 0), 1, 8) := by kernel_rfl

/-- A row of ints in the sort's own words. -/
theorem rowIs_nat {w : World} {b n : Nat} (h : w.rowIs b 3 n (fun j => .int .i64 (j : Int))) : w.heap[b]? = some (.cells (natCells (Array.range n)) 3 (0, 0)) := by
  obtain ⟨c, hc, hs, hi⟩ := h
  rw [hc]
  congr 2
  apply Array.ext
  · simp [natCells, hs]
  · intro i h1 h2
    have := hi i (by omega)
    rw [Array.getElem?_eq_getElem h1] at this
    simp [natCells]
    simpa using this

theorem nats_of_moved {g n m : Nat} {d : Array Nat} {w w' : World} (h : Moved g n m d w w') : NatsAt w' (some ⟨g, 0, none⟩) d.toList := by
  by_cases e : d.toList = []
  · exact Or.inl e
  · refine Or.inr ⟨g, 0, rfl, h.lt, fun i hi => ?_⟩
    have hi' : i < d.size := by simpa using hi
    rw [Nat.zero_add, h.at i (by rw [← h.len]; exact hi')]
    have : nAt d.toList i = d[i]! := by rw [nAt_eq hi, getElem!_pos d i hi']; simp
    rw [this]

/-- The less that the sort is given, in whatever world the sort has come to. -/
theorem less_here {Dom : ByteArray → Prop} {low : ByteArray → ByteArray} {num : ByteArray → Option Nat} (hlow : LowSaid Dom low) (hl : LightSaid Dom num)
    (w u : World) (tb : Nat) (columns : Int) (Ar : Option Addr) (cr : Nat) (rows : List (List ByteArray)) (As0 : Option Addr) (cs0 : Nat) (rs : List Rule) (h : TableAt w tb columns Ar cr rows As0 cs0 rs)
    (hll : rs.length ≤ 2147483647) (hrl : rows.length ≤ 2147483647) (hcl : ∀ x, x < rows.length → (rowAt rows x).length ≤ 2147483647) (hc0 : columns ≤ 9223372036854775807)
    (hok : ∀ x, x < rows.length → RowsOk Dom columns rs (rowAt rows x))
    (hb : Below w.heap.size w u) (g bi bs bt : Nat) (As : Option Addr) (cs c : Nat) (hg : w.heap.size ≤ g)
    (ci : u.cell? ⟨bi, 0, none⟩ = some (.slice (some ⟨g, 0, none⟩) rows.length c)) (ct : u.cell? ⟨bt, 0, none⟩ = some (.pointer (some ⟨tb, 0, none⟩)))
    (cb : u.cell? ⟨bs, 0, none⟩ = some (.slice As (keepR columns rs).length cs)) (hs : SbsAt u As (keepR columns rs))
    (li : bi < u.heap.size) (lt' : bt < u.heap.size) (ls : bs < u.heap.size) (ni : bi ≠ g) (nt : bt ≠ g) (ns : bs ≠ g) (nA : ∀ b o, As = some ⟨b, o, none⟩ → b ≠ g) :
    ∀ dk wr, Moved g rows.length rows.length dk u wr → ∀ i j, i < rows.length → j < rows.length →
      Calls Tryz.prog 64 (#[.int .i64 (i : Nat), .int .i64 (j : Nat)] ++ #[.pointer (some ⟨bi, 0, none⟩), .pointer (some ⟨bs, 0, none⟩), .pointer (some ⟨bt, 0, none⟩)]) wr
        fun e w' => e = .returned (.bool (ltI low num (keepR columns rs) rows dk[i]! dk[j]!)) ∧ Below wr.heap.size wr w' := by
  intro dk wr hm i j hi hj
  have hbw := hm.toBelow hb hg
  have ht := h.below hbw
  have C : ClosAt wr bs bt tb As cs (keepR columns rs) Ar cr rows :=
    ⟨by rw [hm.cell ls ns]; exact cb, by rw [hm.cell lt' nt]; exact ct, ht.r, Nat.lt_of_lt_of_le ls hm.size, Nat.lt_of_lt_of_le lt' hm.size, ht.lt, hs.moved hm nA, ht.rowsAt⟩
  rw [ltI_in (hm.ok i hi) (hm.ok j hj)]
  refine closure64 hlow hl wr bi bs bt tb g As cs (keepR columns rs) Ar cr rows.length c rows C i j dk[i]! dk[j]! (by rw [hm.cell li ni]; exact ci) hi hj (hm.at i hi) (hm.at j hj) (hm.ok i hi) (hm.ok j hj) hrl
    (Nat.le_trans (keepR_length columns rs) hll) hrl (fun r hr => ?_) (hcl _ (hm.ok i hi)) (hcl _ (hm.ok j hj))
  obtain ⟨h1, h2, h3⟩ := keepR_mem hr
  exact ⟨h2, by omega, hok _ (hm.ok i hi) r h1 h2 h3, hok _ (hm.ok j hj) r h1 h2 h3⟩

end Go.Proofs.YtgolhmiocjpohaaGreatDoor
