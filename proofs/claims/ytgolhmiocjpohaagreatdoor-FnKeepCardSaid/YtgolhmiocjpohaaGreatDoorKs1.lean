/- Which rows are kept, and where breaks come: plain; how the reference's work stands in memory; an append as one step of a region that draws. No condition. The reference's Keep (8): the rows that every filter lets pass, and the breaks. No condition beyond sizes. -/
import Derived.Deep.RegionLaw
import Derived.Test.YtgolhmiocjpohaaGreatDoorPf1
import Derived.Test.YtgolhmiocjpohaaGreatDoorKd3
set_option linter.unusedVariables false
set_option linter.unusedSimpArgs false
namespace Go.Proofs.YtgolhmiocjpohaaGreatDoor
open Go.RowKit Go.PlainAid

/-- The widest of the first rows. -/
def colsTo (rows : List (List CellD)) : Nat → Nat
 | 0 => 0
 | i + 1 => max (colsTo rows i) (rwAt rows i).length
section
variable (low : ByteArray → ByteArray) (eqf : ByteArray → ByteArray → Bool)
/-- Whether a filter lets a row pass. -/
noncomputable def oneB (cols : Nat) (row : List CellD) (f : FiltD) : Bool :=
 if 1 ≤ f.number ∧ f.number ≤ (cols : Int) then (decide (f.number ≤ (row.length : Int)) && matchB low eqf f.op f.fold (saidOf (cAt row (f.number - 1).toNat)) (saidOf f.value)) else true
noncomputable def allTo (fs : List FiltD) (cols : Nat) (row : List CellD) : Nat → Bool
 | 0 => true
 | j + 1 => allTo fs cols row j && oneB low eqf cols row (fAt fs j)
end
/-- The places of the rows kept among the first. -/
def keptIx (p : List CellD → Bool) (rows : List (List CellD)) : Nat → List Nat
 | 0 => []
 | i + 1 => if p (rwAt rows i) then keptIx p rows i ++ [i] else keptIx p rows i
/-- Whether a break is asked behind a row. -/
def brAt (bs : List Int) (i : Nat) : Bool := bs.any fun b => b == (i : Int) + 1
def brkTo (p : List CellD → Bool) (rows : List (List CellD)) (bs : List Int) : Nat → List Int
 | 0 => []
 | i + 1 => if p (rwAt rows i) && brAt bs i then brkTo p rows bs i ++ [((keptIx p rows (i + 1)).length : Int)] else brkTo p rows bs i

theorem keptIx_len (p : List CellD → Bool) (rows : List (List CellD)) : ∀ i, (keptIx p rows i).length ≤ i
 | 0 => by simp [keptIx]
 | i + 1 => by
  have := keptIx_len p rows i
  unfold keptIx
  split
  ·simp; omega
  ·omega
theorem brkTo_len (p : List CellD → Bool) (rows : List (List CellD)) (bs : List Int) : ∀ i, (brkTo p rows bs i).length ≤ i
 | 0 => by simp [brkTo]
 | i + 1 => by
  have := brkTo_len p rows bs i
  unfold brkTo
  split
  ·simp; omega
  ·omega

theorem own_drew {w : World} {base size n : Nat} {e : TypeId} {v : Value} {xs : List Value} (h : w.ownsRow base e size v n xs) : w.drew.ownsRow base e size v n xs := h

theorem step_append_own {P : Program} {ops : Array Oper} {o : Oper} {a : Act} {w : World} {K : Act → World → Prop} {Q : Exit → Act → World → Prop} {E : Prop}
  (hg : o.guard = none) (s x : Operand) (t : TypeId) (hop : o.op = Op.call { callee := Callee.builtin Builtin.append, args := #[s, x], argTypes := #[t, t] })
  (base : Nat) (e : TypeId) (i : TypeInfo) (z : Value) (size bytes : Nat) (h1 : P.underlying t = some (.slice e)) (h2 : P.info? e = some i) (h3 : i.zero = some z) (h4 : i.size = size) (h5 : i.bytes = bytes) (h6 : z.cells.size = size) (h7 : 0 < size)
  (v : Value) (n : Nat) (xs : List Value) (hs : a.eval s = v) (hown : w.ownsRow base e size v n xs)
  (ad : Addr) (m c : Nat) (news : List Value) (hx : a.eval x = .slice (some ad) m c) (hn : news.length = m * size) (hc : ∀ j u, news[j]? = some u → w.cell? (ad.add j) = some u) (h1c : ∀ u ∈ news, u.oneCell' = true)
  (b1 : n + m ≤ maxLen) (b2 : (n + m) * bytes ≤ 140737488355328) (hb : base ≤ w.heap.size)
  (hK : ∀ v' w', w'.ownsRow base e size v' (n + m) (xs ++ news) → w.grownBy w' v.ownBlock → (v'.ownBlock = v.ownBlock ∨ v'.ownBlock = some w.heap.size) → K (a.put o.dst v') w') :
  if Region.wanted o (yielded ops a.tmps) = true then Oper.wp P o a w K Q else E := by
 have hw : Region.wanted o (yielded ops a.tmps) = true := by simp [Region.wanted, hg]
 rw [if_pos hw]
 obtain ⟨v', w', hrun, r1, r2, _, r3⟩ := run_append_own_at (P := P) w base t o.type e i z size bytes h1 h2 h3 h4 h5 h6 h7 v n xs hown ad m c news hn hc h1c b1 b2 hb
 unfold Oper.wp
 simp [execOp, hop, resolve, invoke, builtin, hs, hx, hrun, Result.andThen]
 exact hK v' w' r1 r2 r3

/-- How the reference's work stands: two blocks, two rows of one's own. -/
structure KeepAt (w : World) (k1 k2 : List Value) (v1 v2 : Value) (wx : World) : Prop where
 b6 : wx.heap[w.heap.size]? = some (.cells #[.slice none 0 0, .slice none 0 0] 33 (0, 0))
 b9 : wx.heap[w.heap.size + 1]? = some (.cells #[v1, v2] 33 (0, 0))
 own1 : wx.ownsRow (w.heap.size + 2) 27 1 v1 k1.length k1
 own2 : wx.ownsRow (w.heap.size + 2) 3 1 v2 k2.length k2
 apart : ∀ g, v1.ownBlock = some g → v2.ownBlock ≠ some g
 below : Below w.heap.size w wx
 size : w.heap.size + 2 ≤ wx.heap.size

theorem KeepAt.later {w wx wy : World} {k1 k2 : List Value} {v1 v2 : Value} (h : KeepAt w k1 k2 v1 v2 wx) (hb : Below wx.heap.size wx wy) : KeepAt w k1 k2 v1 v2 wy :=
 ⟨by rw [hb.block _ (by have := h.size; omega)]; exact h.b6, by rw [hb.block _ (by have := h.size; omega)]; exact h.b9, own_below (B := 0) h.own1 hb, own_below (B := 0) h.own2 hb, h.apart, h.below.trans (hb.mono h.below.size), Nat.le_trans h.size hb.size⟩

theorem KeepAt.start {w : World} {X : Array Value} (hX : X = #[.slice none 0 0, .slice none 0 0]) : KeepAt w [] [] (.slice none 0 0) (.slice none 0 0) ((w.alloc (.cells X 33)).alloc (.cells #[.slice none 0 0, .slice none 0 0] 33)) := by
 subst hX
 refine ⟨?_, ?_, World.ownsRow_nil _ _ _ _, World.ownsRow_nil _ _ _ _, fun g hg => by simp [Value.ownBlock] at hg, ((Below.refl _ _).alloc (Nat.le_refl _) _).alloc (by simp) _, by simp⟩
 ·rw [Below.heap_alloc _ _ _ (by simp)]
  exact heap_alloc_new w _
 ·have h := heap_alloc_new (w.alloc (.cells #[.slice none 0 0, .slice none 0 0] 33)) (.cells #[.slice none 0 0, .slice none 0 0] 33)
  simpa using h

theorem set_row2 {w : World} {b : Nat} {cs : Array Value} {t : TypeId} {fr : Nat × Nat} (h : w.heap[b]? = some (.cells cs t fr)) (i : Nat) (v : Value) : (w.setCell ⟨b, i, none⟩ v).heap[b]? = some (.cells (cs.setIfInBounds i v) t fr) := by
 rw [World.setCell]
 simp [Array.getElem?_modify, h]
theorem set_other {w : World} {b c : Nat} (h : b ≠ c) (i : Nat) (v : Value) : (w.setCell ⟨b, i, none⟩ v).heap[c]? = w.heap[c]? := by
 rw [World.setCell]
 simp [Array.getElem?_modify, h]

/-- Behind the append to the rows. -/
theorem KeepAt.grow1 {w wx wl w2 : World} {k1 k2 : List Value} {v1 v2 v1' x : Value} (h : KeepAt w k1 k2 v1 v2 wx) (hl : Below wx.heap.size wx wl) (ho : w2.ownsRow (w.heap.size + 2) 27 1 v1' (k1.length + 1) (k1 ++ [x])) (hg : wl.grownBy w2 v1.ownBlock) (hat : v1'.ownBlock = v1.ownBlock ∨ v1'.ownBlock = some wl.heap.size) :
  (w2.heap[w.heap.size + 1]? = some (.cells #[v1, v2] 33 (0, 0))) ∧ KeepAt w (k1 ++ [x]) k2 v1' v2 (w2.setCell ⟨w.heap.size + 1, 0, none⟩ v1') := by
 have hk := h.later hl
 have hs := hk.size
 have hB : Below (w.heap.size + 2) wl w2 := (Below.refl _ _).grown hg hs (fun q hq => (hk.own1.lt q hq).1)
 have e9 : w2.heap[w.heap.size + 1]? = some (.cells #[v1, v2] 33 (0, 0)) := by rw [hB.block _ (by omega)]; exact hk.b9
 refine ⟨e9, ⟨?_, ?_, ?_, ?_, ?_, ?_, ?_⟩⟩
 ·rw [set_other (by omega), hB.block _ (by omega)]; exact hk.b6
 ·rw [set_row2 e9]; rfl
 ·rw [List.length_append]; exact ownsRow_setCell_below ho (a := ⟨w.heap.size + 1, 0, none⟩) (by show w.heap.size + 1 < w.heap.size + 2; omega) _
 ·refine ownsRow_setCell_below (hk.own2.kept hg ?_) (a := ⟨w.heap.size + 1, 0, none⟩) (by show w.heap.size + 1 < w.heap.size + 2; omega) _
  cases h2 : v2.ownBlock with
  | none => exact Or.inl rfl
  | some g => exact Or.inr fun e => h.apart g e.symm h2
 ·intro g hg1 hg2
  rcases hat with h3 | h3
  ·rw [h3] at hg1; exact h.apart g hg1 hg2
  ·rw [h3] at hg1
   have := (hk.own2.lt g hg2).2
   simp at hg1
   omega
 ·exact (hk.below.trans (hB.mono (by omega))).setCell (p := ⟨w.heap.size + 1, 0, none⟩) (by show w.heap.size ≤ w.heap.size + 1; omega) _
 ·have := hB.size; simp [World.setCell]; omega

/-- Behind the append to the breaks. -/
theorem KeepAt.grow2 {w wx wl w2 : World} {k1 k2 : List Value} {v1 v2 v2' x : Value} (h : KeepAt w k1 k2 v1 v2 wx) (hl : Below wx.heap.size wx wl) (ho : w2.ownsRow (w.heap.size + 2) 3 1 v2' (k2.length + 1) (k2 ++ [x])) (hg : wl.grownBy w2 v2.ownBlock) (hat : v2'.ownBlock = v2.ownBlock ∨ v2'.ownBlock = some wl.heap.size) :
  (w2.heap[w.heap.size + 1]? = some (.cells #[v1, v2] 33 (0, 0))) ∧ KeepAt w k1 (k2 ++ [x]) v1 v2' (w2.setCell ⟨w.heap.size + 1, 1, none⟩ v2') := by
 have hk := h.later hl
 have hs := hk.size
 have hB : Below (w.heap.size + 2) wl w2 := (Below.refl _ _).grown hg hs (fun q hq => (hk.own2.lt q hq).1)
 have e9 : w2.heap[w.heap.size + 1]? = some (.cells #[v1, v2] 33 (0, 0)) := by rw [hB.block _ (by omega)]; exact hk.b9
 refine ⟨e9, ⟨?_, ?_, ?_, ?_, ?_, ?_, ?_⟩⟩
 ·rw [set_other (by omega), hB.block _ (by omega)]; exact hk.b6
 ·rw [set_row2 e9]; rfl
 ·refine ownsRow_setCell_below (hk.own1.kept hg ?_) (a := ⟨w.heap.size + 1, 1, none⟩) (by show w.heap.size + 1 < w.heap.size + 2; omega) _
  cases h2 : v1.ownBlock with
  | none => exact Or.inl rfl
  | some g => exact Or.inr fun e => h.apart g h2 e.symm
 ·rw [List.length_append]; exact ownsRow_setCell_below ho (a := ⟨w.heap.size + 1, 1, none⟩) (by show w.heap.size + 1 < w.heap.size + 2; omega) _
 ·intro g hg1 hg2
  rcases hat with h3 | h3
  ·rw [h3] at hg2; exact h.apart g hg1 hg2
  ·rw [h3] at hg2
   have := (hk.own1.lt g hg1).2
   simp at hg2
   omega
 ·exact (hk.below.trans (hB.mono (by omega))).setCell (p := ⟨w.heap.size + 1, 1, none⟩) (by show w.heap.size ≤ w.heap.size + 1; omega) _
 ·have := hB.size; simp [World.setCell]; omega

theorem two_cells {w : World} {b : Nat} {x0 x1 : Value} {t : TypeId} (h : w.heap[b]? = some (.cells #[x0, x1] t (0, 0))) :
  w.cell? ⟨b, 0, none⟩ = some x0 ∧ w.cell? ⟨b, 1, none⟩ = some x1 ∧ w.frozen? ⟨b, 0, none⟩ = false ∧ w.frozen? ⟨b, 1, none⟩ = false :=
 ⟨by rw [cell_of_row w b 0 _ _ _ h]; rfl, by rw [cell_of_row w b 1 _ _ _ h]; rfl, frozen_of_row w b 0 _ _ h, frozen_of_row w b 1 _ _ h⟩

theorem br_none {bs : List Int} {i : Nat} (h : ∀ k, k < bs.length → ¬ bs.getD k 0 = (i : Int) + 1) : brAt bs i = false := by
 unfold brAt
 rw [List.any_eq_false]
 intro b hb
 obtain ⟨k, hk, rfl⟩ := List.getElem_of_mem hb
 have := h k hk
 rw [List.getD_eq_getElem?_getD, List.getElem?_eq_getElem hk] at this
 simpa using this
theorem br_some {bs : List Int} {i k : Nat} (hk : k < bs.length) (h : bs.getD k 0 = (i : Int) + 1) : brAt bs i = true := by
 unfold brAt
 rw [List.any_eq_true]
 refine ⟨bs[k], List.getElem_mem hk, ?_⟩
 rw [List.getD_eq_getElem?_getD, List.getElem?_eq_getElem hk] at h
 simpa using h

theorem below_allocd {w : World} (o : Obj) : Below w.heap.size w (w.alloc o).drew := by
 have h : Below w.heap.size w (w.alloc o) := (Below.refl _ _).alloc (Nat.le_refl _) o
 exact ⟨h.os, h.tape, h.output, h.size, h.block⟩

theorem grid_hdr {w : World} {A : Option Addr} {rows : List (List CellD)} (h : GridAt w A rows) : ∃ hdr : Nat → Value, ∀ i, i < rows.length → (∃ A' c, hdr i = .slice A' (rwAt rows i).length c ∧ CellsAt w A' (rwAt rows i)) ∧ ∃ b o, A = some ⟨b, o, none⟩ ∧ b < w.heap.size ∧ w.cell? ⟨b, o + i, none⟩ = some (hdr i) := by
 rcases h with rfl | ⟨b, o, h1, h2, h3⟩
 ·exact ⟨fun _ => .nilIface, fun i hi => by simp at hi⟩
 ·refine ⟨fun i => (w.cell? ⟨b, o + i, none⟩).getD .nilIface, fun i hi => ?_⟩
  obtain ⟨A', c, q1, q2⟩ := h3 i hi
  have e : (fun i => (w.cell? ⟨b, o + i, none⟩).getD .nilIface) i = Value.slice A' (rwAt rows i).length c := by show (w.cell? _).getD _ = _; rw [q1]; rfl
  exact ⟨⟨A', c, e, q2⟩, b, o, h1, h2, by rw [e]; exact q1⟩

theorem cols_succ (rows : List (List CellD)) (i : Nat) : colsTo rows (i + 1) = max (colsTo rows i) (rwAt rows i).length := rfl

theorem keptIx_lt (p : List CellD → Bool) (rows : List (List CellD)) : ∀ i, ∀ k ∈ keptIx p rows i, k < i
 | 0, k, h => by simp [keptIx] at h
 | i + 1, k, h => by
  unfold keptIx at h
  split at h
  ·rcases List.mem_append.1 h with h | h
   ·have := keptIx_lt p rows i k h; omega
   ·simp at h; omega
  ·have := keptIx_lt p rows i k h; omega

theorem own_size {w : World} {base size n g cap m : Nat} {e : TypeId} {xs : List Value} (h : w.ownsRow base e size (.slice (some ⟨g, 0, none⟩) m cap) n xs) : g < w.heap.size := (h.lt g rfl).2

theorem grid_of_own {w w' : World} {base c : Nat} {A : Option Addr} {ix : List Nat} {rows : List (List CellD)} {hdr : Nat → Value} (ho : w'.ownsRow base 27 1 (.slice A ix.length c) ix.length (ix.map hdr)) (hb : Below w.heap.size w w')
  (hh : ∀ k ∈ ix, ∃ A' c, hdr k = .slice A' (rwAt rows k).length c ∧ CellsAt w A' (rwAt rows k)) : GridAt w' A (ix.map (rwAt rows)) := by
 rcases ho.2 with ⟨_, h2⟩ | ⟨g, cap, cur, h1, h2, hg, rest⟩
 ·exact Or.inl (by rw [List.eq_nil_of_length_eq_zero h2]; rfl)
 ·cases h1
  refine Or.inr ⟨g, 0, rfl, own_size ho, fun i hi => ?_⟩
  rw [List.length_map] at hi
  obtain ⟨A', c', q1, q2⟩ := hh ix[i] (List.getElem_mem hi)
  have e : rwAt (ix.map (rwAt rows)) i = rwAt rows ix[i] := by
   show (ix.map (rwAt rows)).getD i [] = _
   rw [List.getD_eq_getElem?_getD, List.getElem?_map, List.getElem?_eq_getElem hi]
   rfl
  rw [e]
  refine ⟨A', c', ?_, q2.below hb⟩
  rw [Nat.zero_add, World.ownsRow.cellAt ho i (by omega), List.getElem?_map, List.getElem?_eq_getElem hi, ← q1]
  rfl

theorem nums_of_own {w' : World} {base c : Nat} {A : Option Addr} {ns : List Int} (ho : w'.ownsRow base 3 1 (.slice A ns.length c) ns.length (ns.map fun n => Value.int .i64 n)) : NumsAt w' A ns := by
 rcases ho.2 with ⟨_, h2⟩ | ⟨g, cap, cur, h1, h2, hg, rest⟩
 ·exact Or.inl (List.eq_nil_of_length_eq_zero h2)
 ·cases h1
  refine Or.inr ⟨g, 0, rfl, own_size ho, fun i hi => ?_⟩
  rw [Nat.zero_add, World.ownsRow.cellAt ho i (by omega), List.getElem?_map, List.getElem?_eq_getElem hi, List.getD_eq_getElem?_getD, List.getElem?_eq_getElem hi]
  rfl

theorem KeepAt.done {w wx : World} {k1 k2 : List Value} {v1 v2 : Value} (h : KeepAt w k1 k2 v1 v2 wx) (x y : Value) : ((wx.setCell ⟨w.heap.size, 0, none⟩ x).setCell ⟨w.heap.size, 1, none⟩ y).ownsRow (w.heap.size + 2) 27 1 v1 k1.length k1 ∧
  ((wx.setCell ⟨w.heap.size, 0, none⟩ x).setCell ⟨w.heap.size, 1, none⟩ y).ownsRow (w.heap.size + 2) 3 1 v2 k2.length k2 ∧ Below w.heap.size w ((wx.setCell ⟨w.heap.size, 0, none⟩ x).setCell ⟨w.heap.size, 1, none⟩ y) := by
 have hle : w.heap.size < w.heap.size + 2 := by omega
 exact ⟨ownsRow_setCell_below (ownsRow_setCell_below h.own1 (a := ⟨w.heap.size, 0, none⟩) hle x) (a := ⟨w.heap.size, 1, none⟩) hle y, ownsRow_setCell_below (ownsRow_setCell_below h.own2 (a := ⟨w.heap.size, 0, none⟩) hle x) (a := ⟨w.heap.size, 1, none⟩) hle y,
  (h.below.setCell (p := ⟨w.heap.size, 0, none⟩) (Nat.le_refl _) x).setCell (p := ⟨w.heap.size, 1, none⟩) (Nat.le_refl _) y⟩

end Go.Proofs.YtgolhmiocjpohaaGreatDoor

namespace Go.Proofs.YtgolhmiocjpohaaGreatDoor
open Go.RowKit Go.PlainAid

section
variable {B : Nat} {EC : World → Prop} {low : ByteArray → ByteArray} {eqf : ByteArray → ByteArray → Bool}

/-- A post: rows and breaks, in new memory. -/
def KeptOut (kept : List (List CellD)) (brk : List Int) (w : World) (e : Ending) (w' : World) : Prop :=
 ∃ A1 c1 A2 c2, e = .returned (.agg #[.slice A1 kept.length c1, .slice A2 brk.length c2]) ∧ GridAt w' A1 kept ∧ NumsAt w' A2 brk ∧ Below w.heap.size w w'

set_option maxHeartbeats 3200000 in
set_option maxRecDepth 100000 in
theorem spec_keep (L : LibC B EC low eqf) (w : World) (A1 A2 A3 : Option Addr) (c1 c2 c3 : Nat) (rows : List (List CellD)) (bs : List Int) (fs : List FiltD) (h1 : GridAt w A1 rows) (h2 : NumsAt w A2 bs) (h3 : FiltsAt w A3 fs) (hE : EC w)
  (hr : rows.length ≤ 60) (hb : bs.length ≤ 60) (hf : fs.length ≤ 8) (hok : ∀ i, i < rows.length → (rwAt rows i).length ≤ 2147483647 ∧ ∀ j, j < (rwAt rows i).length → CellOkD (cAt (rwAt rows i) j)) (hfo : ∀ j, j < fs.length → CellOkD (fAt fs j).value) :
  Calls Tryz.prog 8 #[.slice A1 rows.length c1, .slice A2 bs.length c2, .slice A3 fs.length c3] w
   (KeptOut ((keptIx (fun row => allTo low eqf fs (colsTo rows rows.length) row fs.length) rows rows.length).map (rwAt rows)) (brkTo (fun row => allTo low eqf fs (colsTo rows rows.length) row fs.length) rows bs rows.length) w) := by
 have H1 := Lib.hid h1
 have H2 := Lib.hid h2
 have H3 := Lib.hid h3
 have HOK := Lib.hid hok
 have HFO := Lib.hid hfo
 have HE := Lib.hid hE
 have K26 := Lib.hid (fun c w h => spec_said c w h)
 have K25 := Lib.hid (fun a f w1 ha hc (hb : Below w.heap.size w w1) => spec_match L a f w1 ha hc (L.after hE hb))
 unfold cellV at K26
 unfold filtV at K25
 clear h1 h2 h3 hok hfo hE
 obtain ⟨i27, hi, hz0, hz1, hz2⟩ := info_parts info27
 have HI27 := Lib.hid hi
 have HZ0 := Lib.hid hz0
 have HZ1 := Lib.hid hz1
 have HZ2 := Lib.hid hz2
 clear hi hz0 hz1 hz2
 obtain ⟨i3, hi, hz0, hz1, hz2⟩ := info_parts info3
 have HI3 := Lib.hid hi
 have HY0 := Lib.hid hz0
 have HY1 := Lib.hid hz1
 have HY2 := Lib.hid hz2
 clear hi hz0 hz1 hz2
 go_enter Tryz.func8, Tryz.ntmps8
 go_wp2_with fail
 go_loopg [7, 8] rows.length (fun g s7 s8 wx => ∃ i : Nat, s8 = .int .i64 i ∧ s7 = .int .i64 (colsTo rows i : Nat) ∧ i + g = rows.length ∧ colsTo rows i ≤ 2147483647 ∧ wx = w.alloc (.cells #[.slice none 0 0, .slice none 0 0] 33))
 case atStart => exact ⟨0, rfl, rfl, by omega, by simp [colsTo], rfl⟩
 case round =>
  obtain ⟨i, rfl, rfl, hig, hcl, rfl⟩ := hrel
  cases gk with
  | succ g =>
   have hi : (i : Int) < (rows.length : Int) := by omega
   rcases H1.out with h | ⟨bx, ox, rfl, hx2, hx3⟩
   ·exfalso; rw [h] at hi; simp at hi; omega
   obtain ⟨A', c', x0, _⟩ := hx3 i (by omega)
   have x0' := (World.cell?_alloc_past (.cells #[.slice none 0 0, .slice none 0 0] 33) bx (ox + i) hx2).trans x0
   have hl := (HOK.out i (by omega)).1
   obtain ⟨l, hl2⟩ : ∃ l, (rwAt rows i).length = l := ⟨_, rfl⟩
   rw [hl2] at x0' hl
   have hmx : max ((colsTo rows i : Nat) : Int) ((l : Nat) : Int) = ((colsTo rows (i + 1) : Nat) : Int) := by rw [cols_succ, hl2]; omega
   have hc2 : colsTo rows (i + 1) ≤ 2147483647 := by rw [cols_succ, hl2]; omega
   clear hx3 x0 hl2
   go_wp2_with fail
   go_roundg g
   case measure => omega
   case rel => exact ⟨i + 1, by go_num, by first | rfl | rw [hmx], by omega, hc2, rfl⟩
  | zero =>
   have hi : ¬ (i : Int) < (rows.length : Int) := by omega
   have hie : i = rows.length := by omega
   subst hie
   obtain ⟨cols, hcols⟩ : ∃ cols, colsTo rows rows.length = cols := ⟨_, rfl⟩
   rw [hcols] at hcl ⊢
   generalize hp : (fun row => allTo low eqf fs cols row fs.length) = p
   have HP := Lib.hid hp
   have HPF : Hid ((fun row => allTo low eqf fs (colsTo rows rows.length) row fs.length) = p) := by show _ = _; rw [hcols]; exact hp
   obtain ⟨hdr, hh⟩ := grid_hdr H1.out
   have HH := Lib.hid hh
   clear hh hp hcols hig hi
   go_upto_region 7 with fail
   have HK0 := Lib.hid (KeepAt.start (w := w) (X := #[.slice none 0 0, .slice none 0 0]) rfl)
   generalize (w.alloc (.cells #[.slice none 0 0, .slice none 0 0] 33)).alloc (.cells #[.slice none 0 0, .slice none 0 0] 33) = W0 at *
   go_wp2_with fail
   go_loopg [10, 11, 12, 13, 14] rows.length (fun g s10 s11 s12 s13 s14 wx => ∃ (i : Nat) (v1 v2 : Value), s10 = .int .i64 i ∧ i + g = rows.length ∧ KeepAt w ((keptIx p rows i).map hdr) ((brkTo p rows bs i).map fun n => .int .i64 n) v1 v2 wx)
   case atStart => exact ⟨0, _, _, rfl, by omega, HK0.out⟩
   case round =>
    obtain ⟨i, v1, v2, rfl, hig, hk⟩ := hrel
    have HK := Lib.hid hk
    clear HK0
    cases gk with
    | zero =>
     have hi : ¬ (i : Int) < (rows.length : Int) := by omega
     have hie : i = rows.length := by omega
     subst hie
     obtain ⟨D1, d1, rfl⟩ := own_form hk.own1
     obtain ⟨D2, d2, rfl⟩ := own_form hk.own2
     obtain ⟨e0, e1, _, _⟩ := two_cells hk.b9
     obtain ⟨g0, g1, z0, z1⟩ := two_cells hk.b6
     clear hk
     go_wp2_with fail
     refine bodyPost_ret (results_cell_row rfl _ _ w.heap.size 33 _ (0, 0) _ rfl (set_row2 (set_row2 HK.out.b6 0 _) 1 _) Tryz.underlying33 rfl (by kernel_rfl)) rfl ?_
     obtain ⟨hw1, hw2, hbl⟩ := HK.out.done (.slice D1 ((keptIx p rows rows.length).map hdr).length d1) (.slice D2 ((brkTo p rows bs rows.length).map fun n => Value.int .i64 n).length d2)
     simp only [List.length_map] at hw1 hw2 hbl ⊢
     rw [HPF.out]
     refine ⟨D1, d1, D2, d2, ?_, grid_of_own hw1 hbl (fun k hk => (HH.out k (keptIx_lt p rows _ k hk)).1), nums_of_own hw2, hbl⟩
     first | rfl | simp
    | succ g =>
     have hi : (i : Int) < (rows.length : Int) := by omega
     obtain ⟨⟨A', c', hd1, hd2⟩, bx, ox, hA1, hbx, hcx⟩ := HH.out i (by omega)
     subst hA1
     obtain ⟨hlen, hcells⟩ := HOK.out i (by omega)
     have hpi : Hid (p (rwAt rows i) = allTo low eqf fs cols (rwAt rows i) fs.length) := by show _ = _; rw [← HP.out]
     have HKI : Hid ((keptIx p rows (i + 1)) = if p (rwAt rows i) then keptIx p rows i ++ [i] else keptIx p rows i) := rfl
     have HBI : Hid ((brkTo p rows bs (i + 1)) = if p (rwAt rows i) && brAt bs i then brkTo p rows bs i ++ [((keptIx p rows (i + 1)).length : Int)] else brkTo p rows bs i) := rfl
     generalize rwAt rows i = row at *
     have HD := Lib.hid (And.intro hd1 (And.intro hd2 hcells))
     have x0 := (hk.below.cell (p := ⟨bx, ox + i, none⟩) hbx).trans hcx
     rw [hd1] at x0
     have HX := Lib.hid x0
     clear hk x0 hcx hd1 hd2 hcells
     go_wp2_with fail
     go_loopg [11, 12, 13] fs.length (fun g s11 s12 s13 wy => ∃ j : Nat, s12 = .int .i64 j ∧ j + g = fs.length ∧ s11 = .bool (allTo low eqf fs cols row j) ∧ Below wr.heap.size wr wy)
     case atStart => exact ⟨0, rfl, by omega, rfl, Below.refl _ _⟩
     case round =>
      obtain ⟨j, rfl, hjg, rfl, hby⟩ := hrel
      have hbw := HK.out.below.trans (hby.mono HK.out.below.size)
      obtain ⟨kb, hkb⟩ : ∃ kb, allTo low eqf fs cols row j = kb := ⟨_, rfl⟩
      rw [hkb]
      cases gk with
      | zero =>
       have hj : ¬ (j : Int) < (fs.length : Int) := by omega
       have hje : j = fs.length := by omega
       have HPK : Hid (p row = kb) := by show _ = _; rw [hpi.out, ← hje, hkb]
       have y0 := (hby.cell (p := ⟨bx, ox + i, none⟩) (Nat.lt_of_lt_of_le hbx HK.out.below.size)).trans HX.out
       have hkl : (keptIx p rows i).length ≤ 60 := by have := keptIx_len p rows i; omega
       have hbl : (brkTo p rows bs i).length ≤ 60 := by have := brkTo_len p rows bs i; omega
       have hkw := HK.out.later hby
       have HKW := Lib.hid hkw
       cases kb with
       | false =>
        clear hby hbw hkw y0
        go_wp2_with fail
        go_roundg g
        case measure => omega
        case rel => exact ⟨i + 1, v1, v2, by go_num, by omega, by rw [HKI.out, HBI.out, HPK.out]; exact HKW.out⟩
       | true =>
        obtain ⟨B1, d1, rfl⟩ := own_form hkw.own1
        obtain ⟨B2, d2, rfl⟩ := own_form hkw.own2
        obtain ⟨e0, e1, z0, z1⟩ := two_cells hkw.b9
        obtain ⟨k1, hk1⟩ : ∃ k1, (keptIx p rows i).map hdr = k1 := ⟨_, rfl⟩
        obtain ⟨k2, hk2⟩ : ∃ k2, ((brkTo p rows bs i).map fun n => Value.int .i64 n) = k2 := ⟨_, rfl⟩
        have hk1l : k1.length = (keptIx p rows i).length := by rw [← hk1, List.length_map]
        have hk2l : k2.length = (brkTo p rows bs i).length := by rw [← hk2, List.length_map]
        rw [hk1, hk2] at HKW
        rw [hk1, hk2] at hkw
        rw [hk1] at e0
        rw [hk2] at e1
        have HKL := Lib.hid (And.intro hk1 (And.intro hk2 (And.intro hk1l hk2l)))
        have hks := hkw.size
        have hn60 : k1.length ≤ 60 := by omega
        have hm60 : k2.length ≤ 60 := by omega
        clear hby hbw hkw hk1 hk2 hk1l hk2l hkl hbl
        have e0a : (wr.alloc (.cells #[.slice A' row.length c'] 27)).cell? ⟨w.heap.size + 1, 0, none⟩ = _ := (World.cell?_alloc_past _ _ _ (by omega)).trans e0
        go_upto_region 18 with fail
        go_region_law (refine step_append_own rfl _ _ 22 rfl (w.heap.size + 2) 27 i27 (.slice none 0 0) 1 24 Tryz.underlying22 HI27.out HZ0.out HZ1.out HZ2.out rfl (by decide) _ _ _ rfl (own_drew (HKW.out.own1.alloc _)) ⟨_, 0, none⟩ 1 1 [.slice A' row.length c'] rfl rfl (cell_one_new wr _ _) (by intro u hu; simp at hu; subst hu; rfl) (by unfold maxLen; omega) (by omega) (by simp [World.drew]; omega) ?_; intro v' w2 ho hg hat; obtain ⟨A4, c4, rfl⟩ := own_form ho; have HG := Lib.hid (HKW.out.grow1 (below_allocd _) ho hg hat); obtain ⟨s0, s1, s2, s3⟩ := two_cells HG.out.1; clear ho hg hat)
        all_goals (
         have HK3 := Lib.hid HG.out.2
         have HF1 : Hid ((keptIx p rows (i + 1)).map hdr = k1 ++ [.slice A' row.length c']) := by
          show _ = _
          rw [HKI.out, HPK.out, if_pos rfl, List.map_append, HKL.out.1, List.map_cons, List.map_nil, HD.out.1]
         have HF2 : Hid (brAt bs i = false → ((brkTo p rows bs (i + 1)).map fun n => Value.int .i64 n) = k2) := by
          intro hb
          rw [HBI.out, hb, Bool.and_false, if_neg (by decide), HKL.out.2.1]
         have HF3 : Hid (brAt bs i = true → ((brkTo p rows bs (i + 1)).map fun n => Value.int .i64 n) = k2 ++ [.int .i64 ((k1.length : Int) + 1)]) := by
          intro hb
          have hl : (keptIx p rows (i + 1)).length = k1.length + 1 := by
           have := congrArg List.length HF1.out
           rw [List.length_map, List.length_append] at this
           simpa using this
          rw [HBI.out, hb, HPK.out, Bool.and_true, if_pos rfl, List.map_append, HKL.out.2.1, List.map_cons, List.map_nil, hl]
          rfl
         clear HG s0 s1 s2 s3 e0 e1 z0 z1 e0a y0 hks
         generalize w2.setCell ⟨w.heap.size + 1, 0, none⟩ (.slice A4 (k1.length + 1) c4) = W3 at *
         clear HKI HBI HKL HKW hpi HK
         go_wp2_with fail
         go_loopg [14] bs.length (fun g s14 wz => ∃ k : Nat, s14 = .int .i64 k ∧ k + g = bs.length ∧ (∀ k', k' < k → ¬ bs.getD k' 0 = (i : Int) + 1) ∧ wz = W3)
         case atStart => exact ⟨0, rfl, by omega, fun _ h => by omega, rfl⟩
         case round =>
          obtain ⟨k, rfl, hkg, hno, rfl⟩ := hrel
          have HNO := Lib.hid hno
          clear hno
          cases gk with
          | zero =>
           have hkz : ¬ (k : Int) < (bs.length : Int) := by omega
           have HBF : Hid (brAt bs i = false) := br_none fun k' hk' => HNO.out k' (by omega)
           go_wp2_with fail
           go_roundg g
           case measure => omega
           case rel => exact ⟨i + 1, _, _, by go_num, by omega, by rw [HF1.out, HF2.out HBF.out]; exact HK3.out⟩
          | succ g3 =>
           have hkz : (k : Int) < (bs.length : Int) := by omega
           obtain ⟨t0, t1, z0, z1⟩ := two_cells HK3.out.b9
           rcases H2.out with h | ⟨b2, o2, hA2, hb2, hn2⟩
           ·exfalso; rw [h] at hkz; simp at hkz; omega
           have n0 := (HK3.out.below.cell (p := ⟨b2, o2 + k, none⟩) hb2).trans (hn2 k (by omega))
           have HBT : Hid (bs.getD k 0 = (i : Int) + 1 → brAt bs i = true) := fun h => br_some (by omega) h
           have HNX : Hid (¬ bs.getD k 0 = (i : Int) + 1 → ∀ k', k' < k + 1 → ¬ bs.getD k' 0 = (i : Int) + 1) := fun h k' hk' => by
            rcases Nat.lt_or_ge k' k with q | q
            ·exact HNO.out k' q
            ·rw [show k' = k by omega]; exact h
           subst hA2
           generalize bs.getD k 0 = b at *
           clear hn2
           by_cases hbe : b = (i : Int) + 1
           ·have HBF := Lib.hid (HBT.out hbe)
            have hz := HK3.out.size
            subst hbe
            clear HBT HNX
            have hm61 : k2.length ≤ 60 := hm60
            go_wp2_with (at_builtin; refine wpList_append_own_at _ rfl _ _ 23 rfl (w.heap.size + 2) 3 i3 (.int .i64 0) 1 8 Tryz.underlying23 HI3.out HY0.out HY1.out HY2.out rfl (by decide) _ _ _ rfl (HK3.out.own2.alloc _) ⟨_, 0, none⟩ 1 1 [.int .i64 ((k1.length : Int) + 1)] rfl rfl (cell_one_new _ _ _) (by intro u hu; simp at hu; subst hu; rfl) (by unfold maxLen; omega) (by omega) (by simp; omega) ?_; intro v' w5 ho hg hxx hat; obtain ⟨A5, c5, rfl⟩ := own_form ho; have HG2 := Lib.hid (HK3.out.grow2 ((Below.refl _ _).alloc (Nat.le_refl _) _) ho hg hat); obtain ⟨s0, s1, s2, s3⟩ := two_cells HG2.out.1; clear ho hg hat hxx)
            go_roundg g
            case measure => omega
            case rel => exact ⟨i + 1, _, _, by go_num, by omega, by rw [HF1.out, HF3.out HBF.out]; exact HG2.out.2⟩
           ·have hbe2 : (b == (i : Int) + 1) = false := beq_eq_false_iff_ne.2 hbe
            have HN := Lib.hid (HNX.out hbe)
            clear HBT HNX
            go_wp2_with fail
            go_roundg g3
            case measure => omega
            case rel => exact ⟨k + 1, by go_num, by omega, HN.out, rfl⟩)
      | succ g2 =>
       have hj : (j : Int) < (fs.length : Int) := by omega
       rcases H3.out with h | ⟨b3, o3, hA3, hb3, hf3⟩
       ·exfalso; rw [h] at hj; simp at hj; omega
       subst hA3
       obtain ⟨f0, f1, f2, f3, f4, f5⟩ := (hf3 j (by omega)).below hbw hb3
       have hfo := HFO.out j (by omega)
       have HT : Hid (allTo low eqf fs cols row (j + 1) = (kb && oneB low eqf cols row (fAt fs j))) := by show _ = _; rw [← hkb]; rfl
       unfold oneB at HT
       have K25j := fun a w1 ha hb => K25.out a (fAt fs j) w1 ha hfo hb
       have y0 := (hby.cell (p := ⟨bx, ox + i, none⟩) (Nat.lt_of_lt_of_le hbx HK.out.below.size)).trans HX.out
       generalize fAt fs j = f at *
       obtain ⟨m, op, ⟨ck, ct, cn⟩, fd⟩ := f
       dsimp only at f0 f1 f2 f3 f4 f5 HT K25j hfo
       have HBY := Lib.hid (And.intro hby hbw)
       have K25k := Lib.hid K25j
       clear hf3 hfo hkb K25j
       by_cases hn1 : 1 ≤ m
       ·by_cases hn2 : m ≤ (cols : Int)
        ·rw [if_pos ⟨hn1, hn2⟩] at HT
         cases kb with
         | false =>
          have HT2 : Hid (allTo low eqf fs cols row (j + 1) = false) := by show _ = _; rw [HT.out]; rfl
          clear HT hby hbw
          go_upto_region 16 with fail
          go_quiet (fail)
          go_wp2_with fail
          go_roundg g2
          case measure => omega
          case rel => exact ⟨j + 1, by go_num, by omega, by rw [HT2.out], below_drewN HBY.out.1 nq⟩
         | true =>
          by_cases hn3 : m ≤ (row.length : Int)
          ·obtain ⟨N, rfl⟩ : ∃ N : Nat, m = (N : Int) + 1 := ⟨(m - 1).toNat, by omega⟩
           have hN : N < row.length := by omega
           have hNz : (N : Int) < (row.length : Int) := by omega
           have eN : (N : Int) + 1 - 1 = (N : Int) := by omega
           rw [eN, Int.toNat_natCast, decide_eq_true hn3, Bool.true_and, Bool.true_and] at HT
           have hcok := HD.out.2.2 N hN
           rcases HD.out.2.1 with h | ⟨b1, o1, hA, hb1, hcc⟩
           ·exfalso; rw [h] at hN; simp at hN
           subst hA
           obtain ⟨g0, g1, g3⟩ := (hcc N hN).below hbw hb1
           have hsz := hcok.said
           have KX := Lib.hid (fun w => K26.out (cAt row N) w hcok)
           generalize saidOf (cAt row N) = S at *
           generalize cAt row N = c at *
           obtain ⟨xk, xt, xn⟩ := c
           dsimp only at g0 g1 g3 KX
           obtain ⟨M, hM⟩ : ∃ M, matchB low eqf op fd S (saidOf ⟨ck, ct, cn⟩) = M := ⟨_, rfl⟩
           rw [hM] at HT
           have KL26 : Hid (∀ u : Later wr, Calls Tryz.prog 26 #[.agg #[.int .i64 xk, .string xt, .int .i64 xn]] u.wd fun e w' => e = .returned (.string S) ∧ ∃ u : Later wr, w' = u.wd) := fun u => Later.call (KX.out u.wd)
           have KL25 : Hid (∀ u : Later wr, Calls Tryz.prog 25 #[.string S, .agg #[.int .i64 ((N : Int) + 1), .int .i64 op, .int .i64 ck, .string ct, .int .i64 cn, .bool fd]] u.wd fun e w' => e = .returned (.bool M) ∧ ∃ u : Later wr, w' = u.wd) := fun u => Later.call (by have h := K25k.out S u.wd hsz (HBY.out.2.trans (u.below.mono HBY.out.2.size)); rw [hM] at h; exact h)
           have hw2 := hbw.size
           have F : Hid (∀ u : Later wr, u.wd.cell? ⟨bx, ox + i, none⟩ = some (.slice (some ⟨b1, o1, none⟩) row.length c') ∧ (CellIs u.wd b1 (o1 + N * 3) ⟨xk, xt, xn⟩) ∧ FiltIs u.wd b3 (o3 + j * 6) ⟨(N : Int) + 1, op, ⟨ck, ct, cn⟩, fd⟩) := fun u =>
            ⟨(u.below.cell (p := ⟨bx, ox + i, none⟩) (Nat.lt_of_lt_of_le hbx hw2)).trans y0, CellIs.below ⟨g0, g1, g3⟩ u.below (Nat.lt_of_lt_of_le hb1 hw2), FiltIs.below ⟨f0, f1, f2, f3, f4, f5⟩ u.below (Nat.lt_of_lt_of_le hb3 hw2)⟩
           have q0 := fun u => (F.out u).1
           have q1 := fun u => (F.out u).2.1.k
           have q2 := fun u => (F.out u).2.1.t
           have q3 := fun u => (F.out u).2.1.n
           have q4 := fun u => (F.out u).2.2.num
           have q5 := fun u => (F.out u).2.2.op
           have q6 := fun u => (F.out u).2.2.k
           have q7 := fun u => (F.out u).2.2.t
           have q8 := fun u => (F.out u).2.2.n
           have q9 := fun u => (F.out u).2.2.fold
           dsimp only at q1 q2 q3 q4 q5 q6 q7 q8 q9
           clear hM hby hbw hcc hcok hsz KX
           go_upto_region 16 with fail
           refine wp_region_later (by kernel_rfl) (by kernel_rfl) ?_
           repeat (go_big_quiet_step (first | with_reducible exact KL26.out _ | with_reducible exact KL25.out _))
           refine wpQuiet_nil ?_
           intro w3 hw3
           obtain ⟨⟨w4, hb4⟩, hw4⟩ := hw3
           have hw5 : w3 = w4 := hw4
           subst hw5
           have HB3 := Lib.hid (HBY.out.1.trans (hb4.mono HBY.out.1.size))
           clear hb4 hw4 q0 q1 q2 q3 q4 q5 q6 q7 q8 q9
           go_wp2_with fail
           go_roundg g2
           case measure => omega
           case rel => exact ⟨j + 1, by go_num, by omega, by rw [HT.out], HB3.out⟩
          ·have HT2 : Hid (allTo low eqf fs cols row (j + 1) = false) := by show _ = _; rw [HT.out, decide_eq_false hn3]; rfl
           obtain ⟨A9, c9, e9⟩ : ∃ A9 c9, hdr i = .slice A9 row.length c9 := ⟨_, _, HD.out.1⟩
           have k3 : decide (m ≤ (row.length : Int)) = false := decide_eq_false hn3
           clear HT hby hbw
           go_upto_region 16 with fail
           go_quiet (fail)
           go_wp2_with fail
           go_roundg g2
           case measure => omega
           case rel => exact ⟨j + 1, by go_num, by omega, by rw [HT2.out], below_drewN HBY.out.1 nq⟩
        ·rw [if_neg (fun h => hn2 h.2), Bool.and_true] at HT
         clear hby hbw
         go_wp2_with fail
         go_roundg g2
         case measure => omega
         case rel => exact ⟨j + 1, by go_num, by omega, by rw [HT.out], HBY.out.1⟩
       ·rw [if_neg (fun h => hn1 h.1), Bool.and_true] at HT
        clear hby hbw
        go_wp2_with fail
        go_roundg g2
        case measure => omega
        case rel => exact ⟨j + 1, by go_num, by omega, by rw [HT.out], HBY.out.1⟩

end
end Go.Proofs.YtgolhmiocjpohaaGreatDoor
