/- The law's arguments, opened: rows of cells, numbers, filters. No condition. The law FnKeep (3): it answers true. Over what impl.Keep (7) does. No condition beyond sizes. The law FnKeep (3) answers true, over what the package's Keep (7) does. No condition beyond that. -/
import Derived.Deep.Slices
import Derived.Deep.Strs
import Derived.SliceStrings
import Derived.Test.YtgolhmiocjpohaaGreatDoorPf1
import Derived.Test.YtgolhmiocjpohaaGreatDoorKs1
import Derived.Test.YtgolhmiocjpohaaGreatDoorFo5
set_option linter.unusedVariables false
set_option linter.unusedSimpArgs false
namespace Go.Proofs.YtgolhmiocjpohaaGreatDoor
open Go.RowKit Go.ChangeShapes Go.WideShapes Go.Deep

/-- What a cell's number keeps to. -/
def NumOkD (c : CellD) : Prop := -9223372036854775808 ≤ c.n ∧ c.n ≤ 9223372036854775807

instance : Inhabited CellD := ⟨noCell⟩
instance : Inhabited FiltD := ⟨noFilt⟩

theorem k3 : Tryz.prog.cellsOf 3 = 1 := by kernel_rfl
theorem k4 : Tryz.prog.cellsOf 4 = 1 := by kernel_rfl
theorem k9 : Tryz.prog.cellsOf 9 = 1 := by kernel_rfl
theorem k27 : Tryz.prog.cellsOf 27 = 1 := by kernel_rfl
theorem k29 : Tryz.prog.cellsOf 29 = 3 := by kernel_rfl
theorem k31 : Tryz.prog.cellsOf 31 = 6 := by kernel_rfl

section
variable {H : Type} {enc : TypeId × Value → H} {W : World}

theorem is_there {a : Addr} {v : Value} (h : W.cell? a = some v) : a.block < W.heap.size := World.block_lt_of_cell? W a h

set_option maxRecDepth 100000 in
theorem open_cell {fuel : Nat} {cs : List Value} {x : DataW H × List MemPlace} (h : DataW.trod enc Tryz.prog W 0 (fun _ => true) true fuel 29 cs = some x) :
  ∃ c : CellD, cs = [.int .i64 c.kind, .string c.text, .int .i64 c.n] ∧ NumOkD c := by
 obtain ⟨xs, k, hk, hxy, hlen, hxl, hf⟩ := DataW.trod_struct Tryz.underlying29 h
 rw [k29] at hlen
 match xs, hxl, cs, hlen with
 | [y0, y1, y2], _, [v0, v1, v2], _ =>
  have g0 := hf 0 _ rfl
  have g1 := hf 1 _ rfl
  have g2 := hf 2 _ rfl
  simp [k3, k9] at g0 g1 g2
  obtain ⟨n0, q0, _⟩ := DataW.trod_int Tryz.underlying3 g0
  obtain ⟨n1, q1, _⟩ := DataW.trod_string Tryz.underlying9 g1
  obtain ⟨n2, q2, _, hw⟩ := DataW.trod_int Tryz.underlying3 g2
  simp at q0 q1 q2
  subst q0 q1 q2
  refine ⟨⟨n0, n1, n2⟩, rfl, ?_⟩
  have e1 : IntKind.i64.min = -9223372036854775808 := by decide
  have e2 : IntKind.i64.max = 9223372036854775807 := by decide
  simp [Lit.wf] at hw
  show -9223372036854775808 ≤ n2 ∧ n2 ≤ 9223372036854775807
  omega

/-- One row. -/
theorem open_cells {fuel : Nat} {v : Value} {x : DataW H × List MemPlace} (h : DataW.trod enc Tryz.prog W 0 (fun _ => true) true fuel 27 [v] = some x) :
  ∃ (cs : List CellD) (A : Option Addr) (c : Nat), v = .slice A cs.length c ∧ CellsAt W A cs ∧ ∀ i, i < cs.length → NumOkD (cAt cs i) := by
 rcases open_slice Tryz.underlying27 h with ⟨hcs, _⟩ | ⟨a, len, cap, m, n, D, Pl, hcs, _, hl, hm, hmm, _, hx⟩
 ·simp at hcs
  subst hcs
  exact ⟨[], none, 0, rfl, Or.inl rfl, fun i hi => by simp at hi⟩
 ·simp at hcs
  subst hcs
  simp only [if_true] at hmm
  subst hmm
  have each : ∀ i, i < m → ∃ c : CellD, (W.cell? (a.add (i * 3)) = some (.int .i64 c.kind) ∧ W.cell? (a.add (i * 3 + 1)) = some (.string c.text) ∧ W.cell? (a.add (i * 3 + 2)) = some (.int .i64 c.n)) ∧ NumOkD c := by
   intro i hi
   obtain ⟨cs', h1, h2⟩ := hx i hi
   rw [k29] at h1
   obtain ⟨_, hlen, hcell⟩ := World.cells?_some h1
   obtain ⟨c, rfl, hn⟩ := open_cell h2
   have e0 := hcell 0 (by omega)
   have e1 := hcell 1 (by omega)
   have e2 := hcell 2 (by omega)
   rw [Deep.add_add] at e0 e1 e2
   exact ⟨c, ⟨by simpa using e0, by simpa using e1, by simpa using e2⟩, hn⟩
  obtain ⟨R, hR⟩ := choose_lt each
  have hat : ∀ i, i < len → cAt ((List.range len).map R) i = R i := fun i hi => by
   unfold cAt
   simp [List.getD_eq_getElem?_getD, hi]
  have hrl : ((List.range len).map R).length = len := by simp
  refine ⟨(List.range len).map R, some a, m, by rw [hrl], ?_, fun i hi => ?_⟩
  ·by_cases h0 : len = 0
   ·subst h0; exact Or.inl rfl
   ·obtain ⟨b, off, spot⟩ := a
    have hspot : spot = none := by simpa [Addr.add] using World.cell?_spot (hR 0 (by omega)).1.1
    subst hspot
    refine Or.inr ⟨b, off, rfl, is_there (hR 0 (by omega)).1.1, fun i hi => ?_⟩
    rw [hrl] at hi
    rw [hat i hi]
    obtain ⟨h1, h2, h3⟩ := (hR i (by omega)).1
    rw [add_plain] at h1 h2 h3
    exact ⟨h1, by rw [← h2]; congr 2, by rw [← h3]; congr 2⟩
  ·rw [hrl] at hi
   rw [hat i hi]
   exact (hR i (by omega)).2

/-- All rows. -/
theorem open_grid {fuel : Nat} {a0 : Option Addr} {len cap : Nat} {x : DataW H × List MemPlace} (h : DataW.trod enc Tryz.prog W 0 (fun _ => true) true fuel 22 [.slice a0 len cap] = some x) :
  ∃ rows : List (List CellD), rows.length = len ∧ GridAt W a0 rows ∧ ∀ i, i < rows.length → ∀ j, j < (rwAt rows i).length → NumOkD (cAt (rwAt rows i) j) := by
 rcases open_slice1 Tryz.underlying22 k27 h with ⟨hcs, _⟩ | ⟨a, len', cap', m, n, V, D, Pl, hcs, _, hl, hm, hmm, _, hx⟩
 ·simp at hcs
  obtain ⟨rfl, rfl, rfl⟩ := hcs
  exact ⟨[], rfl, Or.inl rfl, fun i hi => by simp at hi⟩
 ·simp at hcs
  obtain ⟨rfl, rfl, rfl⟩ := hcs
  simp only [if_true] at hmm
  subst hmm
  obtain ⟨R, hR⟩ := choose_lt (α := List CellD) (p := fun i row => ∃ A c, V i = .slice A row.length c ∧ CellsAt W A row ∧ ∀ j, j < row.length → NumOkD (cAt row j)) (n := m) (fun i hi => open_cells (hx i hi).2)
  have hat : ∀ i, i < len → rwAt ((List.range len).map R) i = R i := fun i hi => by
   unfold rwAt
   simp [List.getD_eq_getElem?_getD, hi]
  have hrl : ((List.range len).map R).length = len := by simp
  refine ⟨(List.range len).map R, hrl, ?_, fun i hi => ?_⟩
  ·by_cases h0 : len = 0
   ·subst h0; exact Or.inl rfl
   ·obtain ⟨b, off, spot⟩ := a
    have hspot : spot = none := by simpa [Addr.add] using World.cell?_spot (hx 0 (by omega)).1
    subst hspot
    refine Or.inr ⟨b, off, rfl, is_there (hx 0 (by omega)).1, fun i hi => ?_⟩
    rw [hrl] at hi
    rw [hat i hi]
    obtain ⟨A, c, h1, h2, _⟩ := hR i (by omega)
    refine ⟨A, c, ?_, h2⟩
    have := (hx i (by omega)).1
    rw [add_plain] at this
    rw [this, h1]
  ·rw [hrl] at hi
   rw [hat i hi]
   obtain ⟨A, c, _, _, h3⟩ := hR i (by omega)
   exact h3

/-- Numbers. -/
theorem open_nums {fuel : Nat} {a0 : Option Addr} {len cap : Nat} {x : DataW H × List MemPlace} (h : DataW.trod enc Tryz.prog W 0 (fun _ => true) true fuel 23 [.slice a0 len cap] = some x) :
  ∃ ns : List Int, ns.length = len ∧ NumsAt W a0 ns := by
 rcases open_slice1 Tryz.underlying23 k3 h with ⟨hcs, _⟩ | ⟨a, len', cap', m, n, V, D, Pl, hcs, _, hl, hm, hmm, _, hx⟩
 ·simp at hcs
  obtain ⟨rfl, rfl, rfl⟩ := hcs
  exact ⟨[], rfl, Or.inl rfl⟩
 ·simp at hcs
  obtain ⟨rfl, rfl, rfl⟩ := hcs
  simp only [if_true] at hmm
  subst hmm
  obtain ⟨R, hR⟩ := choose_lt (α := Int) (p := fun i z => V i = .int .i64 z) (n := m) (fun i hi => by
   obtain ⟨n0, q0, _⟩ := DataW.trod_int Tryz.underlying3 (hx i hi).2
   exact ⟨n0, by simpa using q0⟩)
  have hrl : ((List.range len).map R).length = len := by simp
  refine ⟨(List.range len).map R, hrl, ?_⟩
  by_cases h0 : len = 0
  ·subst h0; exact Or.inl rfl
  ·obtain ⟨b, off, spot⟩ := a
   have hspot : spot = none := by simpa [Addr.add] using World.cell?_spot (hx 0 (by omega)).1
   subst hspot
   refine Or.inr ⟨b, off, rfl, is_there (hx 0 (by omega)).1, fun i hi => ?_⟩
   rw [hrl] at hi
   have := (hx i (by omega)).1
   rw [add_plain, hR i (by omega)] at this
   rw [this]
   simp [List.getD_eq_getElem?_getD, hi]

set_option maxRecDepth 100000 in
/-- Filters. -/
theorem open_filts {fuel : Nat} {a0 : Option Addr} {len cap : Nat} {x : DataW H × List MemPlace} (h : DataW.trod enc Tryz.prog W 0 (fun _ => true) true fuel 24 [.slice a0 len cap] = some x) :
  ∃ fs : List FiltD, fs.length = len ∧ FiltsAt W a0 fs ∧ ∀ i, i < fs.length → NumOkD (fAt fs i).value := by
 rcases open_slice Tryz.underlying24 h with ⟨hcs, _⟩ | ⟨a, len', cap', m, n, D, Pl, hcs, _, hl, hm, hmm, _, hx⟩
 ·simp at hcs
  obtain ⟨rfl, rfl, rfl⟩ := hcs
  exact ⟨[], rfl, Or.inl rfl, fun i hi => by simp at hi⟩
 ·simp at hcs
  obtain ⟨rfl, rfl, rfl⟩ := hcs
  simp only [if_true] at hmm
  subst hmm
  have each : ∀ i, i < m → ∃ f : FiltD, (W.cell? (a.add (i * 6)) = some (.int .i64 f.number) ∧ W.cell? (a.add (i * 6 + 1)) = some (.int .i64 f.op) ∧ W.cell? (a.add (i * 6 + 2)) = some (.int .i64 f.value.kind) ∧ W.cell? (a.add (i * 6 + 3)) = some (.string f.value.text) ∧
    W.cell? (a.add (i * 6 + 4)) = some (.int .i64 f.value.n) ∧ W.cell? (a.add (i * 6 + 5)) = some (.bool f.fold)) ∧ NumOkD f.value := by
   intro i hi
   obtain ⟨cs', h1, h2⟩ := hx i hi
   rw [k31] at h1
   obtain ⟨_, hlen, hcell⟩ := World.cells?_some h1
   obtain ⟨xs, k, hk, hxy, _, hxl, hf⟩ := DataW.trod_struct Tryz.underlying31 h2
   match xs, hxl, cs', hlen with
   | [y0, y1, y2, y3], _, [v0, v1, v2, v3, v4, v5], _ =>
    have g0 := hf 0 _ rfl
    have g1 := hf 1 _ rfl
    have g2 := hf 2 _ rfl
    have g3 := hf 3 _ rfl
    simp [k3, k4, k29] at g0 g1 g2 g3
    obtain ⟨n0, q0, _⟩ := DataW.trod_int Tryz.underlying3 g0
    obtain ⟨n1, q1, _⟩ := DataW.trod_int Tryz.underlying3 g1
    obtain ⟨c, q2, hn⟩ := open_cell g2
    obtain ⟨n3, q3, _⟩ := DataW.trod_bool Tryz.underlying4 g3
    simp at q0 q1 q2 q3
    obtain ⟨r0, r1, r2⟩ := q2
    subst q0 q1 q3 r0 r1 r2
    have e0 := hcell 0 (by omega)
    have e1 := hcell 1 (by omega)
    have e2 := hcell 2 (by omega)
    have e3 := hcell 3 (by omega)
    have e4 := hcell 4 (by omega)
    have e5 := hcell 5 (by omega)
    rw [Deep.add_add] at e0 e1 e2 e3 e4 e5
    exact ⟨⟨n0, n1, c, n3⟩, ⟨by simpa using e0, by simpa using e1, by simpa using e2, by simpa using e3, by simpa using e4, by simpa using e5⟩, hn⟩
  obtain ⟨R, hR⟩ := choose_lt each
  have hat : ∀ i, i < len → fAt ((List.range len).map R) i = R i := fun i hi => by
   unfold fAt
   simp [List.getD_eq_getElem?_getD, hi]
  have hrl : ((List.range len).map R).length = len := by simp
  refine ⟨(List.range len).map R, hrl, ?_, fun i hi => ?_⟩
  ·by_cases h0 : len = 0
   ·subst h0; exact Or.inl rfl
   ·obtain ⟨b, off, spot⟩ := a
    have hspot : spot = none := by simpa [Addr.add] using World.cell?_spot (hR 0 (by omega)).1.1
    subst hspot
    refine Or.inr ⟨b, off, rfl, is_there (hR 0 (by omega)).1.1, fun i hi => ?_⟩
    rw [hrl] at hi
    rw [hat i hi]
    obtain ⟨h1, h2, h3, h4, h5, h6⟩ := (hR i (by omega)).1
    rw [add_plain] at h1 h2 h3 h4 h5 h6
    exact ⟨h1, by rw [← h2]; congr 2, by rw [← h3]; congr 2, by rw [← h4]; congr 2, by rw [← h5]; congr 2, by rw [← h6]; congr 2⟩
  ·rw [hrl] at hi
   rw [hat i hi]
   exact (hR i (by omega)).2

end
end Go.Proofs.YtgolhmiocjpohaaGreatDoor

namespace Go.Proofs.YtgolhmiocjpohaaGreatDoor
open Go.RowKit Go.PlainAid

/-- What the law asks of a cell. -/
def AskD (c : CellD) : Prop := (c.kind = 0 ∨ c.kind = 1) ∧ c.text.size ≤ 400

theorem cell_ok {c : CellD} (h : AskD c) (hn : NumOkD c) : CellOkD c := by
 obtain ⟨h1, h2⟩ := h
 obtain ⟨h3, h4⟩ := hn
 constructor <;> first | exact h1 | exact h2 | exact ⟨h3, h4⟩ | omega

theorem strip_alike (c : CellD) (h : CellOkD c) : AlikeCell (stripC c) c := by
 unfold stripC AlikeCell saidOf
 rcases h.kind with h0 | h1
 ·simp [h0]
 ·simp [h1]

theorem strip_ok (c : CellD) (h : CellOkD c) : CellOkD (stripC c) := by
 unfold stripC
 obtain ⟨h1, h2, h3, h4⟩ := h
 by_cases hk : c.kind = 1
 ·rw [if_pos hk]
  exact ⟨Or.inr rfl, by show 0 ≤ 400; omega, h3, h4⟩
 ·rw [if_neg hk]
  exact ⟨Or.inl rfl, h2, by show (-9223372036854775808 : Int) ≤ 0; omega, by show (0 : Int) ≤ 9223372036854775807; omega⟩

theorem rw_map (ks : List Nat) (F : Nat → List CellD) (i : Nat) (hi : i < ks.length) : rwAt (ks.map F) i = F (ks.getD i 0) := by
 unfold rwAt
 rw [List.getD_eq_getElem?_getD, List.getD_eq_getElem?_getD, List.getElem?_map, List.getElem?_eq_getElem hi]
 rfl
theorem cAt_map (row : List CellD) (j : Nat) (hj : j < row.length) : cAt (row.map stripC) j = stripC (cAt row j) := by
 unfold cAt
 rw [List.getD_eq_getElem?_getD, List.getD_eq_getElem?_getD, List.getElem?_map, List.getElem?_eq_getElem hj]
 rfl
theorem getD_mem {ks : List Nat} {i : Nat} (hi : i < ks.length) : ks.getD i 0 ∈ ks := by
 rw [List.getD_eq_getElem?_getD, List.getElem?_eq_getElem hi]
 exact List.getElem_mem _

theorem kept_alike (rows : List (List CellD)) (ks : List Nat) (hks : ∀ k ∈ ks, k < rows.length) (hok : ∀ i, i < rows.length → (rwAt rows i).length ≤ 2147483647 ∧ ∀ j, j < (rwAt rows i).length → CellOkD (cAt (rwAt rows i) j)) :
  ∀ i, i < (ks.map fun k => (rwAt rows k).map stripC).length → (rwAt (ks.map fun k => (rwAt rows k).map stripC) i).length = (rwAt (ks.map (rwAt rows)) i).length ∧ (rwAt (ks.map fun k => (rwAt rows k).map stripC) i).length ≤ 2147483647 ∧
   ∀ j, j < (rwAt (ks.map fun k => (rwAt rows k).map stripC) i).length → AlikeCell (cAt (rwAt (ks.map fun k => (rwAt rows k).map stripC) i) j) (cAt (rwAt (ks.map (rwAt rows)) i) j) ∧ CellOkD (cAt (rwAt (ks.map fun k => (rwAt rows k).map stripC) i) j) ∧ CellOkD (cAt (rwAt (ks.map (rwAt rows)) i) j) := by
 intro i hi
 rw [List.length_map] at hi
 rw [rw_map ks _ i hi, rw_map ks _ i hi]
 obtain ⟨h1, h2⟩ := hok _ (hks _ (getD_mem hi))
 generalize rwAt rows (ks.getD i 0) = row at *
 refine ⟨List.length_map .., by rw [List.length_map]; exact h1, fun j hj => ?_⟩
 rw [List.length_map] at hj
 rw [cAt_map row j hj]
 exact ⟨strip_alike _ (h2 j hj), strip_ok _ (h2 j hj), h2 j hj⟩

/-- What is asked of the package's Keep (7). -/
def KeepC : Prop := ∀ (B : Nat) (w : World) (A1 A2 A3 : Option Addr) (c1 c2 c3 : Nat) (rows : List (List CellD)) (bs : List Int) (fs : List FiltD), GridAt w A1 rows → NumsAt w A2 bs → FiltsAt w A3 fs → EnvK B w →
 rows.length ≤ 60 → bs.length ≤ 60 → fs.length ≤ 8 → (∀ i, i < rows.length → (rwAt rows i).length ≤ 2147483647 ∧ ∀ j, j < (rwAt rows i).length → CellOkD (cAt (rwAt rows i) j)) → (∀ j, j < fs.length → CellOkD (fAt fs j).value) →
 Calls Tryz.prog 7 #[.slice A1 rows.length c1, .slice A2 bs.length c2, .slice A3 fs.length c3] w
  (KeptOut ((keptIx (fun row => allTo lowD eqfB fs (colsTo rows rows.length) row fs.length) rows rows.length).map fun k => (rwAt rows k).map stripC) (brkTo (fun row => allTo lowD eqfB fs (colsTo rows rows.length) row fs.length) rows bs rows.length) w)

end Go.Proofs.YtgolhmiocjpohaaGreatDoor

namespace Go.Proofs.YtgolhmiocjpohaaGreatDoor
open Go.RowKit Go.PlainAid

/-- The law's answer. -/
def Holds3 (w : World) (e : Ending) (w' : World) : Prop := e = .returned (.bool true) ∧ Below w.heap.size w w'

set_option maxHeartbeats 3200000 in
set_option maxRecDepth 100000 in
theorem law_small (w : World) (A1 A2 A3 : Option Addr) (c1 c2 c3 : Nat) (rows : List (List CellD)) (bs : List Int) (fs : List FiltD) (hG : GridAt w A1 rows) (hN : NumsAt w A2 bs) (hF : FiltsAt w A3 fs) (hno : ¬ (rows.length ≤ 60 ∧ bs.length ≤ 60 ∧ fs.length ≤ 8)) :
  Calls Tryz.prog 3 #[.slice A1 rows.length c1, .slice A2 bs.length c2, .slice A3 fs.length c3] w (Holds3 w) := by
 have K5 := Lib.hid (fun w1 (hb : Below w.heap.size w w1) => fits_rows w1 A1 c1 rows (hG.below hb))
 have K6 := Lib.hid (fun w1 (hb : Below w.heap.size w w1) => fits_filters w1 A3 c3 fs (hF.below hb))
 clear hG hN hF
 have hcase : (bs.length > 2147483647) ∨ (¬ bs.length > 2147483647 ∧ 60 < rows.length) ∨ (¬ bs.length > 2147483647 ∧ ¬ 60 < rows.length ∧ 60 < bs.length) ∨ (¬ bs.length > 2147483647 ∧ ¬ 60 < rows.length ∧ ¬ 60 < bs.length ∧ 8 < fs.length) := by omega
 clear hno
 rcases hcase with h1 | ⟨h1, h2⟩ | ⟨h1, h2, h3⟩ | ⟨h1, h2, h3, h4⟩
 all_goals
  go_enter Tryz.func3, Tryz.ntmps3
  go_wp2_with (first
   | (go_at_call 5; (with_reducible refine (K5.out _ (Below.refl _ _)).mono ?_); rintro e w1 ⟨b, rfl, hb, hb1⟩; have H1 := Lib.hid hb1; clear hb hb1; cases b)
   | (go_at_call 6; (with_reducible refine (K6.out _ H1.out).mono ?_); rintro e w2 ⟨b, rfl, hb, hb2⟩; have H2 := Lib.hid (H1.out.trans (hb2.mono H1.out.size)); clear hb hb2; cases b))
 all_goals
  go_wp2_with (first
   | (go_at_call 6; (with_reducible refine (K6.out _ H1.out).mono ?_); rintro e w2 ⟨b, rfl, hb, hb2⟩; have H2 := Lib.hid (H1.out.trans (hb2.mono H1.out.size)); clear hb hb2; cases b))
 all_goals
  go_wp2_with fail
 all_goals
  go_ret
  exact ⟨rfl, by first | exact H2.out | exact H1.out⟩

end Go.Proofs.YtgolhmiocjpohaaGreatDoor
