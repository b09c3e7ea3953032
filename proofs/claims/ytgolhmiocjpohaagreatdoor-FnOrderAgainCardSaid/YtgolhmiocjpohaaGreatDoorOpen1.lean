/- The law's arguments, opened: rows of texts, and rules of sorting. No condition. What the row's list of laid variables tells the walks (Glob). No condition. -/
import Derived.Test.YtgolhmiocjpohaaGreatDoorBase
import Derived.Deep.Slices
import Derived.Deep.Strs
import Derived.SliceStrings
import Derived.Test.YtgolhmiocjpohaaGreatDoorSpec1
import Derived.Test.YtgolhmiocjpohaaGreatDoorRows
import Derived.Lib.LaidTab
import Derived.LaidLaws
import Derived.LaidSub
set_option linter.unusedVariables false
set_option linter.unusedSimpArgs false
namespace Go.Proofs.YtgolhmiocjpohaaGreatDoor
open Go.RowKit Go.ChangeShapes Go.WideShapes Go.Deep

theorem cells44 : Tryz.prog.cellsOf 44 = 1 := by kernel_rfl
theorem cells9 : Tryz.prog.cellsOf 9 = 1 := by kernel_rfl
theorem cells85 : Tryz.prog.cellsOf 85 = 3 := by kernel_rfl
theorem cells3 : Tryz.prog.cellsOf 3 = 1 := by kernel_rfl
theorem cells4 : Tryz.prog.cellsOf 4 = 1 := by kernel_rfl

section
variable {H : Type} {enc : TypeId × Value → H} {W : World}

/-- A cell that is there lies in a block that is there. -/
theorem there {a : Addr} {v : Value} (h : W.cell? a = some v) : a.block < W.heap.size := World.block_lt_of_cell? W a h

/-- One row. -/
theorem open_texts {fuel : Nat} {v : Value} {x : DataW H × List MemPlace} (h : DataW.trod enc Tryz.prog W 0 (fun _ => true) true fuel 44 [v] = some x) :
    ∃ (row : List ByteArray) (A : Option Addr) (c : Nat), v = .slice A row.length c ∧ StrsAt W A row ∧ row.length ≤ maxLen := by
  rcases open_strings Tryz.underlying44 Tryz.underlying9 cells9 h with ⟨hcs, _⟩ | ⟨a, len, cap, ss, hcs, _, hl, hm, hz, _, hcell, _⟩
  · simp at hcs
    subst hcs
    exact ⟨[], none, 0, rfl, Or.inl rfl, Nat.zero_le _⟩
  · simp at hcs
    subst hcs
    simp only [if_true] at hz
    have hlen : (ss.take len).length = len := by simp; omega
    refine ⟨ss.take len, some a, cap, by rw [hlen], ?_, by rw [hlen]; omega⟩
    by_cases h0 : len = 0
    · subst h0; exact Or.inl rfl
    · obtain ⟨b, off, spot⟩ := a
      have hspot : spot = none := by simpa [Addr.add] using World.cell?_spot (hcell 0 (by omega))
      subst hspot
      refine Or.inr ⟨b, off, rfl, there (hcell 0 (by omega)), fun i hi => ?_⟩
      rw [hlen] at hi
      have := hcell i (by omega)
      rw [add_plain] at this
      rw [this]
      congr 2
      unfold sAt
      simp [List.getD_eq_getElem?_getD, List.getElem?_take, hi]

/-- All rows. -/
theorem open_rows {fuel : Nat} {a0 : Option Addr} {len cap : Nat} {x : DataW H × List MemPlace} (h : DataW.trod enc Tryz.prog W 0 (fun _ => true) true fuel 38 [.slice a0 len cap] = some x) :
    ∃ rows : List (List ByteArray), rows.length = len ∧ RowsAt W a0 rows ∧ len ≤ maxLen ∧ ∀ i, i < rows.length → (rowAt rows i).length ≤ maxLen := by
  rcases open_slice1 Tryz.underlying38 cells44 h with ⟨hcs, _⟩ | ⟨a, len', cap', m, n, V, D, Pl, hcs, _, hl, hm, hmm, _, hx⟩
  · simp at hcs
    obtain ⟨rfl, rfl, rfl⟩ := hcs
    exact ⟨[], rfl, Or.inl rfl, Nat.zero_le _, fun i hi => by simp at hi⟩
  · simp at hcs
    obtain ⟨rfl, rfl, rfl⟩ := hcs
    simp only [if_true] at hmm
    subst hmm
    obtain ⟨R, hR⟩ := choose_lt (α := List ByteArray) (p := fun i row => ∃ A c, V i = .slice A row.length c ∧ StrsAt W A row ∧ row.length ≤ maxLen) (n := m) (fun i hi => open_texts (hx i hi).2)
    have hat : ∀ i, i < len → rowAt ((List.range len).map R) i = R i := fun i hi => by
      unfold rowAt
      simp [List.getD_eq_getElem?_getD, hi]
    have hrl : ((List.range len).map R).length = len := by simp
    refine ⟨(List.range len).map R, hrl, ?_, by omega, fun i hi => ?_⟩
    · by_cases h0 : len = 0
      · subst h0; exact Or.inl rfl
      · obtain ⟨b, off, spot⟩ := a
        have hspot : spot = none := by simpa [Addr.add] using World.cell?_spot (hx 0 (by omega)).1
        subst hspot
        refine Or.inr ⟨b, off, rfl, there (hx 0 (by omega)).1, fun i hi => ?_⟩
        rw [hrl] at hi
        rw [hat i hi]
        obtain ⟨A, c, h1, h2, _⟩ := hR i (by omega)
        refine ⟨A, c, ?_, h2⟩
        have := (hx i (by omega)).1
        rw [add_plain] at this
        rw [this, h1]
    · rw [hrl] at hi
      rw [hat i hi]
      obtain ⟨A, c, _, _, h3⟩ := hR i (by omega)
      exact h3

set_option maxRecDepth 100000 in
/-- The rules. -/
theorem open_rules {fuel : Nat} {a0 : Option Addr} {len cap : Nat} {x : DataW H × List MemPlace} (h : DataW.trod enc Tryz.prog W 0 (fun _ => true) true fuel 39 [.slice a0 len cap] = some x) :
    ∃ rs : List Rule, rs.length = len ∧ RulesAt W a0 rs ∧ len ≤ maxLen := by
  rcases open_slice Tryz.underlying39 h with ⟨hcs, _⟩ | ⟨a, len', cap', m, n, D, Pl, hcs, _, hl, hm, hmm, _, hx⟩
  · simp at hcs
    obtain ⟨rfl, rfl, rfl⟩ := hcs
    exact ⟨[], rfl, Or.inl rfl, Nat.zero_le _⟩
  · simp at hcs
    obtain ⟨rfl, rfl, rfl⟩ := hcs
    simp only [if_true] at hmm
    subst hmm
    have each : ∀ i, i < m → ∃ r : Rule, W.cell? (a.add (i * 3)) = some (.int .i64 r.number) ∧ W.cell? (a.add (i * 3 + 1)) = some (.int .i64 r.mode) ∧ W.cell? (a.add (i * 3 + 2)) = some (.bool r.fold) := by
      intro i hi
      obtain ⟨cs', h1, h2⟩ := hx i hi
      rw [cells85] at h1
      obtain ⟨_, hlen, hcell⟩ := World.cells?_some h1
      obtain ⟨xs, k, hk, hxy, _, hxl, hf⟩ := DataW.trod_struct Tryz.underlying85 h2
      match xs, hxl, cs', hlen with
      | [y0, y1, y2], _, [v0, v1, v2], _ =>
        have g0 := hf 0 _ rfl
        have g1 := hf 1 _ rfl
        have g2 := hf 2 _ rfl
        simp [cells3, cells4] at g0 g1 g2
        obtain ⟨n0, q0, _⟩ := DataW.trod_int Tryz.underlying3 g0
        obtain ⟨n1, q1, _⟩ := DataW.trod_int Tryz.underlying3 g1
        obtain ⟨n2, q2, _⟩ := DataW.trod_bool Tryz.underlying4 g2
        simp at q0 q1 q2
        subst q0 q1 q2
        have e0 := hcell 0 (by omega)
        have e1 := hcell 1 (by omega)
        have e2 := hcell 2 (by omega)
        rw [Deep.add_add] at e0 e1 e2
        exact ⟨⟨n0, n1, n2⟩, by simpa using e0, by simpa using e1, by simpa using e2⟩
    obtain ⟨R, hR⟩ := choose_lt each
    have hat : ∀ i, i < len → rAt ((List.range len).map R) i = R i := fun i hi => by
      unfold rAt
      simp [List.getD_eq_getElem?_getD, hi]
    have hrl : ((List.range len).map R).length = len := by simp
    refine ⟨(List.range len).map R, hrl, ?_, by omega⟩
    by_cases h0 : len = 0
    · subst h0; exact Or.inl rfl
    · obtain ⟨b, off, spot⟩ := a
      have hspot : spot = none := by simpa [Addr.add] using World.cell?_spot (hR 0 (by omega)).1
      subst hspot
      refine Or.inr ⟨b, off, rfl, there (hR 0 (by omega)).1, fun i hi => ?_⟩
      rw [hrl] at hi
      rw [hat i hi]
      obtain ⟨h1, h2, h3⟩ := hR i (by omega)
      rw [add_plain] at h1 h2 h3
      exact ⟨h1, by rw [← h2]; congr 2, by rw [← h3]; congr 2⟩

end
end Go.Proofs.YtgolhmiocjpohaaGreatDoor

set_option linter.unusedVariables false
set_option linter.unusedSimpArgs false
namespace Go.Proofs.YtgolhmiocjpohaaGreatDoor
open Go.RowKit Go.ChangeShapes Go.WideShapes Go.Deep

/-- A listed variable, as the list has it. -/
theorem laid_has {P : Program} {w : World} : ∀ {l : List (String × DataW Unit)} {ps : List MemPlace}, DataW.LaidVars P w l ps → ∀ n d, (n, d) ∈ l →
    ∃ g t cs fuel p, P.globalNamed n = some g ∧ (P.globals[g]?).map (·.type) = some t ∧ w.var? P n = some cs ∧ DataW.trod (fun _ => ()) P w 0 (fun _ => true) false fuel t cs.toList = some (d, p)
  | [], _, _, n, d, hm => by cases hm
  | (n', d') :: r, ps, h, n, d, hm => by
    obtain ⟨g, t, cs, fuel, p, q, h1, h2, h3, h4, h5, h6⟩ := h
    rcases List.mem_cons.1 hm with e | e
    · cases e
      exact ⟨g, t, cs, fuel, p, h1, h2, h3, h4⟩
    · exact laid_has h5 n d e

theorem g6 : Tryz.prog.globalNamed "strconv.ErrSyntax" = some 6 := by kernel_rfl
theorem g9 : Tryz.prog.globalNamed "internal/strconv.optimize" = some 9 := by kernel_rfl
theorem g10 : Tryz.prog.globalNamed "internal/strconv.float64info" = some 10 := by kernel_rfl
theorem g19 : Tryz.prog.globalNamed "math/bits.deBruijn64tab" = some 19 := by kernel_rfl
theorem t6 : (Tryz.prog.globals[6]?).map (·.type) = some 127 := by kernel_rfl
theorem t9 : (Tryz.prog.globals[9]?).map (·.type) = some 4 := by kernel_rfl
theorem t10 : (Tryz.prog.globals[10]?).map (·.type) = some 245 := by kernel_rfl
theorem c154 : Tryz.prog.cellsOf 154 = 1 := by kernel_rfl

/-- The four variables that the walks read of. -/
structure Laid4 (W : World) : Prop where
  es : ∃ d, ("strconv.ErrSyntax", Rows.laid_strconv_ErrSyntax) ∈ d ∧ ∃ ps, DataW.LaidVars Tryz.prog W d ps
  op : ∃ d, ("internal/strconv.optimize", Rows.laid_internal_strconv_optimize) ∈ d ∧ ∃ ps, DataW.LaidVars Tryz.prog W d ps
  mb : ∃ d, ("internal/strconv.float64info", Rows.laid_internal_strconv_float64info) ∈ d ∧ ∃ ps, DataW.LaidVars Tryz.prog W d ps
  last : ∃ d x, ("math/bits.deBruijn64tab", x) ∈ d ∧ ∃ ps, DataW.LaidVars Tryz.prog W d ps

theorem var_lt {w : World} {n : String} {g : Nat} {cs : Array Value} (hg : Tryz.prog.globalNamed n = some g) (h : w.var? Tryz.prog n = some cs) : g < w.heap.size := by
  unfold World.var? at h
  rw [hg] at h
  simp only [Option.bind_some] at h
  split at h
  · rename_i hh
    exact (Array.getElem?_eq_some_iff.1 hh).1
  · cases h

set_option maxRecDepth 100000 in
theorem Laid4.glob {W : World} (h : Laid4 W) : Glob W := by
  refine ⟨?_, ?_, ?_, ?_⟩
  · obtain ⟨l, hm, ps, hl⟩ := h.mb
    obtain ⟨g, t, cs, fuel, p, e1, e2, e3, e4⟩ := laid_has hl _ _ hm
    obtain rfl := Option.some.inj (g10.symm.trans e1)
    obtain rfl := Option.some.inj (t10.symm.trans e2)
    unfold Rows.laid_internal_strconv_float64info at e4
    obtain ⟨xs, k, _, hxy, hl3, hxl, hf⟩ := DataW.trod_struct Tryz.underlying245 e4
    have hc := World.var?_cell g10 e3 0
    match xs, hxl with
    | [y0, y1, y2], _ =>
      have q0 := hf 0 _ rfl
      simp [c154] at q0
      obtain ⟨n0, r0, r1, _⟩ := DataW.trod_int Tryz.underlying154 q0
      simp at hxy
      rw [hc]
      have hn : n0 = 52 := by
        have h1 := hxy.1.1
        rw [r1] at h1
        simp at h1
        exact h1.symm
      subst hn
      have h0 : cs.toList[0]? = some (.int .u64 52) := by
        have := congrArg (fun l : List Value => l[0]?) r0
        simpa [List.getElem?_take] using this
      simpa using h0
  · obtain ⟨l, hm, ps, hl⟩ := h.op
    obtain ⟨g, t, cs, fuel, p, e1, e2, e3, e4⟩ := laid_has hl _ _ hm
    obtain rfl := Option.some.inj (g9.symm.trans e1)
    obtain rfl := Option.some.inj (t9.symm.trans e2)
    unfold Rows.laid_internal_strconv_optimize at e4
    obtain ⟨b, q1, q2⟩ := DataW.trod_bool Tryz.underlying4 e4
    have hc := World.var?_cell g9 e3 0
    simp at q2
    rw [hc]
    have : cs = #[.bool b] := by cases cs; simp at q1; rw [q1]
    rw [this, ← q2.1]
    rfl
  · obtain ⟨l, hm, ps, hl⟩ := h.es
    obtain ⟨g, t, cs, fuel, p, e1, e2, e3, e4⟩ := laid_has hl _ _ hm
    obtain rfl := Option.some.inj (g6.symm.trans e1)
    obtain rfl := Option.some.inj (t6.symm.trans e2)
    unfold Rows.laid_strconv_ErrSyntax at e4
    obtain ⟨f', u, v, q1, _, _⟩ := iface_of_trod Tryz.underlying127 e4
    have hc := World.var?_cell g6 e3 0
    have : cs = #[.iface u v] := by cases cs; simp at q1; rw [q1]
    refine ⟨u, v, ?_⟩
    rw [hc, this]
    rfl
  · obtain ⟨l, x, hm, ps, hl⟩ := h.last
    obtain ⟨g, t, cs, fuel, p, e1, e2, e3, e4⟩ := laid_has hl _ _ hm
    obtain rfl := Option.some.inj (g19.symm.trans e1)
    have := var_lt g19 e3
    omega

end Go.Proofs.YtgolhmiocjpohaaGreatDoor
