/- The order again: what is sorted twice stands alike, place by place, as far as the reference can tell. Plain. -/
import Derived.Test.YtgolhmiocjpohaaGreatDoorSaid
import Derived.Test.YtgolhmiocjpohaaGreatDoorImpl5
set_option linter.unusedVariables false
set_option linter.unusedSimpArgs false
namespace Go.Proofs.YtgolhmiocjpohaaGreatDoor
open Go.RowKit Go.PlainAid Go.Sort

theorem mem_rAt {rs : List Rule} {r : Rule} (h : r ∈ rs) : ∃ i, i < rs.length ∧ rAt rs i = r := by
  obtain ⟨i, hi, e⟩ := List.mem_iff_getElem.1 h
  exact ⟨i, hi, by unfold rAt; rw [List.getD_eq_getElem?_getD, List.getElem?_eq_getElem hi]; exact e⟩

/-- What the reference's Ordered says, and the guard on sizes. -/
structure Fine (columns : Int) (rows : List (List ByteArray)) (rs : List Rule) : Prop where
  rules : ∀ i, i < rs.length → RuleOk columns rows (rAt rs i)
  sizes : ∀ x, x < rows.length → (rowAt rows x).length ≤ 2147483647 ∧ ∀ i, i < (rowAt rows x).length → (sAt (rowAt rows x) i).size ≤ 2147483647

theorem cell_size {row : List ByteArray} {n : Int} (hn : 1 ≤ n) (h : ∀ i, i < row.length → (sAt row i).size ≤ 2147483647) : (cellOf row n).size ≤ 2147483647 := by
  unfold cellOf
  split
  · exact h _ (by omega)
  · exact Nat.zero_le _

/-- What a rule asks of a cell. -/
def RuleDom (r : Rule) (s : ByteArray) : Prop := Dom s ∧ (r.mode = 2 ∨ r.mode = 6 → WholeP s)

theorem Fine.cell {columns : Int} {rows : List (List ByteArray)} {rs : List Rule} (h : Fine columns rows rs) {r : Rule} (hr : r ∈ rs) (h1 : 1 ≤ r.number) (h2 : r.number ≤ columns) {x : Nat} (hx : x < rows.length) :
    RuleDom r (cellOf (rowAt rows x) r.number) := by
  obtain ⟨i, hi, rfl⟩ := mem_rAt hr
  obtain ⟨_, _, h3⟩ := h.rules i hi
  have hc := h3 h1 h2 x hx
  refine ⟨Dom.of hc (cell_size h1 (h.sizes x hx).2), fun hm => ?_⟩
  obtain ⟨_, h4⟩ := hc
  rcases h4 with ⟨_, _, h5⟩ | h5 | ⟨_, h5⟩
  · exfalso; omega
  · exact h5
  · exfalso; omega

theorem Fine.rowsOk {columns : Int} {rows : List (List ByteArray)} {rs : List Rule} (h : Fine columns rows rs) {x : Nat} (hx : x < rows.length) : RowsOk Dom columns rs (rowAt rows x) :=
  fun r hr h1 h2 => (h.cell hr h1 h2 hx).1

theorem Fine.inRow {columns : Int} {rows : List (List ByteArray)} {rs : List Rule} (h : Fine columns rows rs) {x : Nat} (hx : x < rows.length) : InRow RuleDom (keepR columns rs) (rowAt rows x) :=
  fun r hr => by
    obtain ⟨a, b, c⟩ := keepR_mem hr
    exact h.cell a b c hx

theorem Fine.modes {columns : Int} {rows : List (List ByteArray)} {rs : List Rule} (h : Fine columns rows rs) : ModesOk rs := fun r hr => by
  obtain ⟨i, hi, rfl⟩ := mem_rAt hr
  exact ⟨(h.rules i hi).1, (h.rules i hi).2.1⟩


theorem swo_all (columns : Int) (rs : List Rule) : SWOn (InRow RuleDom (keepR columns rs)) ((rowLess lowOf numOf false (keepR columns rs))) :=
  rowLess_swo (keepR columns rs) fun r _ => good_bef lowOf (numVal (RuleDom r)) r.mode r.fold fun hm s hs => by
    rw [numOf_whole (hs.2 hm)]
    rfl

theorem Fine.swo {columns : Int} {rows : List (List ByteArray)} {rs : List Rule} (h : Fine columns rows rs) : SWO (ltI lowOf numOf (keepR columns rs) rows) :=
  ltI_swo (P := InRow RuleDom (keepR columns rs)) (swo_all columns rs) fun x hx => h.inRow hx

/-- The rows in an order. -/
def byIx (rows : List (List ByteArray)) (ix : List Nat) : List (List ByteArray) := ix.map fun i => rowAt rows i

theorem byIx_length (rows : List (List ByteArray)) (ix : List Nat) : (byIx rows ix).length = ix.length := by simp [byIx]
theorem byIx_at {rows : List (List ByteArray)} {ix : List Nat} {i : Nat} (hi : i < ix.length) : rowAt (byIx rows ix) i = rowAt rows (nAt ix i) := by
  simp only [byIx, rowAt, nAt, List.getD_eq_getElem?_getD, List.getElem?_map, List.getElem?_eq_getElem hi, Option.map_some, Option.getD_some]

theorem perm_bound {ix : List Nat} {n : Nat} (h : ix.Perm (List.range n)) {i : Nat} (hi : i < ix.length) : nAt ix i < n := by
  rw [nAt_eq hi]
  have : ix[i] ∈ List.range n := h.mem_iff.1 (List.getElem_mem hi)
  simpa using this

theorem perm_permP {ix : List Nat} {n : Nat} (h : ix.Perm (List.range n)) : PermP ix := by
  have hl : ix.length = n := by have := h.length_eq; simpa using this
  refine ⟨fun i hi => by have := perm_bound h hi; omega, fun i j hij hj => ?_⟩
  have hnd : ix.Nodup := h.nodup_iff.2 List.nodup_range
  rw [nAt_eq (by omega), nAt_eq hj]
  exact List.pairwise_iff_getElem.1 hnd i j (by omega) hj hij

theorem Fine.again {columns : Int} {rows : List (List ByteArray)} {rs : List Rule} (h : Fine columns rows rs) {ix : List Nat} (hp : ix.Perm (List.range rows.length)) : Fine columns (byIx rows ix) rs := by
  refine ⟨fun i hi => ?_, fun x hx => ?_⟩
  · obtain ⟨h1, h2, h3⟩ := h.rules i hi
    refine ⟨h1, h2, fun a b k hk => ?_⟩
    rw [byIx_length] at hk
    rw [byIx_at hk]
    exact h3 a b _ (perm_bound hp hk)
  · rw [byIx_length] at hx
    rw [byIx_at hx]
    exact h.sizes _ (perm_bound hp hx)

theorem rowAt_eq {rows : List (List ByteArray)} {i : Nat} (hi : i < rows.length) : rowAt rows i = rows[i] := by
  unfold rowAt
  simp [List.getD_eq_getElem?_getD, hi]

theorem perm_byIx {rows : List (List ByteArray)} {ix : List Nat} (hp : ix.Perm (List.range rows.length)) : (byIx rows ix).Perm rows := by
  have h1 : (byIx rows ix).Perm ((List.range rows.length).map fun i => rowAt rows i) := hp.map _
  have h2 : ((List.range rows.length).map fun i => rowAt rows i) = rows := by
    apply List.ext_getElem
    · simp
    · intro i h1 h2
      simp [rowAt_eq h2]
  rwa [h2] at h1

/-- Sorted by places: sorted as a list. -/
theorem sorted_list {columns : Int} {rows : List (List ByteArray)} {rs : List Rule} {ix : List Nat} (hp : ix.Perm (List.range rows.length))
    (hs : ∀ i j, i < j → j < ix.length → ltI lowOf numOf (keepR columns rs) rows (nAt ix j) (nAt ix i) = false) :
    ∀ i j (hi : i < (byIx rows ix).length) (hj : j < (byIx rows ix).length), i < j → (rowLess lowOf numOf false (keepR columns rs)) (byIx rows ix)[j] (byIx rows ix)[i] = false := by
  intro i j hi hj hij
  rw [byIx_length] at hi hj
  have h1 := hs i j hij hj
  rw [ltI_in (perm_bound hp hj) (perm_bound hp hi), ← byIx_at hj, ← byIx_at hi, rowAt_eq (by rw [byIx_length]; exact hj), rowAt_eq (by rw [byIx_length]; exact hi)] at h1
  exact h1

/-- What the law asks of each place. -/
theorem order_again {columns : Int} {rows : List (List ByteArray)} {rs : List Rule} (h : Fine columns rows rs) {ix ix2 : List Nat} (hp : ix.Perm (List.range rows.length))
    (hs : ∀ i j, i < j → j < ix.length → ltI lowOf numOf (keepR columns rs) rows (nAt ix j) (nAt ix i) = false)
    (hp2 : ix2.Perm (List.range (byIx rows ix).length)) (hs2 : ∀ i j, i < j → j < ix2.length → ltI lowOf numOf (keepR columns rs) (byIx rows ix) (nAt ix2 j) (nAt ix2 i) = false)
    {i : Nat} (hi : i < ix2.length) :
    rowAhead lowOf numOf columns rs (rowAt (byIx rows ix) (nAt ix2 i)) (rowAt (byIx rows ix) i) = false ∧ rowAhead lowOf numOf columns rs (rowAt (byIx rows ix) i) (rowAt (byIx rows ix) (nAt ix2 i)) = false := by
  have h2 := h.again hp
  have hl2 : ix2.length = (byIx rows ix).length := by have := hp2.length_eq; simpa using this
  have hiL : i < (byIx rows ix).length := by omega
  have hM := perm_byIx hp2
  have sL := sorted_list hp hs
  have sM := sorted_list hp2 hs2
  have pL : ∀ x ∈ byIx rows ix, InRow RuleDom (keepR columns rs) x := fun x hx => by
    obtain ⟨k, hk, rfl⟩ := List.mem_iff_getElem.1 hx
    rw [← rowAt_eq hk]
    exact h2.inRow hk
  have hiM : i < (byIx (byIx rows ix) ix2).length := by rw [byIx_length]; exact hi
  have hiL' : i < (byIx rows ix).length := hiL
  have a1 := sorted_alike (swo_all columns rs) pL hM sL sM i hiL' hiM
  have pM : ∀ x ∈ byIx (byIx rows ix) ix2, InRow RuleDom (keepR columns rs) x := fun x hx => pL x (hM.mem_iff.1 hx)
  have a2 := sorted_alike (swo_all columns rs) pM hM.symm sM sL i hiM hiL'
  rw [← rowAt_eq hiL', ← rowAt_eq hiM, byIx_at hi] at a1 a2
  rw [rowAhead_keep, rowAhead_keep]
  exact ⟨ahead_less _ _ _ a2, ahead_less _ _ _ a1⟩

end Go.Proofs.YtgolhmiocjpohaaGreatDoor
