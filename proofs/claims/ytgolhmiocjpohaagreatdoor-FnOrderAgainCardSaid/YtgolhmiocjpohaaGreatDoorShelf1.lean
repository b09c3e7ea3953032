/- The shelf's contracts of the sort family that ask nothing of less: laid at this program, and told in 'Moved'. -/
import Derived.Test.YtgolhmiocjpohaaGreatDoorLay0
import Derived.Shelf.GgSortFunc.Slice
import Derived.Shelf.GgSortFunc.LotD
import Derived.Shelf.SlSortFunc.BreakPatterns
import Derived.Sort.AssemblyPlain
import Derived.Test.YtgolhmiocjpohaaGreatDoorSort0
namespace Go.Proofs.YtgolhmiocjpohaaGreatDoor
open Go.RowKit Go.Sort

/-- An index as a value. -/
def encN (n : Nat) : Value := .int .i64 (n : Int)

theorem putCells_nat (d d' : Array Nat) (h : d'.size = d.size) : putCells encN 0 d' (natCells d) = natCells d' := by
  apply Array.ext
  · simp [putCells, natCells, h]
  · intro i h1 h2
    have hi : i < d'.size := by simpa [natCells] using h2
    have hi' : i < d.size := by omega
    simp [putCells, natCells, encN, hi, getElem!_pos]

theorem Moved.sortWorld {g n m : Nat} {d : Array Nat} {w0 w : World} (h : Moved g n m d w0 w) (d' : Array Nat) (hl : d'.size = n) (ho : ∀ i, i < n → d'[i]! < m) (q : Nat) (os : Array Obj) :
    Moved g n m d' w0 (sortWorld encN w g 0 q d' os) := by
  have hs : (putRow encN (Sort.ahead w q) g 0 d').heap.size = w.heap.size := by simp [putRow, mapBlock, Sort.ahead]
  have hlt := h.lt
  refine ⟨?_, hl, ho, h.os, h.tape, h.output, ?_, ?_⟩
  · show ((putRow encN (Sort.ahead w q) g 0 d').heap ++ os)[g]? = _
    rw [Array.getElem?_append_left (by omega)]
    show (w.heap.modify g _)[g]? = _
    rw [Array.getElem?_modify]
    simp only [if_true, h.row, Option.map_some, onCells]
    rw [putCells_nat d d' (by rw [hl, h.len])]
  · show w0.heap.size ≤ ((putRow encN (Sort.ahead w q) g 0 d').heap ++ os).size
    rw [Array.size_append, hs]
    have := h.size
    omega
  · intro k hk hg
    show ((putRow encN (Sort.ahead w q) g 0 d').heap ++ os)[k]? = _
    have := h.size
    rw [Array.getElem?_append_left (by omega)]
    show (w.heap.modify g _)[k]? = _
    rw [Array.getElem?_modify]
    rw [if_neg (by omega)]
    exact h.block k hk hg

theorem ok_perm {n m a b : Nat} {d d' : Array Nat} (hl : d.size = n) (ho : ∀ i, i < n → d[i]! < m) (hp : PermIn a b d d') (hb : b ≤ n) : d'.size = n ∧ ∀ i, i < n → d'[i]! < m := by
  refine ⟨hp.1.trans hl, fun i hi => ?_⟩
  by_cases h : a ≤ i ∧ i < b
  · exact permIn_all d d' a b (fun x => x < m) (by omega) hp (fun j h1 h2 => ho j (by omega)) i h.1 h.2
  · rw [hp.2.1 i (by omega)]
    exact ho i hi

section
variable {w0 : World} {g n m : Nat} {lt : Nat → Nat → Bool} {gl : Nat} {lb : Array Value} {sf : Nat} {sb : Array Value}
theorem sort_reverse (hS : SwapSwaps Tryz.prog sf sb encN g 0 n) (d : Array Nat) (w : World) (hw : Moved g n m d w0 w) (a b : Nat) (hab : a ≤ b) (hb : b ≤ n) (hn : n ≤ 2147483647) :
    Calls Tryz.prog 113 #[.agg #[.func (.func gl) #[] lb, .func (.func sf) #[] sb], .int .i64 a, .int .i64 b] w (SortsTo g n m (reverseRange d a b) w) := by
  have hp := reverseRange_holds d a b hab (by rw [hw.len]; exact hb)
  obtain ⟨h1, h2⟩ := ok_perm hw.len hw.ok hp hb
  refine (Any.reverseRange_func_w Tryz.laysGg30 encN (.func gl) #[] lb sf sb g 0 a b d w (by rw [hw.len]; exact hS) hw.holds hw.lt hab (by rw [hw.len]; exact hb) (by rw [hw.len]; omega)).mono ?_
  rintro e w' ⟨rfl, q, os, rfl⟩
  exact ⟨rfl, hw.self.sortWorld _ h1 h2 q os⟩
theorem sort_break (hS : SwapSwaps Tryz.prog sf sb encN g 0 n) (d : Array Nat) (w : World) (hw : Moved g n m d w0 w) (a b : Nat) (hab : a ≤ b) (hb : b ≤ n) (hn : n ≤ 2147483647) :
    Calls Tryz.prog 111 #[.agg #[.func (.func gl) #[] lb, .func (.func sf) #[] sb], .int .i64 a, .int .i64 b] w (SortsTo g n m (breakPatterns d a b) w) := by
  have hp := breakPatterns_holds d a b hab (by rw [hw.len]; exact hb)
  obtain ⟨h1, h2⟩ := ok_perm hw.len hw.ok hp hb
  refine (Any.breakPatterns_func_w Tryz.laysGg28 encN (.func gl) #[] lb sf sb g 0 a b d w (by rw [hw.len]; exact hS) hw.holds hw.lt hab (by rw [hw.len]; exact hb) (by rw [hw.len]; omega)).mono ?_
  rintro e w' ⟨rfl, q, os, rfl⟩
  exact ⟨rfl, hw.self.sortWorld _ h1 h2 q os⟩
end
end Go.Proofs.YtgolhmiocjpohaaGreatDoor
