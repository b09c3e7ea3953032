/- The shelf's contract of strings.ToLower on ASCII, laid at this program. The texts that the reference's Ordered lets in: on them strings.ToLower and both readings of floats compute what the order is over; by it the package's less is a strict weak order. No condition beyond that on the texts. -/
import Derived.Test.YtgolhmiocjpohaaGreatDoorLay0
import Derived.Shelf.Strings.OnBuilder
import Derived.Test.YtgolhmiocjpohaaGreatDoorLess
import Derived.Test.YtgolhmiocjpohaaGreatDoorStd9
import Derived.Test.YtgolhmiocjpohaaGreatDoorPlain4
import Derived.Test.YtgolhmiocjpohaaGreatDoorSpec3
import Derived.Lib.Bytes
namespace Go.Proofs.YtgolhmiocjpohaaGreatDoor
open Go.RowKit
/-- Lower case, of ASCII. -/
def lowOf (s : ByteArray) : ByteArray := ⟨(Lib.toLowerA s.data.toList).toArray⟩
theorem std_ToLower (s : ByteArray) (w : World) (hs : s.size ≤ 140737488355328) (hascii : ∀ (j : Nat) (b : UInt8), s.data.toList[j]? = some b → b.toNat < 128) :
    Calls Tryz.prog 40 #[.string s] w (TextIs (lowOf s) w) := Any.strings_ToLower_ascii Tryz.lays159 Tryz.Builder_Extra_159 s w hs hascii
end Go.Proofs.YtgolhmiocjpohaaGreatDoor

set_option linter.unusedVariables false
set_option linter.unusedSimpArgs false
namespace Go.Proofs.YtgolhmiocjpohaaGreatDoor
open Go.RowKit Go.PlainAid Go.Sort

/-- A plain text that is a word but no name of a float, a whole number, or empty. -/
structure Dom (s : ByteArray) : Prop where
  single : SingleP s
  size : s.size ≤ 2147483647
  kind : (WordedP s ∧ namedB s = false) ∨ WholeP s ∨ s.size = 0

theorem Dom.of {s : ByteArray} {m : Int} (h : CellOk s m) (hs : s.size ≤ 2147483647) : Dom s := by
  obtain ⟨h1, h2⟩ := h
  refine ⟨h1, hs, ?_⟩
  rcases h2 with ⟨a, b, _⟩ | a | ⟨a, _⟩
  · exact Or.inl ⟨a, b⟩
  · exact Or.inr (Or.inl a)
  · exact Or.inr (Or.inr a)

theorem whole_head {s : ByteArray} (h : WholeP s) : 0 < s.size ∧ ((48 ≤ bt s 0 ∧ bt s 0 ≤ 57) ∨ bt s 0 = 45) := by
  by_cases hm : 0 < s.size ∧ bt s 0 = 45
  · exact ⟨hm.1, Or.inr hm.2⟩
  · have := h.2 hm
    exact ⟨this.1, Or.inl (this.2.2 0 this.1)⟩

theorem worded_not_whole {s : ByteArray} (h : WordedP s) : ¬ WholeP s := by
  intro hw
  have h1 := h.2 0 h.1
  have h2 := (whole_head hw).2
  unfold LetterP at h1
  omega

theorem empty_not_whole {s : ByteArray} (h : s.size = 0) : ¬ WholeP s := fun hw => by have := (whole_head hw).1; omega

theorem lowA_list {s word : ByteArray} (h : FoldP s word) : (lowA s).toList = Lib.bytesOf ((List.range word.size).map fun j => bt word j) := by
  have e : lowNums s = (List.range word.size).map fun j => bt word j := by
    unfold lowNums
    rw [h.1]
    apply List.map_congr_left
    intro j hj
    exact h.2 j (by rw [h.1]; simpa using hj)
  unfold lowA
  rw [e]
  exact Lib.strOfNums_toList _

theorem not_named {s : ByteArray} (h : namedB s = false) : ¬ FoldP s wNan ∧ ¬ FoldP s wInf ∧ ¬ FoldP s wInfinity := by
  unfold namedB at h
  refine ⟨fun hf => ?_, fun hf => ?_, fun hf => ?_⟩
  · rw [lowA_list hf, show Lib.bytesOf ((List.range wNan.size).map fun j => bt wNan j) = [110, 97, 110] from by decide] at h
    revert h
    decide
  · rw [lowA_list hf, show Lib.bytesOf ((List.range wInf.size).map fun j => bt wInf j) = [105, 110, 102] from by decide] at h
    revert h
    decide
  · rw [lowA_list hf, show Lib.bytesOf ((List.range wInfinity.size).map fun j => bt wInfinity j) = [105, 110, 102, 105, 110, 105, 116, 121] from by decide] at h
    revert h
    decide

theorem empty_no_fold {s word : ByteArray} (h : s.size = 0) (hw : 0 < word.size) : ¬ FoldP s word := fun hf => by have := hf.1; omega

theorem Dom.names {s : ByteArray} (h : (WordedP s ∧ namedB s = false) ∨ s.size = 0) : ¬ FoldP s wNan ∧ ¬ FoldP s wInf ∧ ¬ FoldP s wInfinity := by
  rcases h with ⟨_, h⟩ | h
  · exact not_named h
  · exact ⟨empty_no_fold h (by decide), empty_no_fold h (by decide), empty_no_fold h (by decide)⟩

theorem said_low : LowSaid Dom lowOf := fun s w h => by
  refine std_ToLower s w (by have := h.size; omega) fun j b hb => ?_
  have hj : j < s.size := by
    have := (List.getElem?_eq_some_iff.1 hb).1
    simpa using this
  have h1 := h.single j hj
  have h2 := bt_data s j hj
  rw [List.getD_eq_getElem?_getD, hb] at h2
  simp only [Option.getD_some] at h2
  omega

theorem said_light : LightSaid Dom numOf := fun s w h => by
  have hsz := h.size
  rcases h.kind with h1 | h1 | h1
  · obtain ⟨a, b, c⟩ := Dom.names (Or.inl h1)
    rw [numOf_not (worded_not_whole h1.1)]
    exact light_none s w hsz (Or.inl h1.1) a b c
  · exact light_whole s w h1
  · obtain ⟨a, b, c⟩ := Dom.names (Or.inr h1)
    rw [numOf_not (empty_not_whole h1)]
    exact light_none s w hsz (Or.inr h1) a b c

theorem said_std : StdSaid Dom numOf := fun s w h hg => by
  have hsz := h.size
  rcases h.kind with h1 | h1 | h1
  · obtain ⟨a, b, c⟩ := Dom.names (Or.inl h1)
    rw [numOf_not (worded_not_whole h1.1)]
    exact std_none s w hsz ⟨Or.inr ⟨h1.1.1, h1.1.2 0 h1.1.1⟩, fun w => std_special_word s w hsz h1.1 a b c⟩ hg
  · exact std_whole s w h1 hg
  · rw [numOf_not (empty_not_whole h1)]
    exact std_none s w hsz ⟨Or.inl h1, fun w => std_special_empty s w h1⟩ hg

end Go.Proofs.YtgolhmiocjpohaaGreatDoor
