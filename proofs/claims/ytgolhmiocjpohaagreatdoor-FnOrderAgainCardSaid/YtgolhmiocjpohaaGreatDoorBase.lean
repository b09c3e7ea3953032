/- Words that the walks of this claim share: how a slice of texts, and a slice of rows of texts, lies in memory; posts behind a name. No condition. -/
import Derived.Test.YtgolhmiocjpohaaGreatDoorProg
import Derived.Test.YtgolhmiocjpohaaGreatDoorPlain1
import Derived.StillTailTactics
import Derived.Below
import Derived.Deep.Draws
import Derived.Deep.AppendLies
import Derived.Maps.AppendAt
import Derived.OwnWalk
import Derived.Laws.BytesArg
import Derived.Laws.MakeOwn
import Derived.Laws.OwnMore
import Derived.Deep.OwnRows
import Derived.Tactics
import Derived.Lib.ConvBytes
import Derived.Laws.Slices
import Derived.WalkKit
import Derived.KernelRfl
import Derived.RowKit3
import Derived.Deep.LoopGhost
import Derived.Deep.QuietTactic
import Derived.BigQuiet
import Derived.WideLaws
import Derived.Deep.DeepCutAuto
import Derived.Deep.CutBlock
import Derived.Deep.RegionHeld3
import Derived.Laws.Rows
import Derived.Lib.AppendStr
import Derived.Lib.Hide
import Derived.ArgAppend
import Derived.Laws.IdiomCopy
import Derived.OrdersHeld
import Derived.Laws.BitsLemmas
import Derived.RowKit
import Derived.WalkSpells
import Derived.WalkLawsBesides
import Derived.Outline
import Derived.Handy
import Derived.IntWalk
namespace Go.Proofs.YtgolhmiocjpohaaGreatDoor
open Go.RowKit

/-- A post: some bool of which P holds is handed back, the world as it was. -/
def BoolThat (P : Bool → Prop) (w : World) (e : Ending) (w' : World) : Prop := ∃ b, e = .returned (.bool b) ∧ P b ∧ w = w'

/-- The slots of a slice of texts. -/
def StrsAt (w : World) (A : Option Addr) (ss : List ByteArray) : Prop :=
  ss = [] ∨ ∃ b o, A = some ⟨b, o, none⟩ ∧ b < w.heap.size ∧ ∀ i, i < ss.length → w.cell? ⟨b, o + i, none⟩ = some (.string (sAt ss i))

theorem StrsAt.get {w : World} {A : Option Addr} {ss : List ByteArray} (h : StrsAt w A ss) {i : Nat} (hi : i < ss.length) :
    ∃ b o, A = some ⟨b, o, none⟩ ∧ b < w.heap.size ∧ w.cell? ⟨b, o + i, none⟩ = some (.string (sAt ss i)) := by
  rcases h with rfl | ⟨b, o, rfl, hb, hc⟩
  · simp at hi
  · exact ⟨b, o, rfl, hb, hc i hi⟩

/-- The slots of a slice of rules. -/
def RulesAt (w : World) (A : Option Addr) (rs : List Rule) : Prop :=
  rs = [] ∨ ∃ b o, A = some ⟨b, o, none⟩ ∧ b < w.heap.size ∧ ∀ i, i < rs.length →
    w.cell? ⟨b, o + i * 3, none⟩ = some (.int .i64 (rAt rs i).number) ∧ w.cell? ⟨b, o + i * 3 + 1, none⟩ = some (.int .i64 (rAt rs i).mode) ∧ w.cell? ⟨b, o + i * 3 + 2, none⟩ = some (.bool (rAt rs i).fold)

theorem RulesAt.get {w : World} {A : Option Addr} {rs : List Rule} (h : RulesAt w A rs) {i : Nat} (hi : i < rs.length) :
    ∃ b o, A = some ⟨b, o, none⟩ ∧ b < w.heap.size ∧ w.cell? ⟨b, o + i * 3, none⟩ = some (.int .i64 (rAt rs i).number) ∧ w.cell? ⟨b, o + i * 3 + 1, none⟩ = some (.int .i64 (rAt rs i).mode) ∧ w.cell? ⟨b, o + i * 3 + 2, none⟩ = some (.bool (rAt rs i).fold) := by
  rcases h with rfl | ⟨b, o, rfl, hb, hc⟩
  · simp at hi
  · exact ⟨b, o, rfl, hb, hc i hi⟩

theorem StrsAt.below {w w' : World} {A : Option Addr} {ss : List ByteArray} (h : StrsAt w A ss) (hb : Below w.heap.size w w') : StrsAt w' A ss := by
  rcases h with rfl | ⟨b, o, rfl, hk, hc⟩
  · exact Or.inl rfl
  · exact Or.inr ⟨b, o, rfl, by have := hb.size; omega, fun i hi => by rw [hb.cell (p := ⟨b, o + i, none⟩) hk]; exact hc i hi⟩

theorem RulesAt.below {w w' : World} {A : Option Addr} {rs : List Rule} (h : RulesAt w A rs) (hb : Below w.heap.size w w') : RulesAt w' A rs := by
  rcases h with rfl | ⟨b, o, rfl, hk, hc⟩
  · exact Or.inl rfl
  · refine Or.inr ⟨b, o, rfl, by have := hb.size; omega, fun i hi => ?_⟩
    rw [hb.cell (p := ⟨b, o + i * 3, none⟩) hk, hb.cell (p := ⟨b, o + i * 3 + 1, none⟩) hk, hb.cell (p := ⟨b, o + i * 3 + 2, none⟩) hk]
    exact hc i hi

/-- The i-th row of a list (an empty one beyond it). -/
def rowAt (rows : List (List ByteArray)) (i : Nat) : List ByteArray := rows.getD i []

/-- The slots of a slice of rows of texts. -/
def RowsAt (w : World) (A : Option Addr) (rows : List (List ByteArray)) : Prop :=
  rows = [] ∨ ∃ b o, A = some ⟨b, o, none⟩ ∧ b < w.heap.size ∧ ∀ i, i < rows.length → ∃ A' c', w.cell? ⟨b, o + i, none⟩ = some (.slice A' (rowAt rows i).length c') ∧ StrsAt w A' (rowAt rows i)

theorem RowsAt.get {w : World} {A : Option Addr} {rows : List (List ByteArray)} (h : RowsAt w A rows) {i : Nat} (hi : i < rows.length) :
    ∃ b o A' c', A = some ⟨b, o, none⟩ ∧ b < w.heap.size ∧ w.cell? ⟨b, o + i, none⟩ = some (.slice A' (rowAt rows i).length c') ∧ StrsAt w A' (rowAt rows i) := by
  rcases h with rfl | ⟨b, o, rfl, hb, hc⟩
  · simp at hi
  · obtain ⟨A', c', h1, h2⟩ := hc i hi
    exact ⟨b, o, A', c', rfl, hb, h1, h2⟩

theorem RowsAt.below {w w' : World} {A : Option Addr} {rows : List (List ByteArray)} (h : RowsAt w A rows) (hb : Below w.heap.size w w') : RowsAt w' A rows := by
  rcases h with rfl | ⟨b, o, rfl, hk, hc⟩
  · exact Or.inl rfl
  · refine Or.inr ⟨b, o, rfl, by have := hb.size; omega, fun i hi => ?_⟩
    obtain ⟨A', c', h1, h2⟩ := hc i hi
    exact ⟨A', c', by rw [hb.cell (p := ⟨b, o + i, none⟩) hk]; exact h1, h2.below hb⟩

theorem heap_drew (w : World) : w.drew.heap = w.heap := rfl
theorem heap_drewN (w : World) (n : Nat) : (w.drewN n).heap = w.heap := rfl
theorem cell_heap_eq {w w' : World} (e : w'.heap = w.heap) (a : Addr) : w'.cell? a = w.cell? a := by unfold World.cell?; rw [e]

theorem StrsAt.heap_eq {w w' : World} {A : Option Addr} {ss : List ByteArray} (h : StrsAt w A ss) (e : w'.heap = w.heap) : StrsAt w' A ss := by
  rcases h with rfl | ⟨b, o, rfl, hk, hc⟩
  · exact Or.inl rfl
  · exact Or.inr ⟨b, o, rfl, by rw [e]; exact hk, fun i hi => by rw [cell_heap_eq e]; exact hc i hi⟩

end Go.Proofs.YtgolhmiocjpohaaGreatDoor
