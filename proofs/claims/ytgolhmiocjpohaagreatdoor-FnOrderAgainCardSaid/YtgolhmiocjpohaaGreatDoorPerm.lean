/- The reference's spec.Permuted answers true of every list of places below its length that are all different. No other condition. -/
import Derived.Test.YtgolhmiocjpohaaGreatDoorBase
import Derived.Deep.OwnRows
set_option linter.unusedVariables false
set_option linter.unusedSimpArgs false
namespace Go.Proofs.YtgolhmiocjpohaaGreatDoor
open Go.RowKit

/-- The i-th place of a list; behind a name of its own, for the walks. -/
def nAt (d : List Nat) (i : Nat) : Nat := d.getD i 0

/-- The slots of a slice of ints. -/
def NatsAt (w : World) (A : Option Addr) (d : List Nat) : Prop :=
  d = [] ∨ ∃ b o, A = some ⟨b, o, none⟩ ∧ b < w.heap.size ∧ ∀ i, i < d.length → w.cell? ⟨b, o + i, none⟩ = some (.int .i64 (nAt d i))

theorem NatsAt.get {w : World} {A : Option Addr} {d : List Nat} (h : NatsAt w A d) {i : Nat} (hi : i < d.length) :
    ∃ b o, A = some ⟨b, o, none⟩ ∧ b < w.heap.size ∧ w.cell? ⟨b, o + i, none⟩ = some (.int .i64 (nAt d i)) := by
  rcases h with rfl | ⟨b, o, rfl, hb, hc⟩
  · simp at hi
  · exact ⟨b, o, rfl, hb, hc i hi⟩

theorem NatsAt.below {w w' : World} {A : Option Addr} {d : List Nat} (h : NatsAt w A d) (hb : Below w.heap.size w w') : NatsAt w' A d := by
  rcases h with rfl | ⟨b, o, rfl, hk, hc⟩
  · exact Or.inl rfl
  · exact Or.inr ⟨b, o, rfl, by have := hb.size; omega, fun i hi => by rw [hb.cell (p := ⟨b, o + i, none⟩) hk]; exact hc i hi⟩

/-- All places below the length, each once. -/
def PermP (d : List Nat) : Prop := (∀ i, i < d.length → nAt d i < d.length) ∧ ∀ i j, i < j → j < d.length → nAt d i ≠ nAt d j

/-- Which places have been met among the first k. -/
def met (d : List Nat) (k j : Nat) : Bool := (d.take k).contains j

theorem met_zero (d : List Nat) (j : Nat) : met d 0 j = false := by simp [met]

theorem nAt_eq {d : List Nat} {i : Nat} (hi : i < d.length) : nAt d i = d[i] := by simp [nAt, List.getD_eq_getElem?_getD, hi]

theorem met_succ {d : List Nat} {k : Nat} (hk : k < d.length) (j : Nat) : met d (k + 1) j = if j = nAt d k then true else met d k j := by
  unfold met
  rw [List.take_succ_eq_append_getElem hk, List.contains_append, nAt_eq hk]
  by_cases e : j = d[k]
  · simp [e]
  · simp [e, Ne.symm e]

theorem met_not {d : List Nat} (h : PermP d) {k : Nat} (hk : k < d.length) : met d k (nAt d k) = false := by
  unfold met
  rw [Bool.eq_false_iff]
  intro hc
  have hm : nAt d k ∈ d.take k := by simpa using hc
  obtain ⟨i, hi, he⟩ := List.mem_iff_getElem.1 hm
  have hik : i < k := by simp at hi; omega
  have := h.2 i k hik hk
  rw [nAt_eq (by omega)] at this
  exact this (by rw [← he]; simp)

theorem info4 : (Tryz.prog.info? 4).map (fun i => (i.zero, i.size, i.bytes)) = some (some (.bool false), 1, 1) := by kernel_rfl

set_option maxHeartbeats 1600000 in
set_option maxRecDepth 100000 in
theorem spec_Permuted (w : World) (A : Option Addr) (c : Nat) (d : List Nat) (h : NatsAt w A d) (hp : PermP d) (hl : d.length ≤ 2147483647) :
    Calls Tryz.prog 14 #[.slice A d.length c, .int .i64 d.length] w fun e w' => e = .returned (.bool true) ∧ Below w.heap.size w w' := by
  have hmk := run_make_row' (P := Tryz.prog) 49 4 (.bool false) 1 Tryz.underlying49 info4 rfl .i64 .i64 d.length (by omega) (by omega)
  have HN := Lib.hid h
  have HP := Lib.hid hp
  clear h hp
  go_enter Tryz.func14, Tryz.ntmps14
  go_wp2_with fail
  clear hmk
  go_loopw [6] (fun v wr => ∃ k : Nat, v = .int .i64 k ∧ k ≤ d.length ∧ Below w.heap.size w wr ∧ wr.rowIs w.heap.size 4 d.length (fun j => .bool (met d k j))) (fun v _ => d.length - (intOf v).toNat)
  case atStart => exact ⟨0, rfl, by omega, (Below.refl _ _).alloc (Nat.le_refl _) _, (World.rowIs_made w (.bool false) d.length 4).congr fun i _ => by rw [met_zero]⟩
  case round =>
    obtain ⟨k, rfl, hk, hbl, hrow⟩ := hrel
    have HBL := Lib.hid hbl
    have HROW := Lib.hid hrow
    clear hbl hrow
    by_cases hlt : k < d.length
    · obtain ⟨b, o, rfl, hb, hc⟩ := (HN.out.below HBL.out).get hlt
      have hlt2 := HP.out.1 k hlt
      have hm := HROW.out.cell hlt2
      rw [met_not HP.out hlt] at hm
      have hf := HROW.out.frozen (nAt d k)
      have hnext : Hid ((wr.setCell ⟨w.heap.size, nAt d k, none⟩ (.bool true)).rowIs w.heap.size 4 d.length (fun j => .bool (met d (k + 1) j))) :=
        (HROW.out.set (nAt d k) (.bool true)).congr fun i _ => by rw [met_succ hlt]; by_cases e : i = nAt d k <;> simp [e]
      have HB : Hid (b < wr.heap.size) := hb
      clear hb
      go_wp2_with fail
      go_roundw
      case rel => exact ⟨k + 1, by go_num, by omega, HBL.out.setCell (Nat.le_refl _) _, hnext.out⟩
      case measure => simp [intOf]; omega
    · go_wp2_with fail
      go_ret
      exact ⟨rfl, HBL.out⟩

end Go.Proofs.YtgolhmiocjpohaaGreatDoor
