/- The package's copy of rows (table.zzRows): the new slice holds the same rows. No condition but a bound on how many there are. -/
import Derived.Test.YtgolhmiocjpohaaGreatDoorPerm
set_option linter.unusedVariables false
set_option linter.unusedSimpArgs false
namespace Go.Proofs.YtgolhmiocjpohaaGreatDoor
open Go.RowKit

/-- A row's header as a value. -/
def hdrV (h : Option Addr × Nat) (n : Nat) : Value := .slice h.1 n h.2

/-- The headers of rows, one by one. -/
def hdrs (hs : Nat → Option Addr × Nat) (rows : List (List ByteArray)) (k : Nat) : List Value := (List.range k).map fun i => hdrV (hs i) (rowAt rows i).length

theorem hdrs_length (hs : Nat → Option Addr × Nat) (rows : List (List ByteArray)) (k : Nat) : (hdrs hs rows k).length = k := by simp [hdrs]
theorem hdrs_succ (hs : Nat → Option Addr × Nat) (rows : List (List ByteArray)) (k : Nat) : hdrs hs rows (k + 1) = hdrs hs rows k ++ [hdrV (hs k) (rowAt rows k).length] := by
  simp [hdrs, List.range_succ]

theorem RowsAt.choose {w : World} {A : Option Addr} {rows : List (List ByteArray)} (h : RowsAt w A rows) :
    ∃ hs : Nat → Option Addr × Nat, ∀ i, i < rows.length → ∃ b o, A = some ⟨b, o, none⟩ ∧ b < w.heap.size ∧ w.cell? ⟨b, o + i, none⟩ = some (hdrV (hs i) (rowAt rows i).length) ∧ StrsAt w (hs i).1 (rowAt rows i) := by
  classical
  refine ⟨fun i => if hi : i < rows.length then (let p := (h.get hi); (p.choose_spec.choose_spec.choose, p.choose_spec.choose_spec.choose_spec.choose)) else (none, 0), fun i hi => ?_⟩
  have p := h.get hi
  refine ⟨p.choose, p.choose_spec.choose, ?_⟩
  have q := p.choose_spec.choose_spec.choose_spec.choose_spec
  simp only [dif_pos hi]
  exact ⟨q.1, q.2.1, q.2.2.1, q.2.2.2⟩

/-- What was collected by appending headers is a slice of those rows. -/
theorem rows_of_owns {w : World} {base e n : Nat} {v : Value} {hs : Nat → Option Addr × Nat} {rows : List (List ByteArray)} (h : w.ownsRow base e 1 v n (hdrs hs rows n)) (hn : n = rows.length)
    (hr : ∀ i, i < rows.length → StrsAt w (hs i).1 (rowAt rows i)) : ∃ A c, v = .slice A rows.length c ∧ RowsAt w A rows := by
  subst hn
  rcases h.2 with ⟨rfl, h0⟩ | ⟨g, cap, cur, rfl, hb, hg, hnc, hcm, hcs, htake⟩
  · exact ⟨none, 0, by rw [h0], Or.inl (List.eq_nil_of_length_eq_zero h0)⟩
  · refine ⟨some ⟨g, 0, none⟩, cap, rfl, ?_⟩
    by_cases h0 : rows = []
    · exact Or.inl h0
    · refine Or.inr ⟨g, 0, rfl, (Array.getElem?_eq_some_iff.1 hg).1, fun i hi => ⟨(hs i).1, (hs i).2, ?_, hr i hi⟩⟩
      have hc := World.ownsRow.cellAt h i (by omega)
      rw [Nat.zero_add, hc]
      simp [hdrs, hi, hdrV]

theorem info138 : (Tryz.prog.info? 138).map (fun i => (i.zero, i.size, i.bytes)) = some (some (.slice none 0 0), 1, 24) := by kernel_rfl

/-- A post: a slice of these rows is handed back. -/
def RowsIs (rows : List (List ByteArray)) (w : World) (e : Ending) (w' : World) : Prop := ∃ A c, e = .returned (.slice A rows.length c) ∧ RowsAt w' A rows ∧ Below w.heap.size w w'

set_option maxHeartbeats 1600000 in
set_option maxRecDepth 100000 in
theorem zzRows (w : World) (A : Option Addr) (c : Nat) (rows : List (List ByteArray)) (h : RowsAt w A rows) (hl : rows.length ≤ 2147483647) :
    Calls Tryz.prog 46 #[.slice A rows.length c] w (RowsIs rows w) := by
  obtain ⟨hs, hhs⟩ := h.choose
  have HHS := Lib.hid hhs
  clear hhs h
  obtain ⟨i0, hi, hz0, hz1, hz2⟩ := info_parts info138
  have HI := Lib.hid hi
  have HZ0 := Lib.hid hz0
  have HZ1 := Lib.hid hz1
  have HZ2 := Lib.hid hz2
  clear hi hz0 hz1 hz2
  go_enter Tryz.func46, Tryz.ntmps46
  go_wp2_with fail
  go_loopw [3, 8] (fun v u wr => ∃ k : Nat, u = .int .i64 k ∧ k ≤ rows.length ∧ Below w.heap.size w wr ∧ wr.ownsRow w.heap.size 138 1 v k (hdrs hs rows k)) (fun _ u _ => rows.length - (intOf u).toNat)
  case atStart => exact ⟨0, rfl, by omega, Below.refl _ _, World.ownsRow_nil _ _ _ _⟩
  case round =>
    obtain ⟨k, rfl, hk, hbl, hown⟩ := hrel
    have HBL := Lib.hid hbl
    have HOWN := Lib.hid hown
    clear hbl hown
    by_cases hlt : k < rows.length
    · obtain ⟨b, o, rfl, hb, hc, hsr⟩ := HHS.out k hlt
      have hc2 : wr.cell? ⟨b, o + k, none⟩ = some (.slice (hs k).1 (rowAt rows k).length (hs k).2) := by rw [HBL.out.cell (p := ⟨b, o + k, none⟩) hb]; exact hc
      clear hc hsr hb
      generalize hrl : (rowAt rows k).length = rl at *
      have HRL := Lib.hid hrl
      clear hrl
      go_wp2_with (at_builtin; refine wpList_append_own _ rfl _ _ 56 rfl w.heap.size 138 i0 (.slice none 0 0) 1 24 Tryz.underlying56 HI.out HZ0.out HZ1.out HZ2.out rfl (by decide) _ _ _ rfl (HOWN.out.alloc _) ⟨wr.heap.size, 0, none⟩ 1 1 [.slice (hs k).1 rl (hs k).2] rfl rfl ?c1 ?c2 ?c3 ?c4 ?c5 ?_)
      case c1 => exact cell_one_new _ _ _
      case c2 => intro u hu; simp at hu; subst hu; rfl
      case c3 => unfold maxLen; omega
      case c4 => omega
      case c5 => simp; exact Nat.le_trans HBL.out.size (Nat.le_succ _)
      intro v' w1 hown1 hgr1 _
      have HB1 : Hid (Below w.heap.size w w1) := (HBL.out.alloc HBL.out.size _).grown hgr1 (by simp; have := HBL.out.size; omega) (fun k hk => (HOWN.out.lt k hk).1)
      have HO1 : Hid (w1.ownsRow w.heap.size 138 1 v' (k + 1) (hdrs hs rows (k + 1))) := by
        show World.ownsRow _ _ _ _ _ _ _
        rw [hdrs_succ]
        unfold hdrV
        rw [HRL.out]
        exact hown1
      clear hown1 hgr1
      go_wp2_with fail
      go_roundw
      case rel => exact ⟨k + 1, by go_num, by omega, HB1.out, HO1.out⟩
      case measure => simp [intOf]; omega
    · go_wp2_with fail
      go_ret
      obtain ⟨A2, c2, rfl, hr2⟩ := rows_of_owns HOWN.out (by omega) (fun i hi => by obtain ⟨b, o, _, hb, _, hsr⟩ := HHS.out i hi; exact hsr.below HBL.out)
      exact ⟨A2, c2, rfl, hr2, HBL.out⟩

end Go.Proofs.YtgolhmiocjpohaaGreatDoor
