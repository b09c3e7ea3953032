/- The package's parseSortBy keeps the rules whose columns are there. No condition but bounds on lengths. -/
import Derived.Test.YtgolhmiocjpohaaGreatDoorImpl2
import Derived.Laws.EntriesVeiled
set_option linter.unusedVariables false
set_option linter.unusedSimpArgs false
namespace Go.Proofs.YtgolhmiocjpohaaGreatDoor
open Go.RowKit

/-- A table in memory: what is read of it. -/
structure TableAt (w : World) (tb : Nat) (columns : Int) (Ar : Option Addr) (cr : Nat) (rows : List (List ByteArray)) (As : Option Addr) (cs : Nat) (rs : List Rule) : Prop where
  n : w.cell? ⟨tb, 14, none⟩ = some (.int .i64 columns)
  r : w.cell? ⟨tb, 20, none⟩ = some (.slice Ar rows.length cr)
  s : w.cell? ⟨tb, 36, none⟩ = some (.slice As rs.length cs)
  rowsAt : RowsAt w Ar rows
  sbsAt : SbsAt w As rs
  lt : tb < w.heap.size

theorem TableAt.below {w w' : World} {tb : Nat} {columns : Int} {Ar : Option Addr} {cr : Nat} {rows : List (List ByteArray)} {As : Option Addr} {cs : Nat} {rs : List Rule} (h : TableAt w tb columns Ar cr rows As cs rs) (hb : Below w.heap.size w w') :
    TableAt w' tb columns Ar cr rows As cs rs :=
  ⟨by rw [hb.cell (p := ⟨tb, 14, none⟩) h.lt]; exact h.n, by rw [hb.cell (p := ⟨tb, 20, none⟩) h.lt]; exact h.r, by rw [hb.cell (p := ⟨tb, 36, none⟩) h.lt]; exact h.s, h.rowsAt.below hb, h.sbsAt.below hb, by have := hb.size; have := h.lt; omega⟩

/-- The rules whose columns are there. -/
def keepR (columns : Int) (rs : List Rule) : List Rule := rs.filter fun r => decide (1 ≤ r.number) && decide (r.number ≤ columns)

/-- The cells of a list of rules. -/
def flatR (rs : List Rule) : List Value := rs.flatMap sbCells

theorem flatR_eq (rs : List Rule) : flatR rs = sbsCells rs rs.length := by
  have : ∀ l : List Rule, (List.range l.length).map (rAt l) = l := fun l => by
    apply List.ext_getElem
    · simp
    · intro i h1 h2
      simp [rAt, List.getD_eq_getElem?_getD, h2]
  unfold flatR sbsCells
  conv => lhs; rw [← this rs]
  rw [List.flatMap_map]

theorem take_rAt {rs : List Rule} {k : Nat} (hk : k < rs.length) : rs.take (k + 1) = rs.take k ++ [rAt rs k] := by
  rw [List.take_succ_eq_append_getElem hk]
  simp [rAt, List.getD_eq_getElem?_getD, hk]

theorem own_drewN {w : World} {base : Nat} {e : TypeId} {size : Nat} {v : Value} {n : Nat} {xs : List Value} (h : w.ownsRow base e size v n xs) (m : Nat) : (w.drewN m).ownsRow base e size v n xs := h

theorem keepR_length (columns : Int) (rs : List Rule) : (keepR columns rs).length ≤ rs.length := List.length_filter_le _ _

set_option maxHeartbeats 3200000 in
set_option maxRecDepth 100000 in
theorem parseSortBy (w : World) (tb : Nat) (columns : Int) (Ar : Option Addr) (cr : Nat) (rows : List (List ByteArray)) (As : Option Addr) (cs : Nat) (rs : List Rule) (h : TableAt w tb columns Ar cr rows As cs rs) (hl : rs.length ≤ 2147483647)
    (hc0 : columns ≤ 9223372036854775807) :
    Calls Tryz.prog 62 #[.pointer (some ⟨tb, 0, none⟩), .slice As rs.length cs] w (SbsIs (keepR columns rs) w) := by
  have HH := Lib.hid h
  clear h
  obtain ⟨i0, hi, hz0, hz1, hz2⟩ := info_parts info116
  have HI := Lib.hid hi
  have HZ0 := Lib.hid hz0
  have HZ1 := Lib.hid hz1
  have HZ2 := Lib.hid hz2
  have HC0 := Lib.hid hc0
  clear hi hz0 hz1 hz2 hc0
  go_enter Tryz.func62, Tryz.ntmps62
  go_wp2_with fail
  go_loopw [5, 13] (fun v u wr => ∃ k : Nat, u = .int .i64 k ∧ k ≤ rs.length ∧ Below w.heap.size w wr ∧ wr.ownsRow w.heap.size 116 5 v (keepR columns (rs.take k)).length (flatR (keepR columns (rs.take k)))) (fun _ u _ => rs.length - (intOf u).toNat)
  case atStart => exact ⟨0, rfl, by omega, Below.refl _ _, World.ownsRow_nil _ _ _ _⟩
  case round =>
    obtain ⟨k, rfl, hk, hbl, hown⟩ := hrel
    have HBL := Lib.hid hbl
    have HOWN := Lib.hid hown
    clear hbl hown
    by_cases hlt : k < rs.length
    · have HT := Lib.hid (HH.out.below HBL.out)
      obtain ⟨b, o, rfl, hb, h0, h1, h2, h3, h4⟩ := HT.out.sbsAt.get hlt
      have hn := HT.out.n
      have HTL := Lib.hid HT.out.lt
      clear hb
      have HS := Lib.hid (take_rAt hlt)
      have HLE := Lib.hid (Nat.le_trans (keepR_length columns (rs.take k)) (List.length_take_le k rs))
      have htbne : Hid (tb ≠ wr.heap.size) := by have := HTL.out; show _ ≠ _; omega
      generalize rAt rs k = r at *
      by_cases hkeep : 1 ≤ r.number ∧ r.number ≤ columns
      · have hks : Hid (keepR columns (rs.take (k + 1)) = keepR columns (rs.take k) ++ [r]) := by
          show _ = _
          rw [HS.out]; unfold keepR; rw [List.filter_append]; simp [hkeep]
        obtain ⟨hk1, hk2⟩ := hkeep
        have d1 : decide (0 < r.number) = true := by simp; omega
        have d2 : decide (r.number ≤ columns) = true := by simpa using hk2
        have hn' : (wr.alloc (.cells #[.string ⟨#[]⟩, .int .i64 r.number, .int .i64 r.mode, .bool r.fold, .nilFunc] 116)).cell? ⟨tb, 14, none⟩ = some (.int .i64 columns) := by
          rw [World.cell?_alloc_past _ _ _ HTL.out]; exact hn
        go_wp2_with fail
        go_quiet (fail)
        go_wp2_with (at_builtin; refine wpList_append_own _ rfl _ _ 67 rfl w.heap.size 116 i0 _ 5 48 Tryz.underlying67 HI.out HZ0.out HZ1.out HZ2.out rfl (by decide) _ _ _ rfl ((own_drewN (HOWN.out.alloc _) _).alloc _) ⟨wr.heap.size + 1, 0, none⟩ 1 1 (sbCells r) rfl rfl ?c1 ?c2 ?c3 ?c4 ?c5 ?_)
        case c1 =>
          generalize hW : World.drewN _ _ = W
          have e : W.heap.size = wr.heap.size + 1 := by rw [← hW]; simp
          rw [← e]
          exact World.news_of_block (heap_alloc_new _ _)
        case c2 => intro u hu; simp [sbCells] at hu; rcases hu with rfl | rfl | rfl | rfl | rfl <;> rfl
        case c3 => have := HLE.out; unfold maxLen; omega
        case c4 => have := HLE.out; omega
        case c5 => simp; have := HBL.out.size; omega
        intro v' w1 hown1 hgr1 _
        have HB1 : Hid (Below w.heap.size w w1) := ((below_drewN (HBL.out.alloc HBL.out.size _) _).alloc (by simp; have := HBL.out.size; omega) _).grown hgr1 (by simp; have := HBL.out.size; omega) (fun k hk => (HOWN.out.lt k hk).1)
        have HO1 : Hid (w1.ownsRow w.heap.size 116 5 v' (keepR columns (rs.take (k + 1))).length (flatR (keepR columns (rs.take (k + 1))))) := by
          show World.ownsRow _ _ _ _ _ _ _
          rw [hks.out]
          simpa [flatR] using hown1
        clear hown1 hgr1
        go_wp2_with fail
        go_roundw
        case rel => exact ⟨k + 1, by go_num, by omega, HB1.out, HO1.out⟩
        case measure => simp [intOf]; omega
      · have hks : Hid (keepR columns (rs.take (k + 1)) = keepR columns (rs.take k)) := by
          show _ = _
          rw [HS.out]; unfold keepR; rw [List.filter_append]
          have : ¬ (1 ≤ r.number ∧ r.number ≤ columns) := hkeep
          simp [this]
        have hn' : (wr.alloc (.cells #[.string ⟨#[]⟩, .int .i64 r.number, .int .i64 r.mode, .bool r.fold, .nilFunc] 116)).cell? ⟨tb, 14, none⟩ = some (.int .i64 columns) := by
          rw [World.cell?_alloc_past _ _ _ HTL.out]; exact hn
        by_cases hk1 : 0 < r.number
        · have d1 : decide (0 < r.number) = true := by simpa using hk1
          have d2 : decide (r.number ≤ columns) = false := by simp; omega
          clear hkeep hk1
          go_wp2_with fail
          go_quiet (fail)
          go_wp2_with fail
          go_roundw
          case rel => exact ⟨k + 1, by go_num, by omega, below_drewN (HBL.out.alloc HBL.out.size _) _, by rw [hks.out]; exact own_drewN (HOWN.out.alloc _) _⟩
          case measure => simp [intOf]; omega
        · have d1 : decide (0 < r.number) = false := by simpa using hk1
          clear hkeep hk1
          go_wp2_with fail
          go_quiet (fail)
          go_wp2_with fail
          go_roundw
          case rel => exact ⟨k + 1, by go_num, by omega, below_drewN (HBL.out.alloc HBL.out.size _) _, by rw [hks.out]; exact own_drewN (HOWN.out.alloc _) _⟩
          case measure => simp [intOf]; omega
    · go_wp2_with fail
      go_ret
      have e : rs.take k = rs := List.take_of_length_le (by omega)
      have ho := HOWN.out
      rw [e, flatR_eq] at ho
      obtain ⟨A2, c2, rfl, hr2, hr3⟩ := sbs_of_owns ho rfl
      exact ⟨A2, c2, rfl, hr2, HBL.out, hr3⟩

end Go.Proofs.YtgolhmiocjpohaaGreatDoor
