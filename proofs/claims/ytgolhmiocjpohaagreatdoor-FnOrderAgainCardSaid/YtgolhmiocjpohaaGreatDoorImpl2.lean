/- The package's rules of sorting (impl.sorts): the new slice holds the same rules. No condition but a bound on how many there are. -/
import Derived.Test.YtgolhmiocjpohaaGreatDoorImpl1
set_option linter.unusedVariables false
set_option linter.unusedSimpArgs false
namespace Go.Proofs.YtgolhmiocjpohaaGreatDoor
open Go.RowKit

/-- A rule's cells, as the package has it. -/
def sbCells (r : Rule) : List Value := [.string ⟨#[]⟩, .int .i64 r.number, .int .i64 r.mode, .bool r.fold, .nilFunc]
/-- The cells of the first k rules of a list. -/
def sbsCells (rs : List Rule) (k : Nat) : List Value := (List.range k).flatMap fun i => sbCells (rAt rs i)

theorem sbsCells_length (rs : List Rule) (k : Nat) : (sbsCells rs k).length = k * 5 := by
  induction k with
  | zero => rfl
  | succ k ih => simp [sbsCells, List.range_succ, sbCells] at ih ⊢; omega
theorem sbsCells_succ (rs : List Rule) (k : Nat) : sbsCells rs (k + 1) = sbsCells rs k ++ sbCells (rAt rs k) := by
  simp [sbsCells, List.range_succ]

theorem sbsCells_at (rs : List Rule) (j : Nat) : ∀ k i, i < k → j < 5 → (sbsCells rs k)[i * 5 + j]? = (sbCells (rAt rs i))[j]?
  | 0, i, h, _ => by omega
  | k + 1, i, h, hj => by
    rw [sbsCells_succ]
    by_cases e : i = k
    · subst e
      rw [List.getElem?_append_right (by rw [sbsCells_length]; omega), sbsCells_length]
      congr 1
      omega
    · rw [List.getElem?_append_left (by rw [sbsCells_length]; omega)]
      exact sbsCells_at rs j k i (by omega) hj

/-- The slots of a slice of the package's rules. -/
def SbsAt (w : World) (A : Option Addr) (rs : List Rule) : Prop :=
  rs = [] ∨ ∃ b o, A = some ⟨b, o, none⟩ ∧ b < w.heap.size ∧ ∀ i, i < rs.length →
    w.cell? ⟨b, o + i * 5, none⟩ = some (.string ⟨#[]⟩) ∧ w.cell? ⟨b, o + i * 5 + 1, none⟩ = some (.int .i64 (rAt rs i).number) ∧ w.cell? ⟨b, o + i * 5 + 2, none⟩ = some (.int .i64 (rAt rs i).mode) ∧
    w.cell? ⟨b, o + i * 5 + 3, none⟩ = some (.bool (rAt rs i).fold) ∧ w.cell? ⟨b, o + i * 5 + 4, none⟩ = some .nilFunc

theorem SbsAt.get {w : World} {A : Option Addr} {rs : List Rule} (h : SbsAt w A rs) {i : Nat} (hi : i < rs.length) :
    ∃ b o, A = some ⟨b, o, none⟩ ∧ b < w.heap.size ∧
    w.cell? ⟨b, o + i * 5, none⟩ = some (.string ⟨#[]⟩) ∧ w.cell? ⟨b, o + i * 5 + 1, none⟩ = some (.int .i64 (rAt rs i).number) ∧ w.cell? ⟨b, o + i * 5 + 2, none⟩ = some (.int .i64 (rAt rs i).mode) ∧
    w.cell? ⟨b, o + i * 5 + 3, none⟩ = some (.bool (rAt rs i).fold) ∧ w.cell? ⟨b, o + i * 5 + 4, none⟩ = some .nilFunc := by
  rcases h with rfl | ⟨b, o, rfl, hb, hc⟩
  · simp at hi
  · exact ⟨b, o, rfl, hb, hc i hi⟩

theorem SbsAt.below {w w' : World} {A : Option Addr} {rs : List Rule} (h : SbsAt w A rs) (hb : Below w.heap.size w w') : SbsAt w' A rs := by
  rcases h with rfl | ⟨b, o, rfl, hk, hc⟩
  · exact Or.inl rfl
  · refine Or.inr ⟨b, o, rfl, by have := hb.size; omega, fun i hi => ?_⟩
    rw [hb.cell (p := ⟨b, o + i * 5, none⟩) hk, hb.cell (p := ⟨b, o + i * 5 + 1, none⟩) hk, hb.cell (p := ⟨b, o + i * 5 + 2, none⟩) hk, hb.cell (p := ⟨b, o + i * 5 + 3, none⟩) hk, hb.cell (p := ⟨b, o + i * 5 + 4, none⟩) hk]
    exact hc i hi

/-- What was collected by appending rules is a slice of those rules. -/
theorem sbs_of_owns {w : World} {base n : Nat} {v : Value} {rs : List Rule} (h : w.ownsRow base 116 5 v n (sbsCells rs n)) (hn : n = rs.length) : ∃ A c, v = .slice A rs.length c ∧ SbsAt w A rs ∧ ∀ b o, A = some ⟨b, o, none⟩ → base ≤ b := by
  subst hn
  rcases h.2 with ⟨rfl, h0⟩ | ⟨g, cap, cur, rfl, hb, hg, hnc, hcm, hcs, htake⟩
  · exact ⟨none, 0, by rw [h0], Or.inl (List.eq_nil_of_length_eq_zero h0), fun b o e => by cases e⟩
  · refine ⟨some ⟨g, 0, none⟩, cap, rfl, ?_, fun b o e => by cases e; exact hb⟩
    by_cases h0 : rs = []
    · exact Or.inl h0
    · have hc : ∀ i j, i < rs.length → j < 5 → w.cell? ⟨g, i * 5 + j, none⟩ = (sbCells (rAt rs i))[j]? := fun i j hi hj => by
        rw [World.ownsRow.cellAt h (i * 5 + j) (by omega), sbsCells_at rs j _ i hi hj]
      refine Or.inr ⟨g, 0, rfl, (Array.getElem?_eq_some_iff.1 hg).1, fun i hi => ?_⟩
      simp only [Nat.zero_add]
      exact ⟨hc i 0 hi (by omega), hc i 1 hi (by omega), hc i 2 hi (by omega), hc i 3 hi (by omega), hc i 4 hi (by omega)⟩

theorem info116 : (Tryz.prog.info? 116).map (fun i => (i.zero, i.size, i.bytes)) = some (some (.agg #[.string ⟨#[]⟩, .int .i64 0, .int .i64 0, .bool false, .nilFunc]), 5, 48) := by kernel_rfl

/-- A post: a slice of these rules is handed back. -/
def SbsIs (rs : List Rule) (w : World) (e : Ending) (w' : World) : Prop := ∃ A c, e = .returned (.slice A rs.length c) ∧ SbsAt w' A rs ∧ Below w.heap.size w w' ∧ ∀ b o, A = some ⟨b, o, none⟩ → w.heap.size ≤ b

set_option maxHeartbeats 1600000 in
set_option maxRecDepth 100000 in
theorem sorts (w : World) (A : Option Addr) (c : Nat) (rs : List Rule) (h : RulesAt w A rs) (hl : rs.length ≤ 2147483647) :
    Calls Tryz.prog 34 #[.slice A rs.length c] w (SbsIs rs w) := by
  have HH := Lib.hid h
  clear h
  obtain ⟨i0, hi, hz0, hz1, hz2⟩ := info_parts info116
  have HI := Lib.hid hi
  have HZ0 := Lib.hid hz0
  have HZ1 := Lib.hid hz1
  have HZ2 := Lib.hid hz2
  clear hi hz0 hz1 hz2
  go_enter Tryz.func34, Tryz.ntmps34
  go_wp2_with fail
  go_loopw [3, 8] (fun v u wr => ∃ k : Nat, u = .int .i64 k ∧ k ≤ rs.length ∧ Below w.heap.size w wr ∧ wr.ownsRow w.heap.size 116 5 v k (sbsCells rs k)) (fun _ u _ => rs.length - (intOf u).toNat)
  case atStart => exact ⟨0, rfl, by omega, Below.refl _ _, World.ownsRow_nil _ _ _ _⟩
  case round =>
    obtain ⟨k, rfl, hk, hbl, hown⟩ := hrel
    have HBL := Lib.hid hbl
    have HOWN := Lib.hid hown
    clear hbl hown
    by_cases hlt : k < rs.length
    · obtain ⟨b, o, rfl, hb, h0, h1, h2⟩ := (HH.out.below HBL.out).get hlt
      clear hb
      have HS := Lib.hid (sbsCells_succ rs k)
      generalize rAt rs k = r at *
      go_wp2_with (at_builtin; refine wpList_append_own _ rfl _ _ 67 rfl w.heap.size 116 i0 _ 5 48 Tryz.underlying67 HI.out HZ0.out HZ1.out HZ2.out rfl (by decide) _ _ _ rfl ((HOWN.out.alloc _).alloc _) ⟨wr.heap.size + 1, 0, none⟩ 1 1 (sbCells r) rfl rfl ?c1 ?c2 ?c3 ?c4 ?c5 ?_)
      case c1 =>
        have e : (wr.alloc (.cells #[.int .i64 r.number, .int .i64 r.mode, .bool r.fold] 85)).heap.size = wr.heap.size + 1 := by simp
        rw [← e]
        exact World.news_of_block (heap_alloc_new _ _)
      case c2 => intro u hu; simp [sbCells] at hu; rcases hu with rfl | rfl | rfl | rfl | rfl <;> rfl
      case c3 => unfold maxLen; omega
      case c4 => omega
      case c5 => simp; have := HBL.out.size; omega
      intro v' w1 hown1 hgr1 _
      have HB1 : Hid (Below w.heap.size w w1) := ((HBL.out.alloc HBL.out.size _).alloc (by simp; have := HBL.out.size; omega) _).grown hgr1 (by simp; have := HBL.out.size; omega) (fun k hk => (HOWN.out.lt k hk).1)
      have HO1 : Hid (w1.ownsRow w.heap.size 116 5 v' (k + 1) (sbsCells rs (k + 1))) := by
        show World.ownsRow _ _ _ _ _ _ _
        rw [HS.out]
        exact hown1
      clear hown1 hgr1
      go_wp2_with fail
      go_roundw
      case rel => exact ⟨k + 1, by go_num, by omega, HB1.out, HO1.out⟩
      case measure => simp [intOf]; omega
    · go_wp2_with fail
      go_ret
      obtain ⟨A2, c2, rfl, hr2, hr3⟩ := sbs_of_owns HOWN.out (by omega)
      exact ⟨A2, c2, rfl, hr2, HBL.out, hr3⟩

end Go.Proofs.YtgolhmiocjpohaaGreatDoor
