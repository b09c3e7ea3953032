/- sort.insertionSort_func (109). -/
import Derived.Test.YtgolhmiocjpohaaGreatDoorSort0
set_option linter.unusedVariables false
set_option linter.unusedSimpArgs false
namespace Go.Proofs.YtgolhmiocjpohaaGreatDoor
open Go.RowKit Go.Sort

set_option maxHeartbeats 3200000 in
set_option maxRecDepth 100000 in
theorem sort_insertion {w0 : World} {g n m : Nat} {lt : Nat → Nat → Bool} {gl : Nat} {lb : Array Value} {sf : Nat} {sb : Array Value} (E : SortEnv w0 g n m lt gl lb sf sb) (d : Array Nat) (w : World) (hw : Moved g n m d w0 w) (a b : Nat) (hab : a ≤ b) (hb : b ≤ n) :
    Calls Tryz.prog 109 #[.agg #[.func (.func gl) #[] lb, .func (.func sf) #[] sb], .int .i64 a, .int .i64 b] w (SortsTo g n m (insertionSort lt d a b) w) := by
  have HE := Lib.hid E
  have eg := E.enter
  have hn := E.hn
  have HG := Lib.hid E.hg
  have HW := Lib.hid (hw.self.alloc (.cells #[.func (.func gl) #[] lb, .func (.func sf) #[] sb] 171))
  have HW0 := Lib.hid hw
  have HLT := Lib.hid hw.lt
  clear E hw
  go_enter Tryz.func109, Tryz.ntmps109
  go_wp2
  go_loopw [6] (fun vi wr => ∃ (i : Nat) (dk : Array Nat), vi = .int .i64 i ∧ a < i ∧ i ≤ b + 1 ∧ Moved g n m dk w wr ∧ wr.cell? ⟨w.heap.size, 0, none⟩ = some (.func (.func gl) #[] lb) ∧ wr.cell? ⟨w.heap.size, 1, none⟩ = some (.func (.func sf) #[] sb) ∧
      w.heap.size < wr.heap.size ∧ insOuter lt a b i dk = insertionSort lt d a b) (fun vi _ => b + 1 - (intOf vi).toNat)
  case atStart => exact ⟨a + 1, d, by go_num, by omega, by omega, HW.out, by simp, by simp, by simp, rfl⟩
  case round =>
    obtain ⟨i, dk, rfl, hai, hib, hmv, hc0, hc1, hsz, hO⟩ := hrel
    have HM := Lib.hid hmv
    have HO := Lib.hid hO
    have HSZ := Lib.hid hsz
    clear hmv hO hsz
    by_cases hlt : i < b
    · go_wp2
      go_loopw [7] (fun vj wr2 => ∃ (j : Nat) (dj : Array Nat), vj = .int .i64 j ∧ a ≤ j ∧ j ≤ i ∧ Moved g n m dj w wr2 ∧ wr2.cell? ⟨w.heap.size, 0, none⟩ = some (.func (.func gl) #[] lb) ∧ wr2.cell? ⟨w.heap.size, 1, none⟩ = some (.func (.func sf) #[] sb) ∧
          w.heap.size < wr2.heap.size ∧ insInner lt a j dj = insInner lt a i dk) (fun vj _ => (intOf vj).toNat)
      case atStart => exact ⟨i, dk, rfl, by omega, Nat.le_refl _, HM.out, hc0, hc1, HSZ.out, rfl⟩
      case round =>
        obtain ⟨j, dj, rfl, haj, hji, hmv2, hd0, hd1, hsz2, hI⟩ := hrel
        clear hc0 hc1
        have HM2 := Lib.hid hmv2
        have HI := Lib.hid hI
        have HSZ2 := Lib.hid hsz2
        clear hmv2 hI hsz2
        by_cases hja : a < j
        · have hl := HE.out.lessAt (HW0.out.trans HM2.out) j (j - 1) j ((j : Int) - 1) rfl (by omega) (by omega) (by omega)
          have OUT : lt dj[j]! dj[j - 1]! = false → Hid (insOuter lt a b (i + 1) dj = insertionSort lt d a b) := fun h => by
            show _ = _
            rw [← HO.out, insOuter_go _ _ _ _ _ hlt, ← HI.out, insInner_stop _ _ _ _ (Or.inr h)]
          have GO : lt dj[j]! dj[j - 1]! = true → Hid (insInner lt a (j - 1) (swp dj j (j - 1)) = insInner lt a i dk) := fun h => by
            show _ = _
            rw [← HI.out, insInner_go lt a j dj hja h]
          generalize hlv : lt dj[j]! dj[j - 1]! = lv at *
          cases lv with
          | true =>
            go_wp2_with (go_at_fn gl; refine hl.mono ?_; rintro e w' ⟨rfl, hbl⟩; have hd0' := (hbl.cell (p := ⟨w.heap.size, 0, none⟩) HSZ2.out).trans hd0; have hd1' := (hbl.cell (p := ⟨w.heap.size, 1, none⟩) HSZ2.out).trans hd1)
            obtain ⟨w2, hs, hm2⟩ := HE.out.swapAt ((HW0.out.trans HM2.out).below hbl) ((HM2.out.below hbl).self) j (j - 1) j ((j : Int) - 1) rfl (by omega) (by omega) (by omega)
            have HM3 := Lib.hid ((HM2.out.below hbl).trans hm2)
            have e0 := Lib.hid ((hm2.cell (b := w.heap.size) (o := 0) (Nat.lt_of_lt_of_le HSZ2.out hbl.size) (by have := HLT.out; omega)).trans hd0')
            have e1 := Lib.hid ((hm2.cell (b := w.heap.size) (o := 1) (Nat.lt_of_lt_of_le HSZ2.out hbl.size) (by have := HLT.out; omega)).trans hd1')
            have e2 := Lib.hid (Nat.lt_of_lt_of_le (Nat.lt_of_lt_of_le HSZ2.out hbl.size) hm2.size)
            clear hm2 hbl hd0' hd1' hl
            rw [hs, Oper.upon_value]
            clear hs
            go_wp2
            go_roundw
            case rel =>
              exact ⟨j - 1, swp dj j (j - 1), by congr 1 <;> omega, by omega, by omega, HM3.out, e0.out, e1.out, e2.out, (GO trivial).out⟩
            case measure => simp [intOf]; omega
          | false =>
            go_wp2_with (go_at_fn gl; refine hl.mono ?_; rintro e w' ⟨rfl, hbl⟩; have hd0' := (hbl.cell (p := ⟨w.heap.size, 0, none⟩) HSZ2.out).trans hd0; have hd1' := (hbl.cell (p := ⟨w.heap.size, 1, none⟩) HSZ2.out).trans hd1)
            go_roundw
            case rel => exact ⟨i + 1, dj, by go_num, by omega, by omega, HM2.out.below hbl, hd0', hd1', Nat.lt_of_lt_of_le HSZ2.out hbl.size, (OUT trivial).out⟩
            case measure => simp [intOf]; omega
        · go_wp2
          go_roundw
          case rel => exact ⟨i + 1, dj, by go_num, by omega, by omega, HM2.out, hd0, hd1, HSZ2.out, by rw [← HO.out, insOuter_go _ _ _ _ _ hlt, ← HI.out, insInner_stop _ _ _ _ (Or.inl (by omega))]⟩
          case measure => simp [intOf]; omega
    · go_wp2
      go_end0
      refine ⟨rfl, ?_⟩
      rw [← HO.out, insOuter_stop _ _ _ _ _ hlt]
      exact HM.out

end Go.Proofs.YtgolhmiocjpohaaGreatDoor
