/- The reference's guard, spec.Ordered: where it answers true, every rule's mode is one of eight and every cell that a rule compares is a plain word or a whole decimal. No condition but bounds on lengths. -/
import Derived.Test.YtgolhmiocjpohaaGreatDoorWords
import Derived.Test.YtgolhmiocjpohaaGreatDoorSpec3
set_option linter.unusedVariables false
set_option linter.unusedSimpArgs false
namespace Go.Proofs.YtgolhmiocjpohaaGreatDoor
open Go.RowKit Go.PlainAid

/-- What a rule of a mode asks of a cell. -/
def CellOk (s : ByteArray) (m : Int) : Prop := SingleP s ∧ ((WordedP s ∧ namedB s = false ∧ ¬ m % 4 = 2) ∨ WholeP s ∨ (s.size = 0 ∧ ¬ m % 4 = 2))

theorem empty_not_worded {s : ByteArray} (h : s.size = 0) : ¬ WordedP s := fun hw => by have := hw.1; omega

theorem bool_yes {f : Nat} {args : Array Value} {P : Prop} {w : World} (h : Calls Tryz.prog f args w (BoolThat (fun b => b = true ↔ P) w)) (hp : P) : Calls Tryz.prog f args w fun e w' => e = .returned (.bool true) ∧ w' = w :=
  h.mono fun e w' ⟨b, he, hb, hw⟩ => ⟨by rw [he, hb.2 hp], hw.symm⟩
theorem bool_no {f : Nat} {args : Array Value} {P : Prop} {w : World} (h : Calls Tryz.prog f args w (BoolThat (fun b => b = true ↔ P) w)) (hp : ¬ P) : Calls Tryz.prog f args w fun e w' => e = .returned (.bool false) ∧ w' = w :=
  h.mono fun e w' ⟨b, he, hb, hw⟩ => ⟨by rw [he, show b = false from Bool.eq_false_iff.2 (fun h => hp (hb.1 h))], hw.symm⟩

/-- What the guard tells of one rule. -/
def RuleOk (columns : Int) (rows : List (List ByteArray)) (r : Rule) : Prop :=
  0 ≤ r.mode ∧ r.mode ≤ 7 ∧ (1 ≤ r.number → r.number ≤ columns → ∀ k, k < rows.length → CellOk (cellOf (rowAt rows k) r.number) r.mode)

def OrderedTrue (columns : Int) (rows : List (List ByteArray)) (rs : List Rule) (w : World) (e : Ending) (w' : World) : Prop :=
  ∃ b, e = .returned (.bool b) ∧ (b = true → ∀ i, i < rs.length → RuleOk columns rows (rAt rs i)) ∧ Below w.heap.size w w'

theorem empty_toList (s : ByteArray) : (s.toList == []) = true ↔ s.size = 0 := by
  rw [beq_iff_eq, ByteArray.toList_eq]
  constructor
  · intro h
    have : s.data.toList.length = 0 := by rw [h]; rfl
    simpa using this
  · intro h
    apply List.eq_nil_of_length_eq_zero
    simpa using h

set_option maxHeartbeats 6400000 in
set_option maxRecDepth 100000 in
theorem spec_Ordered (w : World) (A R : Option Addr) (ca cr : Nat) (rows : List (List ByteArray)) (rs : List Rule) (columns : Int)
    (ha : RowsAt w A rows) (hr : RulesAt w R rs) (la : rows.length ≤ 2147483647) (lr : rs.length ≤ 2147483647) (hc0 : columns ≤ 9223372036854775807)
    (hrow : ∀ k, k < rows.length → (rowAt rows k).length ≤ 2147483647 ∧ ∀ i, i < (rowAt rows k).length → (sAt (rowAt rows k) i).size ≤ 2147483647) :
    Calls Tryz.prog 12 #[.slice A rows.length ca, .int .i64 columns, .slice R rs.length cr] w (OrderedTrue columns rows rs w) := by
  have HA := Lib.hid ha
  have HR := Lib.hid hr
  have HROW := Lib.hid hrow
  have HC0 := Lib.hid hc0
  clear ha hr hrow hc0
  go_enter Tryz.func12, Tryz.ntmps12
  go_wp2
  go_loopw [7] (fun v wr => ∃ k : Nat, v = .int .i64 k ∧ k ≤ rs.length ∧ Below w.heap.size w wr ∧ ∀ i, i < k → RuleOk columns rows (rAt rs i)) (fun v _ => rs.length - (intOf v).toNat)
  case atStart => exact ⟨0, rfl, by omega, Below.refl _ _, by omega⟩
  case round =>
    obtain ⟨k, rfl, hk, hbl, hall⟩ := hrel
    have HBL := Lib.hid hbl
    have HALL := Lib.hid hall
    clear hbl hall
    by_cases hlt : k < rs.length
    · obtain ⟨rb, ro, rfl, hrb, h0, h1, h2⟩ := (HR.out.below HBL.out).get hlt
      have HRB := Lib.hid hrb
      have HB1 : Hid (Below w.heap.size w (wr.alloc (.cells #[.int .i64 (rAt rs k).number, .int .i64 (rAt rs k).mode, .bool (rAt rs k).fold] 85))) := HBL.out.alloc (HBL.out.size) _
      clear hrb
      have hnext : Hid (RuleOk columns rows (rAt rs k) → ∀ i, i < k + 1 → RuleOk columns rows (rAt rs i)) := fun h i hi => by
        by_cases e : i = k
        · rw [e]; exact h
        · exact HALL.out i (by omega)
      generalize rAt rs k = r at *
      by_cases hm0 : r.mode < 0
      · have d0 : decide (r.mode < 0) = true := decide_eq_true hm0
        go_wp2_with fail
        go_ret
        exact ⟨_, rfl, fun h => by simp at h, HB1.out⟩
      · have d0 : decide (r.mode < 0) = false := decide_eq_false hm0
        by_cases hm7 : 7 < r.mode
        · have d7 : decide (7 < r.mode) = true := decide_eq_true hm7
          go_wp2_with fail
          go_ret
          exact ⟨_, rfl, fun h => by simp at h, HB1.out⟩
        · have d7 : decide (7 < r.mode) = false := decide_eq_false hm7
          by_cases hn1 : r.number < 1
          · have dn : decide (r.number < 1) = true := decide_eq_true hn1
            go_wp2_with fail
            go_roundw
            case rel => exact ⟨k + 1, by go_num, by omega, HB1.out, hnext.out ⟨by omega, by omega, fun h => by omega⟩⟩
            case measure => simp [intOf]; omega
          · have dn : decide (r.number < 1) = false := decide_eq_false hn1
            by_cases hn2 : columns < r.number
            · have dn2 : decide (columns < r.number) = true := decide_eq_true hn2
              go_wp2_with fail
              go_roundw
              case rel => exact ⟨k + 1, by go_num, by omega, HB1.out, hnext.out ⟨by omega, by omega, fun _ h => by omega⟩⟩
              case measure => simp [intOf]; omega
            · have dn2 : decide (columns < r.number) = false := decide_eq_false hn2
              go_wp2_with fail
              obtain ⟨wo, rfl⟩ : ∃ wo : World, wo = wr := ⟨_, rfl⟩
              have HBX : Hid (∀ wi : World, Below (wo.heap.size + 1) (wo.alloc (.cells #[.int .i64 r.number, .int .i64 r.mode, .bool r.fold] 85)) wi → wi.cell? ⟨wo.heap.size, 0, none⟩ = some (.int .i64 r.number) ∧ wi.cell? ⟨wo.heap.size, 1, none⟩ = some (.int .i64 r.mode) ∧ Below w.heap.size w wi) := fun wi hb =>
                ⟨by rw [hb.cell (p := ⟨wo.heap.size, 0, none⟩) (by simp)]; simp, by rw [hb.cell (p := ⟨wo.heap.size, 1, none⟩) (by simp)]; simp, HB1.out.trans (hb.mono (by have := HBL.out.size; omega))⟩
              have HN : Hid (1 ≤ r.number ∧ r.number ≤ 9223372036854775807) := ⟨by omega, by have := HC0.out; omega⟩
              go_loopw [9] (fun v wi => ∃ kk : Nat, v = .int .i64 kk ∧ kk ≤ rows.length ∧ Below (wo.heap.size + 1) (wo.alloc (.cells #[.int .i64 r.number, .int .i64 r.mode, .bool r.fold] 85)) wi ∧ ∀ j, j < kk → CellOk (cellOf (rowAt rows j) r.number) r.mode) (fun v _ => rows.length - (intOf v).toNat)
              case atStart => exact ⟨0, rfl, by omega, Below.refl _ _, by omega⟩
              case round =>
                obtain ⟨kk, rfl, hkk, hbi, hcs⟩ := hrel
                have HBI := Lib.hid hbi
                have HCS := Lib.hid hcs
                clear hbi hcs
                obtain ⟨hx0, hx1, hbw⟩ := HBX.out _ HBI.out
                have HBW := Lib.hid hbw
                clear hbw
                by_cases hlt2 : kk < rows.length
                · obtain ⟨ab, ao, A', c', rfl, hab, hac, hsa⟩ := (HA.out.below HBW.out).get hlt2
                  have HL := Lib.hid (HROW.out kk hlt2)
                  have HSA := Lib.hid hsa
                  clear hsa hab
                  have hnx : Hid (CellOk (cellOf (rowAt rows kk) r.number) r.mode → ∀ j, j < kk + 1 → CellOk (cellOf (rowAt rows j) r.number) r.mode) := fun h i hi => by
                    by_cases e : i = kk
                    · rw [e]; exact h
                    · exact HCS.out i (by omega)
                  have C28 : Hid (∀ wx : World, wx.heap = wr.heap → Calls Tryz.prog 28 #[.slice A' (rowAt rows kk).length c', .int .i64 r.number] wx fun e w' => e = .returned (.string (cellOf (rowAt rows kk) r.number)) ∧ w' = wx) := fun wx hx =>
                    spec_cellOf wx A' c' (rowAt rows kk) (HSA.out.heap_eq hx) (by have := HL.out.1; unfold maxLen; omega) r.number HN.out.1 HN.out.2
                  have hsz : Hid ((cellOf (rowAt rows kk) r.number).size ≤ 2147483647) := by
                    show _ ≤ _
                    unfold cellOf
                    split
                    · by_cases h : (r.number - 1).toNat < (rowAt rows kk).length
                      · exact HL.out.2 _ h
                      · have := HN.out.1; omega
                    · exact Nat.zero_le _
                  generalize cellOf (rowAt rows kk) r.number = s at *
                  generalize (rowAt rows kk).length = rl at *
                  go_wp2_with fail
                  go_quiet ((go_at_call 28; exact Calls.quiet_of_same (C28.out _ (by first | exact heap_drew _ | exact heap_drewN _ _ | exact rfl))))
                  have C29 := Lib.hid (fun wx => spec_Single s wx hsz.out)
                  have C30 := Lib.hid (fun wx => spec_Worded s wx hsz.out)
                  have C31 := Lib.hid (fun wx => spec_Whole s wx hsz.out)
                  have C32 := Lib.hid (fun wx => spec_named s wx hsz.out)
                  by_cases hS : SingleP s
                  · have K29 := Lib.hid (fun wx => bool_yes (C29.out wx) hS)
                    have HS := Lib.hid hS
                    clear hS
                    by_cases hW : WordedP s
                    · have K30 := Lib.hid (fun wx => bool_yes (C30.out wx) hW)
                      have HW := Lib.hid hW
                      clear hW
                      by_cases h2 : r.mode % 4 = 2
                      · have dm : (r.mode % 4 == 2) = true := by simpa using h2
                        clear h2
                        go_wp2_with fail
                        refine (K29.out _).mono ?_
                        rintro e w2 ⟨rfl, rfl⟩
                        go_wp2_with fail
                        refine (K30.out _).mono ?_
                        rintro e w2 ⟨rfl, rfl⟩
                        go_wp2_with fail
                        refine (K30.out _).mono ?_
                        rintro e w2 ⟨rfl, rfl⟩
                        go_wp2_with fail
                        go_ret
                        exact ⟨_, rfl, fun h => by simp at h, below_drewN HBW.out _⟩
                      · have dm : (r.mode % 4 == 2) = false := by simpa using h2
                        have H2 := Lib.hid h2
                        clear h2
                        cases hnm : namedB s with
                        | true =>
                          rw [hnm] at C32
                          clear hnm
                          go_wp2_with fail
                          refine (K29.out _).mono ?_
                          rintro e w2 ⟨rfl, rfl⟩
                          go_wp2_with fail
                          refine (K30.out _).mono ?_
                          rintro e w2 ⟨rfl, rfl⟩
                          go_wp2_with fail
                          refine (K30.out _).mono ?_
                          rintro e w2 ⟨rfl, rfl⟩
                          go_wp2_with fail
                          refine (C32.out _).mono ?_
                          rintro e w2 ⟨rfl, hb2⟩
                          have HB2 := Lib.hid ((below_drewN HBW.out _).trans (hb2.mono (by simpa using HBW.out.size)))
                          clear hb2
                          go_wp2_with fail
                          go_ret
                          exact ⟨_, rfl, fun h => by simp at h, HB2.out⟩
                        | false =>
                          rw [hnm] at C32
                          have HNM := Lib.hid hnm
                          clear hnm
                          go_wp2_with fail
                          refine (K29.out _).mono ?_
                          rintro e w2 ⟨rfl, rfl⟩
                          go_wp2_with fail
                          refine (K30.out _).mono ?_
                          rintro e w2 ⟨rfl, rfl⟩
                          go_wp2_with fail
                          refine (K30.out _).mono ?_
                          rintro e w2 ⟨rfl, rfl⟩
                          go_wp2_with fail
                          refine (C32.out _).mono ?_
                          rintro e w2 ⟨rfl, hb2⟩
                          have HB2 := Lib.hid ((below_drewN HBI.out _).trans (hb2.mono (by simpa using HBI.out.size)))
                          clear hb2
                          go_wp2_with fail
                          go_roundw
                          case rel => exact ⟨kk + 1, by go_num, by omega, HB2.out, hnx.out ⟨HS.out, Or.inl ⟨HW.out, HNM.out, H2.out⟩⟩⟩
                          case measure => simp [intOf]; omega
                    · have K30 := Lib.hid (fun wx => bool_no (C30.out wx) hW)
                      clear hW
                      by_cases hH : WholeP s
                      · have K31 := Lib.hid (fun wx => bool_yes (C31.out wx) hH)
                        have HH := Lib.hid hH
                        clear hH
                        go_wp2_with fail
                        refine (K29.out _).mono ?_
                        rintro e w2 ⟨rfl, rfl⟩
                        go_wp2_with fail
                        refine (K30.out _).mono ?_
                        rintro e w2 ⟨rfl, rfl⟩
                        go_wp2_with fail
                        refine (K31.out _).mono ?_
                        rintro e w2 ⟨rfl, rfl⟩
                        go_wp2_with fail
                        refine (K30.out _).mono ?_
                        rintro e w2 ⟨rfl, rfl⟩
                        go_wp2_with fail
                        go_roundw
                        case rel => exact ⟨kk + 1, by go_num, by omega, below_drewN HBI.out _, hnx.out ⟨HS.out, Or.inr (Or.inl HH.out)⟩⟩
                        case measure => simp [intOf]; omega
                      · have K31 := Lib.hid (fun wx => bool_no (C31.out wx) hH)
                        clear hH
                        by_cases h0 : s.size = 0
                        · have H0 := Lib.hid h0
                          have de : (s.toList == []) = true := (empty_toList s).2 h0
                          have de2 : s.toList.isEmpty = true := by simpa using de
                          clear h0
                          by_cases h2 : r.mode % 4 = 2
                          · have dm : (r.mode % 4 == 2) = true := by simpa using h2
                            clear h2
                            go_wp2_with fail
                            refine (K29.out _).mono ?_
                            rintro e w2 ⟨rfl, rfl⟩
                            go_wp2_with fail
                            refine (K30.out _).mono ?_
                            rintro e w2 ⟨rfl, rfl⟩
                            go_wp2_with fail
                            refine (K31.out _).mono ?_
                            rintro e w2 ⟨rfl, rfl⟩
                            go_wp2_with fail
                            go_ret
                            exact ⟨_, rfl, fun h => by simp at h, below_drewN HBW.out _⟩
                          · have dm : (r.mode % 4 == 2) = false := by simpa using h2
                            have H2 := Lib.hid h2
                            clear h2
                            go_wp2_with fail
                            refine (K29.out _).mono ?_
                            rintro e w2 ⟨rfl, rfl⟩
                            go_wp2_with fail
                            refine (K30.out _).mono ?_
                            rintro e w2 ⟨rfl, rfl⟩
                            go_wp2_with fail
                            refine (K31.out _).mono ?_
                            rintro e w2 ⟨rfl, rfl⟩
                            go_wp2_with fail
                            refine (K30.out _).mono ?_
                            rintro e w2 ⟨rfl, rfl⟩
                            go_wp2_with fail
                            go_roundw
                            case rel => exact ⟨kk + 1, by go_num, by omega, below_drewN HBI.out _, hnx.out ⟨HS.out, Or.inr (Or.inr ⟨H0.out, H2.out⟩)⟩⟩
                            case measure => simp [intOf]; omega
                        · have de : (s.toList == []) = false := Bool.eq_false_iff.2 fun h => h0 ((empty_toList s).1 h)
                          have de2 : s.toList.isEmpty = false := by simpa using de
                          clear h0
                          go_wp2_with fail
                          refine (K29.out _).mono ?_
                          rintro e w2 ⟨rfl, rfl⟩
                          go_wp2_with fail
                          refine (K30.out _).mono ?_
                          rintro e w2 ⟨rfl, rfl⟩
                          go_wp2_with fail
                          refine (K31.out _).mono ?_
                          rintro e w2 ⟨rfl, rfl⟩
                          go_wp2_with fail
                          go_ret
                          exact ⟨_, rfl, fun h => by simp at h, below_drewN HBW.out _⟩
                  · have K29 := Lib.hid (fun wx => bool_no (C29.out wx) hS)
                    clear hS
                    go_wp2_with fail
                    refine (K29.out _).mono ?_
                    rintro e w2 ⟨rfl, rfl⟩
                    go_wp2_with fail
                    go_ret
                    exact ⟨_, rfl, fun h => by simp at h, below_drewN HBW.out _⟩
                · go_wp2_with fail
                  go_roundw
                  case rel => exact ⟨k + 1, by go_num, by omega, HBW.out, hnext.out ⟨by omega, by omega, fun _ _ j hj => HCS.out j (by omega)⟩⟩
                  case measure => simp [intOf]; omega
    · go_wp2_with fail
      go_ret
      exact ⟨_, rfl, fun _ i hi => HALL.out i (by omega), HBL.out⟩

end Go.Proofs.YtgolhmiocjpohaaGreatDoor
