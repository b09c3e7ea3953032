/- The reference's order of two rows, spec.RowAhead, computes 'rowAhead', under the callees' contracts and for rows whose cells the rules' columns let in. -/
import Derived.Test.YtgolhmiocjpohaaGreatDoorSpec2
set_option linter.unusedVariables false
set_option linter.unusedSimpArgs false
namespace Go.Proofs.YtgolhmiocjpohaaGreatDoor
open Go.RowKit

/-- A post: this bool is handed back; whatever was there is as it was. -/
def BoolIs (b : Bool) (w : World) (e : Ending) (w' : World) : Prop := e = .returned (.bool b) ∧ Below w.heap.size w w'

theorem Glob.heap_eq {w w' : World} (h : Glob w) (e : w'.heap = w.heap) : Glob w' := by
  obtain ⟨h1, h2, ⟨t, v, h3⟩, h4⟩ := h
  exact ⟨by rw [cell_heap_eq e]; exact h1, by rw [cell_heap_eq e]; exact h2, ⟨t, v, by rw [cell_heap_eq e]; exact h3⟩, by rw [e]; exact h4⟩

set_option maxHeartbeats 400000 in
set_option maxRecDepth 100000 in
theorem spec_cellOf (w : World) (A : Option Addr) (c : Nat) (ss : List ByteArray) (h : StrsAt w A ss) (hl : ss.length ≤ maxLen) (n : Int) (h1 : 1 ≤ n) (h2 : n ≤ 9223372036854775807) :
    Calls Tryz.prog 28 #[.slice A ss.length c, .int .i64 n] w fun e w' => e = .returned (.string (cellOf ss n)) ∧ w' = w := by
  unfold maxLen at hl
  obtain ⟨k, rfl⟩ : ∃ k : Nat, n = (k : Int) + 1 := ⟨(n - 1).toNat, by omega⟩
  by_cases hk : k < ss.length
  · have e : Hid (cellOf ss ((k : Int) + 1) = sAt ss k) := by
      show _ = _
      unfold cellOf
      rw [if_pos (by omega), show ((k : Int) + 1 - 1).toNat = k by omega]
    obtain ⟨b, o, rfl, hb, hc⟩ := h.get hk
    clear h hb h1 h2
    go_enter Tryz.func28, Tryz.ntmps28
    go_wp2
    go_ret
    exact ⟨by rw [e.out]; rfl, rfl⟩
  · have e : Hid (cellOf ss ((k : Int) + 1) = ⟨#[]⟩) := by
      show _ = _
      unfold cellOf
      rw [if_neg (by omega)]
    have hd : decide ((k : Int) + 1 ≤ ss.length) = false := by simp; omega
    clear h h1 h2
    go_enter Tryz.func28, Tryz.ntmps28
    go_wp2
    go_ret
    exact ⟨by rw [e.out]; rfl, rfl⟩

theorem rowAhead_nil (low : ByteArray → ByteArray) (num : ByteArray → Option Nat) (columns : Int) (a b : List ByteArray) : rowAhead low num columns [] a b = false := rfl

theorem rowAhead_at (low : ByteArray → ByteArray) (num : ByteArray → Option Nat) (columns : Int) (rs : List Rule) (a b : List ByteArray) (k : Nat) (hk : k < rs.length) :
    rowAhead low num columns (rs.drop k) a b =
      if (rAt rs k).number < 1 ∨ (rAt rs k).number > columns then rowAhead low num columns (rs.drop (k + 1)) a b
      else if (bef low num (cellOf a (rAt rs k).number) (cellOf b (rAt rs k).number) (rAt rs k).mode (rAt rs k).fold).1 then rowAhead low num columns (rs.drop (k + 1)) a b
      else (bef low num (cellOf a (rAt rs k).number) (cellOf b (rAt rs k).number) (rAt rs k).mode (rAt rs k).fold).2 := by
  have e : rs.drop k = rAt rs k :: rs.drop (k + 1) := by
    rw [List.drop_eq_getElem_cons hk]
    congr 1
    simp [rAt, List.getD_eq_getElem?_getD, List.getElem?_eq_getElem hk]
  rw [e]
  rfl

theorem rAt_mem {rs : List Rule} {k : Nat} (hk : k < rs.length) : rAt rs k ∈ rs := by
  have : rAt rs k = rs[k] := by simp [rAt, List.getD_eq_getElem?_getD, List.getElem?_eq_getElem hk]
  rw [this]; exact List.getElem_mem hk

set_option maxHeartbeats 1600000 in
set_option maxRecDepth 100000 in
theorem spec_rowAhead {Dom : ByteArray → Prop} {low : ByteArray → ByteArray} {num : ByteArray → Option Nat} (hlow : LowSaid Dom low) (hl : StdSaid Dom num)
    (w : World) (hg : Glob w) (A B R : Option Addr) (ca cb cr : Nat) (a b : List ByteArray) (rs : List Rule) (columns : Int) (ha : StrsAt w A a) (hb : StrsAt w B b) (hr : RulesAt w R rs)
    (la : a.length ≤ maxLen) (lb : b.length ≤ maxLen) (lr : rs.length ≤ maxLen) (hc0 : columns ≤ 9223372036854775807)
    (oka : RowsOk Dom columns rs a) (okb : RowsOk Dom columns rs b) (okm : ModesOk rs) :
    Calls Tryz.prog 15 #[.slice A a.length ca, .slice B b.length cb, .int .i64 columns, .slice R rs.length cr] w (BoolIs (rowAhead low num columns rs a b) w) := by
  unfold maxLen at lr
  have HA := Lib.hid ha
  have HB := Lib.hid hb
  have HR := Lib.hid hr
  have HG := Lib.hid hg
  have OA := Lib.hid oka
  have OB := Lib.hid okb
  have OM := Lib.hid okm
  have HLOW := Lib.hid hlow
  have HL := Lib.hid hl
  have LA := Lib.hid la
  have LB := Lib.hid lb
  clear ha hb hr hg oka okb okm hlow hl la lb
  go_enter Tryz.func15, Tryz.ntmps15
  go_wp2
  go_loopw [9] (fun v wr => ∃ k : Nat, v = .int .i64 k ∧ k ≤ rs.length ∧ Below w.heap.size w wr ∧ rowAhead low num columns (rs.drop k) a b = rowAhead low num columns rs a b) (fun v _ => rs.length - (intOf v).toNat)
  case atStart => exact ⟨0, rfl, by omega, Below.refl _ _, rfl⟩
  case round =>
    obtain ⟨k, rfl, hk, hbl, hra⟩ := hrel
    have HBL := Lib.hid hbl
    have HRA := Lib.hid hra
    clear hbl hra
    by_cases hlt : k < rs.length
    · obtain ⟨rb, ro, rfl, hrb, h0, h1, h2⟩ := (HR.out.below HBL.out).get hlt
      have HT := Lib.hid (rowAhead_at low num columns rs a b k hlt)
      have hmem := Lib.hid (rAt_mem hlt)
      by_cases hskip : (rAt rs k).number < 1 ∨ (rAt rs k).number > columns
      · have HS := Lib.hid hskip
        by_cases hs1 : (rAt rs k).number < 1
        · have d1 : decide ((rAt rs k).number < 1) = true := by simp; omega
          clear hskip hs1
          go_wp2_with fail
          go_roundw
          case rel => exact ⟨k + 1, by go_num, by omega, HBL.out, by rw [← HRA.out, HT.out, if_pos HS.out]⟩
          case measure => simp [intOf]; omega
        · have d1 : decide ((rAt rs k).number < 1) = false := by simp; omega
          have d2 : decide (columns < (rAt rs k).number) = true := by simp; omega
          clear hskip hs1
          go_wp2_with fail
          go_roundw
          case rel => exact ⟨k + 1, by go_num, by omega, HBL.out, by rw [← HRA.out, HT.out, if_pos HS.out]⟩
          case measure => simp [intOf]; omega
      · obtain ⟨hn1, hn2⟩ : 1 ≤ (rAt rs k).number ∧ (rAt rs k).number ≤ columns := by omega
        have hn3 : (rAt rs k).number ≤ 9223372036854775807 := by omega
        have d1 : decide ((rAt rs k).number < 1) = false := by simp; omega
        have d2 : decide (columns < (rAt rs k).number) = false := by simp; omega
        clear hskip
        have sa := HA.out.below HBL.out
        have sb := HB.out.below HBL.out
        have C1 : Hid (∀ wx : World, wx.heap = wr.heap → Calls Tryz.prog 28 #[.slice A a.length ca, .int .i64 (rAt rs k).number] wx fun e w' => e = .returned (.string (cellOf a (rAt rs k).number)) ∧ w' = wx) := fun wx hx =>
          spec_cellOf wx A ca a (sa.heap_eq hx) LA.out (rAt rs k).number hn1 hn3
        have C2 : Hid (∀ wx : World, wx.heap = wr.heap → Calls Tryz.prog 28 #[.slice B b.length cb, .int .i64 (rAt rs k).number] wx fun e w' => e = .returned (.string (cellOf b (rAt rs k).number)) ∧ w' = wx) := fun wx hx =>
          spec_cellOf wx B cb b (sb.heap_eq hx) LB.out (rAt rs k).number hn1 hn3
        have C3 : Hid (∀ wx : World, wx.heap = wr.heap → Calls Tryz.prog 35 #[.string (cellOf a (rAt rs k).number), .string (cellOf b (rAt rs k).number), .int .i64 (rAt rs k).mode, .bool (rAt rs k).fold] wx (PairIs (bef low num (cellOf a (rAt rs k).number) (cellOf b (rAt rs k).number) (rAt rs k).mode (rAt rs k).fold) wx)) := fun wx hx =>
          before HLOW.out HL.out _ _ (OA.out _ hmem.out hn1 hn2) (OB.out _ hmem.out hn1 hn2) _ (OM.out _ hmem.out).1 (OM.out _ hmem.out).2 _ wx ((HG.out.below HBL.out).heap_eq hx)
        clear sa sb
        go_wp2_with fail
        go_region_held3 (fun w' => w'.cell? ⟨rb, ro + k * 3, none⟩ = some (.int .i64 (rAt rs k).number) ∧ w'.cell? ⟨rb, ro + k * 3 + 1, none⟩ = some (.int .i64 (rAt rs k).mode) ∧ w'.cell? ⟨rb, ro + k * 3 + 2, none⟩ = some (.bool (rAt rs k).fold))
          (first | go_keep)
          (first | (go_at_call 35; (with_reducible refine (C3.out _ (by first | exact heap_drew _ | exact heap_drewN _ _)).mono ?_); rintro e w' ⟨rfl, hb3⟩; have hc3 : ∀ o, w'.cell? ⟨rb, o, none⟩ = wr.cell? ⟨rb, o, none⟩ := fun o => hb3.cell (p := ⟨rb, o, none⟩) hrb; have H3 := Lib.hid hb3; clear hb3) | (go_at_call 28; (with_reducible refine (C1.out _ (by first | exact heap_drew _ | exact heap_drewN _ _)).mono ?_); rintro e w' ⟨rfl, rfl⟩) | (go_at_call 28; (with_reducible refine (C2.out _ (by first | exact heap_drew _ | exact heap_drewN _ _)).mono ?_); rintro e w' ⟨rfl, rfl⟩))
        have HP : Hid (Below w.heap.size w w') := (HBL.out.drew).trans (H3.out.mono HBL.out.size)
        have hcl : True := trivial
        cases hp : (bef low num (cellOf a (rAt rs k).number) (cellOf b (rAt rs k).number) (rAt rs k).mode (rAt rs k).fold).1 with
        | true =>
          go_wp2_with fail
          go_roundw
          case rel => exact ⟨k + 1, by go_num, by omega, HP.out, by rw [← HRA.out, HT.out, if_neg (by omega), if_pos hp]⟩
          case measure => simp [intOf]; omega
        | false =>
          go_wp2_with fail
          go_ret
          exact ⟨by rw [← HRA.out, HT.out, if_neg (by omega), if_neg (by rw [hp]; decide)]; rfl, HP.out⟩
    · have HE : Hid (rowAhead low num columns rs a b = false) := by
        show _ = _
        rw [← HRA.out, show k = rs.length by omega, List.drop_length]; rfl
      go_wp2_with fail
      go_ret
      exact ⟨by rw [HE.out]; rfl, HBL.out⟩

end Go.Proofs.YtgolhmiocjpohaaGreatDoor
