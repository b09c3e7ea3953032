/- The package's less of two rows (the function within getSortedRowIndices), by the rules that were kept. -/
import Derived.Test.YtgolhmiocjpohaaGreatDoorImpl3
import Derived.Test.YtgolhmiocjpohaaGreatDoorLess
import Derived.Test.YtgolhmiocjpohaaGreatDoorSpec3
set_option linter.unusedVariables false
set_option linter.unusedSimpArgs false
namespace Go.Proofs.YtgolhmiocjpohaaGreatDoor
open Go.RowKit

/-- Whether a row is less than another by rules: the package's. The last answer stands where every rule finds them alike. -/
def rowLess (low : ByteArray → ByteArray) (num : ByteArray → Option Nat) (last : Bool) : List Rule → List ByteArray → List ByteArray → Bool
  | [], _, _ => last
  | r :: rs, a, b =>
    let p := bef low num (cellOf a r.number) (cellOf b r.number) r.mode r.fold
    if p.1 then rowLess low num p.2 rs a b else p.2

theorem rowLess_at (low : ByteArray → ByteArray) (num : ByteArray → Option Nat) (last : Bool) (rs : List Rule) (a b : List ByteArray) (k : Nat) (hk : k < rs.length) :
    rowLess low num last (rs.drop k) a b =
      if (bef low num (cellOf a (rAt rs k).number) (cellOf b (rAt rs k).number) (rAt rs k).mode (rAt rs k).fold).1
      then rowLess low num (bef low num (cellOf a (rAt rs k).number) (cellOf b (rAt rs k).number) (rAt rs k).mode (rAt rs k).fold).2 (rs.drop (k + 1)) a b
      else (bef low num (cellOf a (rAt rs k).number) (cellOf b (rAt rs k).number) (rAt rs k).mode (rAt rs k).fold).2 := by
  have e : rs.drop k = rAt rs k :: rs.drop (k + 1) := by
    rw [List.drop_eq_getElem_cons hk]
    congr 1
    simp [rAt, List.getD_eq_getElem?_getD, List.getElem?_eq_getElem hk]
  rw [e]
  rfl

/-- What the less of two rows reads. -/
structure ClosAt (w : World) (bs bt tb : Nat) (As : Option Addr) (cs : Nat) (ks : List Rule) (Ar : Option Addr) (cr : Nat) (rows : List (List ByteArray)) : Prop where
  s : w.cell? ⟨bs, 0, none⟩ = some (.slice As ks.length cs)
  t : w.cell? ⟨bt, 0, none⟩ = some (.pointer (some ⟨tb, 0, none⟩))
  r : w.cell? ⟨tb, 20, none⟩ = some (.slice Ar rows.length cr)
  ls : bs < w.heap.size
  lt : bt < w.heap.size
  lr : tb < w.heap.size
  sbsAt : SbsAt w As ks
  rowsAt : RowsAt w Ar rows

theorem ClosAt.below {w w' : World} {bs bt tb : Nat} {As : Option Addr} {cs : Nat} {ks : List Rule} {Ar : Option Addr} {cr : Nat} {rows : List (List ByteArray)} (h : ClosAt w bs bt tb As cs ks Ar cr rows) (hb : Below w.heap.size w w') :
    ClosAt w' bs bt tb As cs ks Ar cr rows :=
  ⟨by rw [hb.cell (p := ⟨bs, 0, none⟩) h.ls]; exact h.s, by rw [hb.cell (p := ⟨bt, 0, none⟩) h.lt]; exact h.t, by rw [hb.cell (p := ⟨tb, 20, none⟩) h.lr]; exact h.r,
    by have := hb.size; have := h.ls; omega, by have := hb.size; have := h.lt; omega, by have := hb.size; have := h.lr; omega, h.sbsAt.below hb, h.rowsAt.below hb⟩

/-- A cell of a row by a rule that was kept. -/
theorem cellOf_in {row : List ByteArray} {n : Int} (h1 : 1 ≤ n) (h : n - 1 < row.length) : cellOf row n = sAt row (n - 1).toNat := by unfold cellOf; rw [if_pos (by omega)]
theorem cellOf_out {row : List ByteArray} {n : Int} (h : ¬ n - 1 < row.length) : cellOf row n = ⟨#[]⟩ := by unfold cellOf; rw [if_neg (by omega)]

set_option maxHeartbeats 6400000 in
set_option maxRecDepth 100000 in
theorem closure64 {Dom : ByteArray → Prop} {low : ByteArray → ByteArray} {num : ByteArray → Option Nat} (hlow : LowSaid Dom low) (hl : LightSaid Dom num)
    (w : World) (bi bs bt tb rowb : Nat) (As : Option Addr) (cs : Nat) (ks : List Rule) (Ar : Option Addr) (cr n c : Nat) (rows : List (List ByteArray)) (H : ClosAt w bs bt tb As cs ks Ar cr rows)
    (i j x y : Nat) (hbi : w.cell? ⟨bi, 0, none⟩ = some (.slice (some ⟨rowb, 0, none⟩) n c)) (hi : i < n) (hj : j < n) (hci : w.cell? ⟨rowb, i, none⟩ = some (.int .i64 x)) (hcj : w.cell? ⟨rowb, j, none⟩ = some (.int .i64 y))
    (hx : x < rows.length) (hy : y < rows.length) (hnl : n ≤ 2147483647) (hll : ks.length ≤ 2147483647) (hrl : rows.length ≤ 2147483647)
    (hk : ∀ r ∈ ks, 1 ≤ r.number ∧ r.number ≤ 9223372036854775807 ∧ Dom (cellOf (rowAt rows x) r.number) ∧ Dom (cellOf (rowAt rows y) r.number))
    (hlx : (rowAt rows x).length ≤ 2147483647) (hly : (rowAt rows y).length ≤ 2147483647) :
    Calls Tryz.prog 64 #[.int .i64 i, .int .i64 j, .pointer (some ⟨bi, 0, none⟩), .pointer (some ⟨bs, 0, none⟩), .pointer (some ⟨bt, 0, none⟩)] w (BoolIs (rowLess low num false ks (rowAt rows x) (rowAt rows y)) w) := by
  have HH := Lib.hid H
  have HK := Lib.hid hk
  have HLOW := Lib.hid hlow
  have HL := Lib.hid hl
  have HLX := Lib.hid hlx
  have HLY := Lib.hid hly
  have HX := Lib.hid hx
  have HY := Lib.hid hy
  have HRL := Lib.hid hrl
  have hs := H.s
  clear H hk hlow hl hlx hly hx hy hrl
  go_enter Tryz.func64, Tryz.ntmps64
  go_wp2_with fail
  go_quiet (fail)
  go_wp2_with fail
  go_loopw [9, 29] (fun v u wr => ∃ (k : Nat) (last : Bool), u = .int .i64 k ∧ v = .bool last ∧ k ≤ ks.length ∧ Below w.heap.size w wr ∧ rowLess low num last (ks.drop k) (rowAt rows x) (rowAt rows y) = rowLess low num false ks (rowAt rows x) (rowAt rows y)) (fun _ u _ => ks.length - (intOf u).toNat)
  case atStart => exact ⟨0, false, rfl, rfl, by omega, below_drewN (Below.refl _ _) _, rfl⟩
  case round =>
    obtain ⟨k, last, rfl, rfl, hk, hbl, hra⟩ := hrel
    have HBL := Lib.hid hbl
    have HRA := Lib.hid hra
    clear hbl hra
    by_cases hlt : k < ks.length
    · have HC := Lib.hid (HH.out.below HBL.out)
      obtain ⟨b, o, rfl, hb, h0, h1, h2, h3, h4⟩ := HC.out.sbsAt.get hlt
      have HT := Lib.hid (rowLess_at low num last ks (rowAt rows x) (rowAt rows y) k hlt)
      have HM := Lib.hid (HK.out _ (rAt_mem hlt))
      have HB0 := Lib.hid hb
      clear hb
      generalize rAt ks k = r at *
      have g4 : (wr.alloc (.cells #[.string ⟨#[]⟩, .int .i64 r.number, .int .i64 r.mode, .bool r.fold, .nilFunc] 116)).cell? ⟨bt, 0, none⟩ = some (.pointer (some ⟨tb, 0, none⟩)) := by rw [World.cell?_alloc_past _ _ _ HC.out.lt]; exact HC.out.t
      have gt : (wr.alloc (.cells #[.string ⟨#[]⟩, .int .i64 r.number, .int .i64 r.mode, .bool r.fold, .nilFunc] 116)).cell? ⟨tb, 20, none⟩ = some (.slice Ar rows.length cr) := by rw [World.cell?_alloc_past _ _ _ HC.out.lr]; exact HC.out.r
      obtain ⟨rb, ro, A1, c1, hA, hrb, hr1, hs1⟩ := HC.out.rowsAt.get HX.out
      obtain ⟨rb', ro', A2, c2, hA2, hrb2, hr2, hs2⟩ := HC.out.rowsAt.get HY.out
      rw [hA] at hA2
      cases hA2
      subst hA
      have gx : (wr.alloc (.cells #[.string ⟨#[]⟩, .int .i64 r.number, .int .i64 r.mode, .bool r.fold, .nilFunc] 116)).cell? ⟨rb, ro + x, none⟩ = some (.slice A1 (rowAt rows x).length c1) := by rw [World.cell?_alloc_past _ _ _ hrb]; exact hr1
      have gy : (wr.alloc (.cells #[.string ⟨#[]⟩, .int .i64 r.number, .int .i64 r.mode, .bool r.fold, .nilFunc] 116)).cell? ⟨rb, ro + y, none⟩ = some (.slice A2 (rowAt rows y).length c2) := by rw [World.cell?_alloc_past _ _ _ hrb]; exact hr2
      have HS1 := Lib.hid hs1
      have HS2 := Lib.hid hs2
      have hx := HX.out
      have hy := HY.out
      have hrl := HRL.out
      have hm1 := HM.out.1
      have hm2 := HM.out.2.1
      clear hr1 hr2 hs1 hs2 hrb hrb2 hbi hci hcj hs
      obtain ⟨num0, mode, fold⟩ := r
      obtain ⟨m, rfl⟩ : ∃ m : Nat, num0 = (m : Int) + 1 := ⟨(num0 - 1).toNat, by simp only at hm1; omega⟩
      simp only at h1 h2 h3 g4 gt gx gy HT HM hm1 hm2
      clear hm1
      have ca : (m < (rowAt rows x).length ∧ ∃ bx ox, A1 = some ⟨bx, ox, none⟩ ∧ (wr.alloc (.cells #[.string ⟨#[]⟩, .int .i64 ((m : Int) + 1), .int .i64 mode, .bool fold, .nilFunc] 116)).cell? ⟨bx, ox + m, none⟩ = some (.string (cellOf (rowAt rows x) ((m : Int) + 1)))) ∨ (decide (m < (rowAt rows x).length) = false ∧ cellOf (rowAt rows x) ((m : Int) + 1) = ⟨#[]⟩) := by
        by_cases h : m < (rowAt rows x).length
        · obtain ⟨bx, ox, e, hbx, hcx⟩ := HS1.out.get h
          refine Or.inl ⟨h, bx, ox, e, ?_⟩
          rw [World.cell?_alloc_past _ _ _ hbx, cellOf_in (by omega) (by omega)]
          simpa using hcx
        · exact Or.inr ⟨by simpa using h, cellOf_out (by omega)⟩
      have cb : (m < (rowAt rows y).length ∧ ∃ bx ox, A2 = some ⟨bx, ox, none⟩ ∧ (wr.alloc (.cells #[.string ⟨#[]⟩, .int .i64 ((m : Int) + 1), .int .i64 mode, .bool fold, .nilFunc] 116)).cell? ⟨bx, ox + m, none⟩ = some (.string (cellOf (rowAt rows y) ((m : Int) + 1)))) ∨ (decide (m < (rowAt rows y).length) = false ∧ cellOf (rowAt rows y) ((m : Int) + 1) = ⟨#[]⟩) := by
        by_cases h : m < (rowAt rows y).length
        · obtain ⟨bx, ox, e, hbx, hcx⟩ := HS2.out.get h
          refine Or.inl ⟨h, bx, ox, e, ?_⟩
          rw [World.cell?_alloc_past _ _ _ hbx, cellOf_in (by omega) (by omega)]
          simpa using hcx
        · exact Or.inr ⟨by simpa using h, cellOf_out (by omega)⟩
      have hlx := HLX.out
      have hly := HLY.out
      clear HS1 HS2
      have CL : ∀ W, Hid (Calls Tryz.prog 65 #[.string (cellOf (rowAt rows x) ((m : Int) + 1)), .string (cellOf (rowAt rows y) ((m : Int) + 1)), sbV ((m : Int) + 1) mode fold] W (PairIs (bef low num (cellOf (rowAt rows x) ((m : Int) + 1)) (cellOf (rowAt rows y) ((m : Int) + 1)) mode fold) W)) := fun W => less HLOW.out HL.out _ _ HM.out.2.2.1 HM.out.2.2.2 _ _ _ W
      unfold sbV at CL
      generalize hca : cellOf (rowAt rows x) ((m : Int) + 1) = ta at *
      generalize hcb : cellOf (rowAt rows y) ((m : Int) + 1) = tb2 at *
      clear HM hca hcb
      generalize (rowAt rows x).length = lx at *
      generalize (rowAt rows y).length = ly at *
      generalize hp : bef low num ta tb2 mode fold = p at *
      clear hp
      obtain ⟨p1, p2⟩ := p
      simp only at HT
      rcases ca with ⟨ca1, bx, ox, rfl, ca2⟩ | ⟨ca1, rfl⟩ <;> rcases cb with ⟨cb1, bx', ox', rfl, cb2⟩ | ⟨cb1, rfl⟩
      iterate 4
        go_wp2_with fail
        go_quiet (fail)
        go_wp2_with fail
        with_reducible refine (CL _).out.mono ?_
        rintro e w1 ⟨rfl, hb1⟩
        have HB1 := Lib.hid ((below_drewN (HBL.out.alloc HBL.out.size _) _).trans (hb1.mono (by simp; have := HBL.out.size; omega)))
        clear hb1
        cases p1 with
        | true =>
          go_wp2_with fail
          go_roundw
          case rel => exact ⟨k + 1, p2, by go_num, rfl, by omega, HB1.out, by rw [← HRA.out, HT.out]; rfl⟩
          case measure => simp [intOf]; omega
        | false =>
          go_wp2_with fail
          go_ret
          exact ⟨by rw [← HRA.out, HT.out]; rfl, HB1.out⟩
    · go_wp2_with fail
      go_ret
      refine ⟨?_, HBL.out⟩
      rw [← HRA.out, List.drop_of_length_le (by omega)]
      rfl

end Go.Proofs.YtgolhmiocjpohaaGreatDoor
