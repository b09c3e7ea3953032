/- The law FnKeep (3) answers true. No condition beyond what the row's list of laid variables tells. -/
import Derived.Test.YtgolhmiocjpohaaGreatDoorLw1
set_option linter.unusedVariables false
set_option linter.unusedSimpArgs false
namespace Go.Proofs.YtgolhmiocjpohaaGreatDoor
open Go.RowKit Go.PlainAid

set_option maxHeartbeats 6400000 in
set_option maxRecDepth 100000 in
theorem law_great (hK : KeepC) (w : World) (A1 A2 A3 : Option Addr) (c1 c2 c3 : Nat) (rows : List (List CellD)) (bs : List Int) (fs : List FiltD) (hG : GridAt w A1 rows) (hN : NumsAt w A2 bs) (hF : FiltsAt w A3 fs) (hE : EnvK w.heap.size w)
  (hnr : ∀ i, i < rows.length → ∀ j, j < (rwAt rows i).length → NumOkD (cAt (rwAt rows i) j)) (hnf : ∀ i, i < fs.length → NumOkD (fAt fs i).value) (hs : rows.length ≤ 60 ∧ bs.length ≤ 60 ∧ fs.length ≤ 8) :
  Calls Tryz.prog 3 #[.slice A1 rows.length c1, .slice A2 bs.length c2, .slice A3 fs.length c3] w (Holds3 w) := by
 obtain ⟨hr60, hb60, hf8⟩ := hs
 have K5 := Lib.hid (fun w1 (hb : Below w.heap.size w w1) => fits_rows w1 A1 c1 rows (hG.below hb))
 have K6 := Lib.hid (fun w1 (hb : Below w.heap.size w w1) => fits_filters w1 A3 c3 fs (hF.below hb))
 have HG := Lib.hid hG
 have HN := Lib.hid hN
 have HF := Lib.hid hF
 have HE := Lib.hid hE
 have HNR := Lib.hid hnr
 have HNF := Lib.hid hnf
 have HKC := Lib.hid hK
 have hb1 : ¬ (2147483647 : Int) < (bs.length : Int) := by omega
 have hr1 : ¬ (60 : Int) < (rows.length : Int) := by omega
 have hb2 : ¬ (60 : Int) < (bs.length : Int) := by omega
 have hf1 : ¬ (8 : Int) < (fs.length : Int) := by omega
 clear hG hN hF hE hnr hnf hK
 go_enter Tryz.func3, Tryz.ntmps3
 go_wp2_with (go_at_call 5; (with_reducible refine (K5.out _ (Below.refl _ _)).mono ?_); rintro e w1 ⟨b, rfl, hb, hbl1⟩; have H1 := Lib.hid (And.intro hb hbl1); clear hb hbl1; cases b)
 ·go_wp2_with fail
  go_ret
  exact ⟨rfl, H1.out.2⟩
 ·go_wp2_with (go_at_call 6; (with_reducible refine (K6.out _ H1.out.2).mono ?_); rintro e w2 ⟨b, rfl, hb, hbl2⟩; have H2 := Lib.hid (H1.out.2.trans (hbl2.mono H1.out.2.size)); clear hb hbl2; cases b)
  ·go_wp2_with fail
   go_ret
   exact ⟨rfl, H2.out⟩
  ·have HLEN := Lib.hid (H1.out.1 (by trivial)).2
   go_wp2_with fail
   go_loopg [7, 8] rows.length (fun g s7 s8 wx => ∃ i : Nat, s7 = .int .i64 i ∧ i + g = rows.length ∧ (∀ i', i' < i → ∀ k, k < (rwAt rows i').length → AskD (cAt (rwAt rows i') k)) ∧ wx = w2)
   case atStart => exact ⟨0, rfl, by omega, fun i' h => by omega, rfl⟩
   case round =>
    obtain ⟨i, rfl, hig, hall, hw⟩ := hrel
    subst hw
    have HALL := Lib.hid hall
    clear hall
    cases gk with
    | zero =>
     have hi : ¬ (i : Int) < (rows.length : Int) := by omega
     have hie : i = rows.length := by omega
     subst hie
     go_wp2_with fail
     go_loopg [9] fs.length (fun g s9 wx => ∃ j : Nat, s9 = .int .i64 j ∧ j + g = fs.length ∧ (∀ j', j' < j → AskD (fAt fs j').value) ∧ wx = wr)
     case atStart => exact ⟨0, rfl, by omega, fun j' h => by omega, rfl⟩
     case round =>
      obtain ⟨j, rfl, hjg, hallf, hw⟩ := hrel
      subst hw
      have HALLF := Lib.hid hallf
      clear hallf
      cases gk with
      | zero =>
       have hj : ¬ (j : Int) < (fs.length : Int) := by omega
       have hje : j = fs.length := by omega
       subst hje
       have hok : ∀ i, i < rows.length → (rwAt rows i).length ≤ 2147483647 ∧ ∀ j, j < (rwAt rows i).length → CellOkD (cAt (rwAt rows i) j) := fun i hi => ⟨HLEN.out i hi, fun j hj => cell_ok (HALL.out i hi j hj) (HNR.out i hi j hj)⟩
       have hfo : ∀ j, j < fs.length → CellOkD (fAt fs j).value := fun j hj => cell_ok (HALLF.out j hj) (HNF.out j hj)
       have K7 := Lib.hid (fun u (hb : Below w.heap.size w u) => HKC.out w.heap.size u A1 A2 A3 c1 c2 c3 rows bs fs (HG.out.below hb) (HN.out.below hb) (HF.out.below hb) (HE.out.below hb) hr60 hb60 hf8 hok hfo)
       have K8 := Lib.hid (fun u (hb : Below w.heap.size w u) => spec_keep (libC w.heap.size) u A1 A2 A3 c1 c2 c3 rows bs fs (HG.out.below hb) (HN.out.below hb) (HF.out.below hb) (HE.out.below hb) hr60 hb60 hf8 hok hfo)
       have HKA := Lib.hid (kept_alike rows (keptIx (fun row => allTo lowD eqfB fs (colsTo rows rows.length) row fs.length) rows rows.length) (keptIx_lt _ rows _) hok)
       have HKL := Lib.hid (keptIx_len (fun row => allTo lowD eqfB fs (colsTo rows rows.length) row fs.length) rows rows.length)
       have HBL := Lib.hid (brkTo_len (fun row => allTo lowD eqfB fs (colsTo rows rows.length) row fs.length) rows bs rows.length)
       generalize brkTo (fun row => allTo lowD eqfB fs (colsTo rows rows.length) row fs.length) rows bs rows.length = bk at *
       generalize keptIx (fun row => allTo lowD eqfB fs (colsTo rows rows.length) row fs.length) rows rows.length = ks at *
       have hkl := HKL.out
       have hbl := HBL.out
       obtain ⟨xs, hxs⟩ : ∃ xs, xs = ks.map fun k => (rwAt rows k).map stripC := ⟨_, rfl⟩
       obtain ⟨ys, hys⟩ : ∃ ys, ys = ks.map (rwAt rows) := ⟨_, rfl⟩
       have hxl : xs.length = ks.length := by rw [hxs, List.length_map]
       have hyl : ys.length = ks.length := by rw [hys, List.length_map]
       rw [← hxs] at K7
       rw [← hys] at K8
       rw [← hxs, ← hys] at HKA
       have HXY : Hid (xs.length = ys.length) := hxl.trans hyl.symm
       have hxl2 : xs.length ≤ 2147483647 := by omega
       have hbk2 : bk.length ≤ 2147483647 := by omega
       clear hok hfo hxs hys hxl hyl hkl hbl
       go_upto_region 19 with (first
        | (go_at_call 7; (with_reducible refine (K7.out _ H2.out).mono ?_); rintro e w3 ⟨P1, p1, P2, p2, rfl, hg, hn, hb⟩; have H7 := Lib.hid (And.intro hg (And.intro hn (H2.out.trans (hb.mono H2.out.size)))); clear hg hn hb)
        | (go_at_call 8; (with_reducible refine (K8.out _ H7.out.2.2).mono ?_); rintro e w4 ⟨Q1, q1, Q2, q2, rfl, hg, hn, hb⟩; have H8 := Lib.hid (And.intro hg (And.intro hn (And.intro hb (H7.out.2.2.trans (hb.mono H7.out.2.2.size))))); clear hg hn hb))
       have HB9 : Hid (Below w4.heap.size w4 ((w4.alloc (.cells #[.slice P1 xs.length p1, .slice P2 bk.length p2] 33)).alloc (.cells #[.slice Q1 ys.length q1, .slice Q2 bk.length q2] 33))) := ((Below.refl _ _).alloc (Nat.le_refl _) _).alloc (by simp) _
       have HC9 : Hid (((w4.alloc (.cells #[.slice P1 xs.length p1, .slice P2 bk.length p2] 33)).alloc (.cells #[.slice Q1 ys.length q1, .slice Q2 bk.length q2] 33)).heap[w4.heap.size]? = some (.cells #[.slice P1 xs.length p1, .slice P2 bk.length p2] 33 (0, 0)) ∧
         ((w4.alloc (.cells #[.slice P1 xs.length p1, .slice P2 bk.length p2] 33)).alloc (.cells #[.slice Q1 ys.length q1, .slice Q2 bk.length q2] 33)).heap[w4.heap.size + 1]? = some (.cells #[.slice Q1 ys.length q1, .slice Q2 bk.length q2] 33 (0, 0))) := by
        refine ⟨?_, ?_⟩
        ·rw [Below.heap_alloc _ _ _ (by simp)]
         exact heap_alloc_new w4 _
        ·have h := heap_alloc_new (w4.alloc (.cells #[.slice P1 xs.length p1, .slice P2 bk.length p2] 33)) (.cells #[.slice Q1 ys.length q1, .slice Q2 bk.length q2] 33)
         simpa using h
       generalize (w4.alloc (.cells #[.slice P1 xs.length p1, .slice P2 bk.length p2] 33)).alloc (.cells #[.slice Q1 ys.length q1, .slice Q2 bk.length q2] 33) = W9 at *
       obtain ⟨d0, d1, _, _⟩ := two_cells HC9.out.1
       obtain ⟨e0, e1, _, _⟩ := two_cells HC9.out.2
       have K9 := Lib.hid (same_rows W9 P1 Q1 p1 q1 xs ys ((H7.out.1.below H8.out.2.2.1).below HB9.out) (H8.out.1.below HB9.out) hxl2 HXY.out HKA.out)
       have K10 := Lib.hid (fun u (hb : Below W9.heap.size W9 u) => same_ints u P2 Q2 p2 q2 bk (((H7.out.2.1.below H8.out.2.2.1).below HB9.out).below hb) ((H8.out.2.1.below HB9.out).below hb) hbk2)
       have HFIN : Hid (Below w.heap.size w W9) := H8.out.2.2.2.trans (HB9.out.mono H8.out.2.2.2.size)
       clear K5 K6 K7 K8
       go_wp2_with (first
        | (go_at_call 9; (with_reducible refine K9.out.mono ?_); rintro e w10 ⟨rfl, hb⟩; have H10 := Lib.hid hb; obtain ⟨f0, f1, _, _⟩ := two_cells ((hb.block _ (Array.getElem?_eq_some_iff.1 HC9.out.1).1).trans HC9.out.1); obtain ⟨g0, g1, _, _⟩ := two_cells ((hb.block _ (Array.getElem?_eq_some_iff.1 HC9.out.2).1).trans HC9.out.2); clear hb)
        | (go_at_call 10; (with_reducible refine (K10.out _ H10.out).mono ?_); rintro e w11 ⟨rfl, hb⟩; have H11 := Lib.hid (H10.out.trans (hb.mono H10.out.size)); clear hb))
       go_ret
       exact ⟨rfl, HFIN.out.trans (H11.out.mono HFIN.out.size)⟩
      | succ g2 =>
       have hj : (j : Int) < (fs.length : Int) := by omega
       have hjl : j < fs.length := by omega
       rcases HF.out with h | ⟨bf, of, rfl, hbf, hff⟩
       ·exfalso; rw [h] at hj; simp at hj; omega
       obtain ⟨q0, q1, q2, q3, q4, q5⟩ := (hff j hjl).below H2.out hbf
       have HNX : Hid (AskD (fAt fs j).value → ∀ j', j' < j + 1 → AskD (fAt fs j').value) := fun h j' hj' => by
        rcases Nat.lt_or_ge j' j with q | q
        ·exact HALLF.out j' q
        ·rw [show j' = j by omega]; exact h
       generalize fAt fs j = f at *
       obtain ⟨fm, fo, ⟨ck, ct, cn⟩, ff⟩ := f
       dsimp only at q0 q1 q2 q3 q4 q5 HNX
       have hcase : (ck = 0 ∧ ct.size ≤ 400) ∨ (ck = 1 ∧ ct.size ≤ 400) ∨ (ck = 0 ∧ 400 < ct.size) ∨ (ck = 1 ∧ 400 < ct.size) ∨ (ck ≠ 0 ∧ ck ≠ 1) := by omega
       clear hff
       rcases hcase with ⟨rfl, hz⟩ | ⟨rfl, hz⟩ | ⟨rfl, hz⟩ | ⟨rfl, hz⟩ | ⟨hk0, hk1⟩
       ·have hzI : ¬ (400 : Int) < (ct.size : Int) := by omega
        have HS := Lib.hid (HNX.out ⟨Or.inl rfl, hz⟩)
        clear HNX
        go_wp2_with fail
        go_roundg g2
        case measure => omega
        case rel => exact ⟨j + 1, by go_num, by omega, HS.out, rfl⟩
       ·have hzI : ¬ (400 : Int) < (ct.size : Int) := by omega
        have HS := Lib.hid (HNX.out ⟨Or.inr rfl, hz⟩)
        clear HNX
        go_wp2_with fail
        go_roundg g2
        case measure => omega
        case rel => exact ⟨j + 1, by go_num, by omega, HS.out, rfl⟩
       ·have hzI : (400 : Int) < (ct.size : Int) := by omega
        clear HNX
        go_wp2_with fail
        go_ret
        exact ⟨rfl, H2.out⟩
       ·have hzI : (400 : Int) < (ct.size : Int) := by omega
        clear HNX
        go_wp2_with fail
        go_ret
        exact ⟨rfl, H2.out⟩
       ·clear HNX
        go_wp2_with fail
        go_ret
        exact ⟨rfl, H2.out⟩
    | succ g =>
     have hi : (i : Int) < (rows.length : Int) := by omega
     have hil : i < rows.length := by omega
     rcases HG.out with h | ⟨bx, ox, rfl, hbx, hx3⟩
     ·exfalso; rw [h] at hi; simp at hi; omega
     obtain ⟨A', c', x0, hcells⟩ := hx3 i hil
     have y0 := (H2.out.cell (p := ⟨bx, ox + i, none⟩) hbx).trans x0
     have hlen := HLEN.out i hil
     have HNXR : Hid ((∀ k, k < (rwAt rows i).length → AskD (cAt (rwAt rows i) k)) → ∀ i', i' < i + 1 → ∀ k, k < (rwAt rows i').length → AskD (cAt (rwAt rows i') k)) := fun h i' hi' => by
      rcases Nat.lt_or_ge i' i with q | q
      ·exact HALL.out i' q
      ·rw [show i' = i by omega]; exact h
     generalize rwAt rows i = row at *
     have HC := Lib.hid hcells
     clear hx3 x0 hcells
     go_wp2_with fail
     go_loopg [8] row.length (fun g s8 wx => ∃ k : Nat, s8 = .int .i64 k ∧ k + g = row.length ∧ (∀ k', k' < k → AskD (cAt row k')) ∧ wx = wr)
     case atStart => exact ⟨0, rfl, by omega, fun k' h => by omega, rfl⟩
     case round =>
      obtain ⟨k, rfl, hkg, hallk, hw⟩ := hrel
      subst hw
      have HALLK := Lib.hid hallk
      clear hallk
      cases gk with
      | zero =>
       have hk : ¬ (k : Int) < (row.length : Int) := by omega
       have hke : k = row.length := by omega
       subst hke
       go_wp2_with fail
       go_roundg g
       case measure => omega
       case rel => exact ⟨i + 1, by go_num, by omega, HNXR.out HALLK.out, rfl⟩
      | succ g2 =>
       have hk : (k : Int) < (row.length : Int) := by omega
       have hkl : k < row.length := by omega
       rcases HC.out with h | ⟨bc, oc, rfl, hbc, hcc⟩
       ·exfalso; rw [h] at hk; simp at hk; omega
       obtain ⟨q0, q1, q2⟩ := (hcc k hkl).below H2.out hbc
       have HNX : Hid (AskD (cAt row k) → ∀ k', k' < k + 1 → AskD (cAt row k')) := fun h k' hk' => by
        rcases Nat.lt_or_ge k' k with q | q
        ·exact HALLK.out k' q
        ·rw [show k' = k by omega]; exact h
       generalize cAt row k = c at *
       obtain ⟨ck, ct, cn⟩ := c
       dsimp only at q0 q1 q2 HNX
       have hcase : (ck = 0 ∧ ct.size ≤ 400) ∨ (ck = 1 ∧ ct.size ≤ 400) ∨ (ck = 0 ∧ 400 < ct.size) ∨ (ck = 1 ∧ 400 < ct.size) ∨ (ck ≠ 0 ∧ ck ≠ 1) := by omega
       clear hcc
       rcases hcase with ⟨rfl, hz⟩ | ⟨rfl, hz⟩ | ⟨rfl, hz⟩ | ⟨rfl, hz⟩ | ⟨hk0, hk1⟩
       ·have hzI : ¬ (400 : Int) < (ct.size : Int) := by omega
        have HS := Lib.hid (HNX.out ⟨Or.inl rfl, hz⟩)
        clear HNX
        go_wp2_with fail
        go_roundg g2
        case measure => omega
        case rel => exact ⟨k + 1, by go_num, by omega, HS.out, rfl⟩
       ·have hzI : ¬ (400 : Int) < (ct.size : Int) := by omega
        have HS := Lib.hid (HNX.out ⟨Or.inr rfl, hz⟩)
        clear HNX
        go_wp2_with fail
        go_roundg g2
        case measure => omega
        case rel => exact ⟨k + 1, by go_num, by omega, HS.out, rfl⟩
       ·have hzI : (400 : Int) < (ct.size : Int) := by omega
        clear HNX
        go_wp2_with fail
        go_ret
        exact ⟨rfl, H2.out⟩
       ·have hzI : (400 : Int) < (ct.size : Int) := by omega
        clear HNX
        go_wp2_with fail
        go_ret
        exact ⟨rfl, H2.out⟩
       ·clear HNX
        go_wp2_with fail
        go_ret
        exact ⟨rfl, H2.out⟩

/-- The law answers true. -/
theorem law_over (hK : KeepC) (w : World) (A1 A2 A3 : Option Addr) (c1 c2 c3 : Nat) (rows : List (List CellD)) (bs : List Int) (fs : List FiltD) (hG : GridAt w A1 rows) (hN : NumsAt w A2 bs) (hF : FiltsAt w A3 fs) (hE : EnvK w.heap.size w)
  (hnr : ∀ i, i < rows.length → ∀ j, j < (rwAt rows i).length → NumOkD (cAt (rwAt rows i) j)) (hnf : ∀ i, i < fs.length → NumOkD (fAt fs i).value) :
  Calls Tryz.prog 3 #[.slice A1 rows.length c1, .slice A2 bs.length c2, .slice A3 fs.length c3] w (Holds3 w) := by
 by_cases hs : rows.length ≤ 60 ∧ bs.length ≤ 60 ∧ fs.length ≤ 8
 ·exact law_great hK w A1 A2 A3 c1 c2 c3 rows bs fs hG hN hF hE hnr hnf hs
 ·exact law_small w A1 A2 A3 c1 c2 c3 rows bs fs hG hN hF hs

end Go.Proofs.YtgolhmiocjpohaaGreatDoor
