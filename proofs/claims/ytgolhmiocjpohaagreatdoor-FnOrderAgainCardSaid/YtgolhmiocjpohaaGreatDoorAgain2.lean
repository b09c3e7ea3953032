/- The law FnOrderAgain (4): it answers true. Its condition: what the walks read of the library's variables (Glob), and arguments laid in memory. -/
import Derived.Test.YtgolhmiocjpohaaGreatDoorAgain1
import Derived.Test.YtgolhmiocjpohaaGreatDoorFits4
set_option linter.unusedVariables false
set_option linter.unusedSimpArgs false
namespace Go.Proofs.YtgolhmiocjpohaaGreatDoor
open Go.RowKit Go.PlainAid Go.Sort

/-- A post: the places of rows, sorted. -/
def PlacesIs (columns : Int) (rs : List Rule) (rows : List (List ByteArray)) (w : World) (e : Ending) (w' : World) : Prop :=
  ∃ A c, ∃ ix : List Nat, e = .returned (.slice A rows.length c) ∧ ix.length = rows.length ∧ NatsAt w' A ix ∧ ix.Perm (List.range rows.length) ∧ (∀ i j, i < j → j < ix.length → ltI lowOf numOf (keepR columns rs) rows (nAt ix j) (nAt ix i) = false) ∧ Below w.heap.size w w'

theorem order_call {columns : Int} {rows : List (List ByteArray)} {rs : List Rule} (hf : Fine columns rows rs) (w : World) (A B : Option Addr) (ca cb : Nat) (h : RowsAt w A rows) (hs : RulesAt w B rs)
    (hll : rs.length ≤ 8) (hrl : rows.length ≤ 60) (hc0 : columns ≤ 20) :
    Calls Tryz.prog 13 #[.slice A rows.length ca, .int .i64 columns, .slice B rs.length cb] w (PlacesIs columns rs rows w) := by
  refine (impl_Order said_low said_light w A B ca cb rows rs columns h hs hf.swo (by omega) (by omega) (fun x hx => (hf.sizes x hx).1) (by omega) (fun x hx => hf.rowsOk hx)).mono ?_
  rintro e w' ⟨A2, c2, ix, rfl, h1, h2, h3, h4⟩
  have hl : ix.length = rows.length := by have := h2.length_eq; simpa using this
  exact ⟨A2, c2, ix, by rw [hl], hl, h1, h2, h3, h4⟩

theorem order_call_n {columns : Int} {rows : List (List ByteArray)} {rs : List Rule} (hf : Fine columns rows rs) {n : Nat} (hn : rows.length = n) (w : World) (A B : Option Addr) (ca cb : Nat) (h : RowsAt w A rows) (hs : RulesAt w B rs)
    (hll : rs.length ≤ 8) (hrl : n ≤ 60) (hc0 : columns ≤ 20) :
    Calls Tryz.prog 13 #[.slice A n ca, .int .i64 columns, .slice B rs.length cb] w fun e w' =>
      ∃ A c, ∃ ix : List Nat, e = .returned (.slice A n c) ∧ ix.length = n ∧ NatsAt w' A ix ∧ ix.Perm (List.range rows.length) ∧ (∀ i j, i < j → j < ix.length → ltI lowOf numOf (keepR columns rs) rows (nAt ix j) (nAt ix i) = false) ∧ Below w.heap.size w w' := by
  subst hn
  exact order_call hf w A B ca cb h hs hll hrl hc0

theorem perm_call {ix : List Nat} {n : Nat} (hp : ix.Perm (List.range n)) (hn : n ≤ 60) (w : World) (A : Option Addr) (c : Nat) (h : NatsAt w A ix) :
    Calls Tryz.prog 14 #[.slice A n c, .int .i64 (n : Int)] w fun e w' => e = .returned (.bool true) ∧ Below w.heap.size w w' := by
  have hl : ix.length = n := by have := hp.length_eq; simpa using this
  have := spec_Permuted w A c ix h (perm_permP hp) (by omega)
  rwa [hl] at this

theorem info44 : (Tryz.prog.info? 44).map (fun i => (i.zero, i.size, i.bytes)) = some (some (.slice none 0 0), 1, 24) := by kernel_rfl

set_option maxHeartbeats 3200000 in
set_option maxRecDepth 100000 in
theorem law_again (w : World) (hg : Glob w) (A R : Option Addr) (ca cr : Nat) (rows : List (List ByteArray)) (rs : List Rule) (columns : Int) (h : RowsAt w A rows) (hr : RulesAt w R rs)
    (hl : rows.length ≤ maxLen) (hll : rs.length ≤ maxLen) (hrl : ∀ x, x < rows.length → (rowAt rows x).length ≤ maxLen) :
    Calls Tryz.prog 4 #[.slice A rows.length ca, .int .i64 columns, .slice R rs.length cr] w fun e w' => e = .returned (.bool true) ∧ Below w.heap.size w w' := by
  have HG := Lib.hid hg
  have HA := Lib.hid h
  have HR := Lib.hid hr
  have KF := Lib.hid (fits19 w A ca rows h hl hrl)
  unfold maxLen at hl hll
  have KO := Lib.hid (fun (a : rows.length ≤ 2147483647) (b : rs.length ≤ 2147483647) (c : columns ≤ 9223372036854775807) d => spec_Ordered w A R ca cr rows rs columns h hr a b c d)
  clear hg h hr hrl
  by_cases h1 : 2147483647 < rs.length
  · have d1 : (2147483647 : Int) < (rs.length : Int) := by omega
    go_enter Tryz.func4, Tryz.ntmps4
    go_wp2_with (go_at_call 11; (with_reducible refine KF.out.mono ?_); rintro e w1 ⟨b, rfl, hb, rfl⟩; have HB := Lib.hid hb; clear hb; cases b)
    all_goals
      go_wp2_with fail
      go_ret
      exact ⟨rfl, Below.refl _ _⟩
  · have d1 : ¬ (2147483647 : Int) < (rs.length : Int) := by omega
    by_cases h2 : rows.length ≤ 60 ∧ rs.length ≤ 8 ∧ 0 ≤ columns ∧ columns ≤ 20
    · obtain ⟨e1, e2, e3, e4⟩ := h2
      have d2 : ¬ (60 : Int) < (rows.length : Int) := by omega
      have d3 : ¬ (8 : Int) < (rs.length : Int) := by omega
      have d4 : ¬ columns < 0 := by omega
      have d5 : ¬ 20 < columns := by omega
      go_enter Tryz.func4, Tryz.ntmps4
      go_wp2_with (go_at_call 11; (with_reducible refine KF.out.mono ?_); rintro e w1 ⟨b, rfl, hb, rfl⟩; have HB := Lib.hid hb; clear hb; cases b)
      · go_wp2_with fail
        go_ret
        exact ⟨rfl, Below.refl _ _⟩
      · have hfit : Hid (rows.length ≤ 2147483647 ∧ ∀ x, x < rows.length → (rowAt rows x).length ≤ 2147483647 ∧ ∀ i, i < (rowAt rows x).length → (sAt (rowAt rows x) i).size ≤ 2147483647) := by first | exact HB.out rfl | exact HB.out trivial
        clear HB
        go_wp2_with (go_at_call 12; (with_reducible refine (KO.out (by omega) (by omega) (by omega) hfit.out.2).mono ?_); rintro e w2 ⟨b, rfl, hb, hbl⟩; have HB := Lib.hid hb; have HBL := Lib.hid hbl; clear hb hbl; cases b)
        · go_wp2_with fail
          go_ret
          exact ⟨rfl, HBL.out⟩
        · have hrules : Hid (∀ i, i < rs.length → RuleOk columns rows (rAt rs i)) := by first | exact HB.out rfl | exact HB.out trivial
          have HF : Hid (Fine columns rows rs) := ⟨hrules.out, hfit.out.2⟩
          clear HB hrules hfit
          have K13 := Lib.hid (order_call HF.out w2 A R ca cr (HA.out.below HBL.out) (HR.out.below HBL.out) e2 e1 e4)
          go_wp2_with (first
            | (go_at_call 13; (with_reducible refine K13.out.mono ?_); rintro e w3 ⟨A3, c3, ix, rfl, q1, q2, q3, q4, q5⟩; have HX := Lib.hid (And.intro q1 (And.intro q2 (And.intro q3 (And.intro q4 q5)))); have K14 := Lib.hid (perm_call q3 e1 w3 A3 c3 q2); clear q1 q2 q3 q4 q5)
            | (go_at_call 14; (with_reducible refine K14.out.mono ?_); rintro e w4 ⟨rfl, q⟩; have H4 := Lib.hid q; clear q))
          obtain ⟨x1, x2, x3, x4, x5⟩ := HX.out
          have hW4 : Hid (Below w.heap.size w w4) := (HBL.out.trans (x5.mono HBL.out.size)).trans (H4.out.mono (by have := HBL.out.size; have := x5.size; omega))
          have HN4 := Lib.hid (x2.below H4.out)
          have HP4 := Lib.hid x3
          have HSO := Lib.hid x4
          have HLI := Lib.hid x1
          clear x1 x2 x3 x4 x5
          have hA4 := HA.out.below hW4.out
          obtain ⟨hs, hhs⟩ := hA4.choose
          have HHS := Lib.hid hhs
          clear hhs hA4
          obtain ⟨i0, hi, hz0, hz1, hz2⟩ := info_parts info44
          have HI := Lib.hid hi
          have HZ0 := Lib.hid hz0
          have HZ1 := Lib.hid hz1
          have HZ2 := Lib.hid hz2
          clear hi hz0 hz1 hz2
          go_loopw [8, 9] (fun v u wr => ∃ k : Nat, u = .int .i64 (k : Int) ∧ k ≤ rows.length ∧ Below w4.heap.size w4 wr ∧ wr.ownsRow w4.heap.size 44 1 v k (hdrs (fun i => hs (nAt ix i)) (byIx rows ix) k)) (fun _ u _ => rows.length - (intOf u).toNat)
          case atStart => exact ⟨0, rfl, by omega, Below.refl _ _, World.ownsRow_nil _ _ _ _⟩
          case round =>
            obtain ⟨k, rfl, hk, hbl, hown⟩ := hrel
            have HBR := Lib.hid hbl
            have HOWN := Lib.hid hown
            clear hbl hown
            by_cases hlt : k < rows.length
            · have hkx : k < ix.length := by rw [HLI.out]; exact hlt
              obtain ⟨b3, o3, rfl, hb3, hc3⟩ := HN4.out.get hkx
              obtain ⟨n, hn⟩ : ∃ n, n = nAt ix k := ⟨_, rfl⟩
              have hnl : n < rows.length := by rw [hn]; exact perm_bound HP4.out hkx
              obtain ⟨b, o, hAb, hb, hc, hsr⟩ := HHS.out n hnl
              subst hAb
              have hc3' : wr.cell? ⟨b3, o3 + k, none⟩ = some (.int .i64 (n : Nat)) := by rw [HBR.out.cell (p := ⟨b3, o3 + k, none⟩) hb3, hc3, hn]
              have hc2 : wr.cell? ⟨b, o + n, none⟩ = some (.slice (hs n).1 (rowAt rows n).length (hs n).2) := by rw [HBR.out.cell (p := ⟨b, o + n, none⟩) hb]; exact hc
              have HHD : Hid (hdrs (fun i => hs (nAt ix i)) (byIx rows ix) (k + 1) = hdrs (fun i => hs (nAt ix i)) (byIx rows ix) k ++ [.slice (hs n).1 (rowAt rows n).length (hs n).2]) := by
                show _ = _
                rw [hdrs_succ, byIx_at hkx, hn]
                rfl
              have hkI : (k : Int) < (rows.length : Int) := by omega
              have hnI : (n : Int) < (rows.length : Int) := by omega
              have hn0 : (0 : Int) ≤ (n : Int) := by omega
              have hk0 : (0 : Int) ≤ (k : Int) := by omega
              clear hc hsr hb hc3 hb3 hn
              generalize hrl : (rowAt rows n).length = rl at *
              have HRL := Lib.hid hrl
              clear hrl
              go_upto_region 12 with fail
              go_wp2_with (at_builtin; refine wpList_append_own _ rfl _ _ 38 rfl w4.heap.size 44 i0 (.slice none 0 0) 1 24 Tryz.underlying38 HI.out HZ0.out HZ1.out HZ2.out rfl (by decide) _ _ _ rfl (HOWN.out.alloc _) ⟨wr.heap.size, 0, none⟩ 1 1 [.slice (hs n).1 rl (hs n).2] rfl rfl ?c1 ?c2 ?c3 ?c4 ?c5 ?_)
              case c1 => exact cell_one_new _ _ _
              case c2 => intro u hu; simp at hu; subst hu; rfl
              case c3 => unfold maxLen; omega
              case c4 => omega
              case c5 => simp; exact Nat.le_trans HBR.out.size (Nat.le_succ _)
              intro v' w5 hown1 hgr1 _
              have HB5 : Hid (Below w4.heap.size w4 w5) := (HBR.out.alloc HBR.out.size _).grown hgr1 (by simp; have := HBR.out.size; omega) (fun k hk => (HOWN.out.lt k hk).1)
              have HO5 : Hid (w5.ownsRow w4.heap.size 44 1 v' (k + 1) (hdrs (fun i => hs (nAt ix i)) (byIx rows ix) (k + 1))) := by
                show World.ownsRow _ _ _ _ _ _ _
                rw [HHD.out]
                exact hown1
              clear hown1 hgr1
              go_wp2_with fail
              go_roundw
              case rel => exact ⟨k + 1, by go_num, by omega, HB5.out, HO5.out⟩
              case measure => simp [intOf]; omega
            · have hkn : k = rows.length := by omega
              subst hkn
              have hbyl : (byIx rows ix).length = rows.length := by rw [byIx_length]; exact HLI.out
              have hown2 := HOWN.out
              obtain ⟨A5, c5, hv5, hr5⟩ := rows_of_owns (rows := byIx rows ix) hown2 hbyl.symm (fun i hi => by
                rw [hbyl] at hi
                have hix : i < ix.length := by rw [HLI.out]; exact hi
                rw [byIx_at hix]
                obtain ⟨b, o, _, hb, _, hsr⟩ := HHS.out _ (perm_bound HP4.out hix)
                exact hsr.below HBR.out)
              rw [hbyl] at hv5
              subst hv5
              have HR5 := Lib.hid hr5
              have HBY := Lib.hid hbyl
              have HF2 : Hid (Fine columns (byIx rows ix) rs) := HF.out.again HP4.out
              have hWr : Hid (Below w.heap.size w wr) := hW4.out.trans (HBR.out.mono hW4.out.size)
              have K13b := Lib.hid (order_call_n HF2.out hbyl wr A5 R c5 cr hr5 (HR.out.below hWr.out) e2 e1 e4)
              have HGr : Hid (Glob wr) := HG.out.below hWr.out
              clear hown2 hr5 hbyl HOWN HHS K13 K14
              go_wp2_with (first
                | (go_at_call 13; (with_reducible refine K13b.out.mono ?_); rintro e w6 ⟨A6, c6, ix2, rfl, q1, q2, q3, q4, q5⟩; have HX6 := Lib.hid (And.intro q1 (And.intro q2 (And.intro q3 (And.intro q4 q5)))); have K14b := Lib.hid (perm_call (by rw [HBY.out] at q3; exact q3) e1 w6 A6 c6 q2); clear q1 q2 q3 q4 q5)
                | (go_at_call 14; (with_reducible refine K14b.out.mono ?_); rintro e w7 ⟨rfl, q⟩; have H7 := Lib.hid q; clear q))
              obtain ⟨x1, x2, x3, x4, x5⟩ := HX6.out
              have hW7 : Hid (Below wr.heap.size wr w7) := x5.trans (H7.out.mono x5.size)
              have HN7 := Lib.hid (x2.below H7.out)
              have HP7 := Lib.hid x3
              have HSO7 := Lib.hid x4
              have HLI7 := Lib.hid x1
              have HR7 := Lib.hid (HR5.out.below hW7.out)
              have HRU7 := Lib.hid ((HR.out.below hWr.out).below hW7.out)
              have HG7 : Hid (Glob w7) := HGr.out.below hW7.out
              clear x1 x2 x3 x4 x5
              go_loopw [11] (fun u wr => ∃ k : Nat, u = .int .i64 (k : Int) ∧ k ≤ rows.length ∧ Below w7.heap.size w7 wr) (fun u _ => rows.length - (intOf u).toNat)
              case atStart => exact ⟨0, rfl, by omega, Below.refl _ _⟩
              case round =>
                obtain ⟨j, rfl, hj, hbl⟩ := hrel
                have HB8 := Lib.hid hbl
                clear hbl
                by_cases hlt2 : j < rows.length
                · have hjx : j < ix2.length := by rw [HLI7.out]; exact hlt2
                  obtain ⟨ra1, ra2⟩ := order_again HF.out HP4.out HSO.out HP7.out HSO7.out hjx
                  obtain ⟨b6, o6, rfl, hb6, hc6⟩ := HN7.out.get hjx
                  obtain ⟨n, hn⟩ : ∃ n, n = nAt ix2 j := ⟨_, rfl⟩
                  have hnl : n < (byIx rows ix).length := by rw [hn]; exact perm_bound HP7.out hjx
                  have hjl : j < (byIx rows ix).length := by rw [HBY.out]; exact hlt2
                  obtain ⟨b5, o5, An, cn, hA5, hb5, hcn, hsn⟩ := HR7.out.get hnl
                  subst hA5
                  obtain ⟨b5', o5', Aj, cj, hA5', _, hcj, hsj⟩ := HR7.out.get hjl
                  obtain ⟨rfl, rfl⟩ : b5' = b5 ∧ o5' = o5 := by simp at hA5'; exact ⟨hA5'.1.symm, hA5'.2.symm⟩
                  rw [← hn] at hc6 ra1 ra2
                  have hln := (HF2.out.sizes n hnl).1
                  have hlj := (HF2.out.sizes j hjl).1
                  have K15a : Hid (∀ u, Below w7.heap.size w7 u → Calls Tryz.prog 15 #[.slice An (rowAt (byIx rows ix) n).length cn, .slice Aj (rowAt (byIx rows ix) j).length cj, .int .i64 columns, .slice R rs.length cr] u (BoolIs false u)) := fun u hu => by
                    have := spec_rowAhead said_low said_std u (HG7.out.below hu) An Aj R cn cj cr _ _ rs columns (hsn.below hu) (hsj.below hu) (HRU7.out.below hu) (by unfold maxLen; omega) (by unfold maxLen; omega) (by unfold maxLen; omega) (by omega) (HF2.out.rowsOk hnl) (HF2.out.rowsOk hjl) HF2.out.modes
                    rwa [ra1] at this
                  have K15b : Hid (∀ u, Below w7.heap.size w7 u → Calls Tryz.prog 15 #[.slice Aj (rowAt (byIx rows ix) j).length cj, .slice An (rowAt (byIx rows ix) n).length cn, .int .i64 columns, .slice R rs.length cr] u (BoolIs false u)) := fun u hu => by
                    have := spec_rowAhead said_low said_std u (HG7.out.below hu) Aj An R cj cn cr _ _ rs columns (hsj.below hu) (hsn.below hu) (HRU7.out.below hu) (by unfold maxLen; omega) (by unfold maxLen; omega) (by unfold maxLen; omega) (by omega) (HF2.out.rowsOk hjl) (HF2.out.rowsOk hnl) HF2.out.modes
                    rwa [ra2] at this
                  have HCC : Hid (∀ u, Below w7.heap.size w7 u → u.cell? ⟨b6, o6 + j, none⟩ = some (.int .i64 (n : Nat)) ∧ u.cell? ⟨b5', o5' + n, none⟩ = some (.slice An (rowAt (byIx rows ix) n).length cn) ∧ u.cell? ⟨b5', o5' + j, none⟩ = some (.slice Aj (rowAt (byIx rows ix) j).length cj)) := fun u hu =>
                    ⟨by rw [hu.cell (p := ⟨b6, o6 + j, none⟩) hb6]; exact hc6, by rw [hu.cell (p := ⟨b5', o5' + n, none⟩) hb5]; exact hcn, by rw [hu.cell (p := ⟨b5', o5' + j, none⟩) hb5]; exact hcj⟩
                  have hnlr : n < rows.length := by rw [← HBY.out]; exact hnl
                  have hkI : (j : Int) < (rows.length : Int) := by omega
                  have hnI : (n : Int) < (rows.length : Int) := by omega
                  have hn0 : (0 : Int) ≤ (n : Int) := by omega
                  have hj0 : (0 : Int) ≤ (j : Int) := by omega
                  obtain ⟨y1, y2, y3⟩ := HCC.out wr HB8.out
                  clear hc6 hcn hsn hcj hsj hb6 hb5 hn hA5' ra1 ra2 hln hlj hnl hjl hnlr
                  generalize (rowAt (byIx rows ix) n).length = ln at *
                  generalize (rowAt (byIx rows ix) j).length = lj at *
                  have HK : Hid (∀ u, Below w7.heap.size w7 u → (Below w7.heap.size w7 u ∧ u.cell? ⟨b6, o6 + j, none⟩ = some (.int .i64 (n : Nat)) ∧ u.cell? ⟨b5', o5' + n, none⟩ = some (.slice An ln cn) ∧ u.cell? ⟨b5', o5' + j, none⟩ = some (.slice Aj lj cj))) := fun u hu => ⟨hu, HCC.out u hu⟩
                  clear HCC y1 y2 y3 HF2 HG7 HRU7 HR7 HSO7 HN7 HP7 H7 HX6 HSO HP4 HN4 HA HR HG HF HBY HR5 HGr K13b K14b KO KF
                  have y0 := HB8.out
                  go_wp2_with fail
                  go_region_held3 (fun u => Below w7.heap.size w7 u ∧ u.cell? ⟨b6, o6 + j, none⟩ = some (.int .i64 (n : Nat)) ∧ u.cell? ⟨b5', o5' + n, none⟩ = some (.slice An ln cn) ∧ u.cell? ⟨b5', o5' + j, none⟩ = some (.slice Aj lj cj))
                    (exact HK.out _ (by first | exact HB8.out | exact HB8.out.drew | exact H9.out | exact H9.out.drew | exact H10.out | exact H10.out.drew))
                    (first
                      | (go_at_call 15; (with_reducible refine (K15a.out _ (by first | exact HB8.out.drew | exact HB8.out | exact H9.out | exact H9.out.drew)).mono ?_); rintro e w9 ⟨rfl, hb9⟩; have H9 : Hid (Below w7.heap.size w7 w9) := (HB8.out.drew).trans (hb9.mono HB8.out.size); clear hb9)
                      | (go_at_call 15; (with_reducible refine (K15b.out _ (by first | exact H9.out.drew | exact H9.out)).mono ?_); rintro e w10 ⟨rfl, hb10⟩; have H10 : Hid (Below w7.heap.size w7 w10) := H9.out.trans (hb10.mono H9.out.size); clear hb10))
                  go_wp2_with fail
                  go_roundw
                  case rel => exact ⟨j + 1, by go_num, by omega, by first | exact H10.out | exact H10.out.drew⟩
                  case measure => simp [intOf]; omega
                · go_wp2_with fail
                  go_ret
                  exact ⟨rfl, (hWr.out.trans (hW7.out.mono hWr.out.size)).trans (HB8.out.mono (by have := hWr.out.size; have := hW7.out.size; omega))⟩
    · have hno : (60 < rows.length) ∨ (¬ 60 < rows.length ∧ 8 < rs.length) ∨ (¬ 60 < rows.length ∧ ¬ 8 < rs.length ∧ columns < 0) ∨ (¬ 60 < rows.length ∧ ¬ 8 < rs.length ∧ ¬ columns < 0 ∧ 20 < columns) := by omega
      rcases hno with d2 | ⟨d2, d3⟩ | ⟨d2, d3, d4⟩ | ⟨d2, d3, d4, d5⟩
      all_goals
        clear h2
        go_enter Tryz.func4, Tryz.ntmps4
        go_wp2_with (go_at_call 11; (with_reducible refine KF.out.mono ?_); rintro e w1 ⟨b, rfl, hb, rfl⟩; have HB := Lib.hid hb; clear hb; cases b)
        all_goals
          go_wp2_with fail
          go_ret
          exact ⟨rfl, Below.refl _ _⟩

end Go.Proofs.YtgolhmiocjpohaaGreatDoor
