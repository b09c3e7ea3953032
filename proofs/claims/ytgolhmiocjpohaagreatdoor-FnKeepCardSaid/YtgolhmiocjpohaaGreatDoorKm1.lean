/- The package's Keep (7): the rows that every filter lets pass, and the breaks. No condition beyond sizes. -/
import Derived.Test.YtgolhmiocjpohaaGreatDoorKm2
set_option linter.unusedVariables false
set_option linter.unusedSimpArgs false
namespace Go.Proofs.YtgolhmiocjpohaaGreatDoor
open Go.RowKit Go.PlainAid

section
variable {B : Nat} {EC : World → Prop} {low : ByteArray → ByteArray} {eqf : ByteArray → ByteArray → Bool}

theorem KI.setLow {W3 wx : World} {o j b i : Nat} {ks : List Nat} {rw' : Nat → List CellD} {S : Nat → Bool} {k1 : List Value} {v1 v2 : Value} (h : KI o W3 ks rw' S j k1 v1 v2 wx) (hb : b < o) (x : Value) : KI o (wx.setCell ⟨b, i, none⟩ x) ks rw' S j k1 v1 v2 (wx.setCell ⟨b, i, none⟩ x) :=
 ⟨(set_other (by omega) _ _).trans h.b9, own_same h.own1 fun g hg hlt => set_other (by have := (h.own1.lt g hg).1; omega) _ _, own_same h.own2 fun g hg hlt => set_other (by have := (h.own2.lt g hg).1; omega) _ _,
  fun t ht => (h.rws t ht).set (by omega), Below.refl _ _, by have := h.size; simpa [World.setCell] using this⟩

theorem own_base {w : World} {b b' size n : Nat} {e : TypeId} {v : Value} {xs : List Value} (h : w.ownsRow b e size v n xs) (hb : b' ≤ b) : w.ownsRow b' e size v n xs := by
 obtain ⟨h1, h2 | ⟨g, cap, cur, h3, h4, r⟩⟩ := h
 ·exact ⟨h1, Or.inl h2⟩
 ·exact ⟨h1, Or.inr ⟨g, cap, cur, h3, Nat.le_trans hb h4, r⟩⟩
theorem below_to_drew {B : Nat} {w w' : World} (h : Below B w w') : Below B w w'.drew := ⟨h.os, h.tape, h.output, h.size, h.block⟩
theorem below_from_drew {B : Nat} {w w' : World} (h : Below B w.drew w') : Below B w w' := ⟨h.os, h.tape, h.output, h.size, h.block⟩

theorem getD_at {ks : List Nat} {i : Nat} (hi : i < ks.length) : ks.getD i 0 ∈ ks := by
 rw [List.getD_eq_getElem?_getD, List.getElem?_eq_getElem hi]
 exact List.getElem_mem _

/-- The filtering, of the table as it stands. -/
theorem IK.zz (L : LibC B EC low eqf) {w wy wz : World} {rows : List (List CellD)} {ca cb nn cF b0 : Nat} {A Bv Fa : Option Addr} {m : Value} {D : DataW Unit} {S : Nat → Bool} {xa xb : List Value} (fs : List FiltD) (h : IK w rows rows.length A ca Bv cb m nn D S xa xb wy)
  (hF : wy.ownsRow b0 100 6 (.slice Fa fs.length cF) fs.length (filtAll fs)) (ht : TbAt wz (w.heap.size + 1) (.int .i64 0) (.slice A rows.length ca) (.slice Bv rows.length cb) m (.slice Fa fs.length cF)) (ho : Only (w.heap.size + 1) wy wz)
  (hE : EC w) (hr : rows.length ≤ 60) (hnn : nn ≤ 10000) (hf : fs.length ≤ 8) (hok : ∀ i, i < rows.length → (rwAt rows i).length ≤ 2147483647 ∧ ∀ j, j < (rwAt rows i).length → CellOkD (cAt (rwAt rows i) j)) (hfo : ∀ j, j < fs.length → CellOkD (fAt fs j).value) :
  Calls Tryz.prog 23 #[.pointer (some ⟨w.heap.size + 1, 0, none⟩)] wz (ZzRes (w.heap.size + 1) (w.heap.size + 2) rows.length ca A (.slice Fa fs.length cF) (keptIx (fun row => allTo low eqf fs (colsTo rows rows.length) row fs.length) rows rows.length) (fun k => (rwAt rows k).map valI) S wz) := by
 have hb0 := L.base hE
 have hFb : ∀ b o, Fa = some ⟨b, o, none⟩ → b ≠ w.heap.size + 1 := fun b o e e2 => by
  subst e
  subst e2
  rcases hF.2 with ⟨h1, _⟩ | ⟨g', cap', cur', h1, _, h2, _⟩
  ·cases h1
  ·cases h1
   have h9 : wy.heap[_]? = _ := h.tab
   rw [h9] at h2
   cases h2
 have hfil : IFiltsAt wz Fa fs := (ifilts_of_own (w' := wy) hF).fr ho.fr hFb
 refine zz_keep _ _ _ _ _ _ _ _ _ _ ?_
 rcases Nat.eq_zero_or_pos rows.length with h0 | h0
 ·obtain ⟨rfl, rfl, rfl, rfl, rfl⟩ := h.zero h0
  obtain rfl := List.eq_nil_of_length_eq_zero h0
  exact filter_none wz _ _ cF _ Fa fs _ S ht hfil hFb hf
 ·have htag : ∀ (k : Nat) cs t, wy.heap[k]? = some (.cells cs t (0, 0)) → t ≠ 71 → k ≠ w.heap.size + 1 := fun k cs t hk ht e => by
   subst e
   have h9 : wy.heap[_]? = _ := h.tab
   rw [h9] at hk
   cases hk
   exact ht rfl
  refine filter_rows L wz _ _ rows.length ca cb cF nn (.int .i64 0) m A Bv Fa xa rows fs D S ht rfl h0 hr (own_same h.ownA fun g hg hlt => ?_) (fun k hk => (h.copies k hk).fr ho.fr fun j cs hj => htag j cs 20 hj (by decide)) (h.map.block fun b hb hlt => ho.block b hlt ?_) hnn h.marks hfil hFb hf hfo hok
   (L.stable hE ((h.below.mono hb0).trans (ho.fr.below (Nat.le_trans hb0 h.below.size) (fun k e => by omega)))) (by omega) (by omega) (Nat.le_trans h.size ho.size)
  ·obtain ⟨cur, hc⟩ := own_obj h.ownA hg
   exact ho.block g hlt (htag g cur 74 hc (by decide))
  ·intro e
   obtain ⟨_, es, clock, he⟩ := h.map.obj b hb
   have h9 : wy.heap[_]? = _ := h.tab
   rw [e, h9] at he
   cases he

set_option maxHeartbeats 3200000 in
set_option maxRecDepth 100000 in
theorem impl_keep (L : LibC B EC low eqf) (w : World) (A1 A2 A3 : Option Addr) (c1 c2 c3 : Nat) (rows : List (List CellD)) (bs : List Int) (fs : List FiltD) (h1 : GridAt w A1 rows) (h2 : NumsAt w A2 bs) (h3 : FiltsAt w A3 fs) (hE : EC w)
  (hr : rows.length ≤ 60) (hb : bs.length ≤ 60) (hf : fs.length ≤ 8) (hok : ∀ i, i < rows.length → (rwAt rows i).length ≤ 2147483647 ∧ ∀ j, j < (rwAt rows i).length → CellOkD (cAt (rwAt rows i) j)) (hfo : ∀ j, j < fs.length → CellOkD (fAt fs j).value) :
  Calls Tryz.prog 7 #[.slice A1 rows.length c1, .slice A2 bs.length c2, .slice A3 fs.length c3] w
   (KeptOut ((keptIx (fun row => allTo low eqf fs (colsTo rows rows.length) row fs.length) rows rows.length).map fun k => (rwAt rows k).map stripC) (brkTo (fun row => allTo low eqf fs (colsTo rows rows.length) row fs.length) rows bs rows.length) w) := by
 have H1 := Lib.hid h1
 have H2 := Lib.hid h2
 have H3 := Lib.hid h3
 have HOK := Lib.hid hok
 have HFO := Lib.hid hfo
 have HE := Lib.hid hE
 clear h1 h2 h3 hok hfo hE
 have hbz := build_zero
 go_enter Tryz.func7, Tryz.ntmps7
 go_wp2_with fail
 refine wp_builds (by rfl) (v := .agg (ktbl (.int .i64 0) (.slice none 0 0) (.slice none 0 0) (.map none) (.slice none 0 0))) (by simp only [List.map_toArray, List.map_nil]; exact hbz _) ?_
 clear hbz
 have HK0 := Lib.hid (IK.start w rows (X := #[.slice none 0 0, .slice none 0 0]) rfl)
 generalize ktbl (.int .i64 0) (.slice none 0 0) (.slice none 0 0) (.map none) (.slice none 0 0) = cells at *
 go_upto_region 2 with fail
 generalize (w.alloc (.cells #[.slice none 0 0, .slice none 0 0] 33)).alloc (.cells cells 71) = W0 at *
 go_wp2_with fail
 go_loopg [8, 10, 20] rows.length (fun g s8 s10 s20 wx => ∃ (i : Nat) (A : Option Addr) (ca : Nat) (Bv : Option Addr) (cb : Nat) (m : Value) (nn : Nat) (D : DataW Unit) (xa xb : List Value), s20 = .int .i64 i ∧ i + g = rows.length ∧ nn ≤ i * 60 ∧ IK w rows i A ca Bv cb m nn D (fun k => decide (k < i) && brAt bs k) xa xb wx)
 case atStart => exact ⟨0, _, _, _, _, _, 0, _, _, _, rfl, by omega, by omega, HK0.out.remark fun k => by simp⟩
 case round =>
  obtain ⟨i, A, ca, Bv, cb, m, nn, D, xa, xb, rfl, hig, hnn, hk⟩ := hrel
  have HK := Lib.hid hk
  clear HK0
  cases gk with
  | zero =>
   have hi : ¬ (i : Int) < (rows.length : Int) := by omega
   have hie : i = rows.length := by omega
   subst hie
   have hbase := L.base HE.out
   have K22 := Lib.hid (impl_filters (fun f w => impl_filter f w) wr A3 c3 fs (H3.out.below hk.below) (by omega))
   clear hk
   go_upto_region 14 with (first
    | (go_at_call 22; (with_reducible refine K22.out.mono ?_); rintro e wy ⟨vF, rfl, ho, hby⟩; obtain ⟨Fa, cF, rfl⟩ := own_form ho; have HY := Lib.hid (And.intro (HK.out.later hby) ho); have K21 := Lib.hid (filter_by wy (w.heap.size + 1) (.int .i64 0) (.slice A rows.length ca) (.slice Bv rows.length cb) m (.slice none 0 0) (.slice Fa fs.length cF) HY.out.1.tab Fa fs.length cF rfl); clear ho hby)
    | (go_at_call 21; (with_reducible refine K21.out.mono ?_); rintro e wz ⟨rfl, ht, ho⟩; have HZ := Lib.hid (And.intro ht ho); clear ht ho))
   have K23 := Lib.hid (HY.out.1.zz L fs HY.out.2 HZ.out.1 HZ.out.2 HE.out hr (by omega) hf HOK.out HFO.out)
   obtain ⟨p, hp⟩ : ∃ p : List CellD → Bool, p = fun row => allTo low eqf fs (colsTo rows rows.length) row fs.length := ⟨_, rfl⟩
   have HPK : Hid (KeptOut ((keptIx p rows rows.length).map fun k => (rwAt rows k).map stripC) (brkTo p rows bs rows.length) w = KeptOut ((keptIx (fun row => allTo low eqf fs (colsTo rows rows.length) row fs.length) rows rows.length).map fun k => (rwAt rows k).map stripC) (brkTo (fun row => allTo low eqf fs (colsTo rows rows.length) row fs.length) rows bs rows.length) w) := by show _ = _; rw [hp]
   rw [← hp] at K23
   have HKL := Lib.hid (keptIx_lt p rows rows.length)
   have HKN := Lib.hid (keptIx_len p rows rows.length)
   have HIB : Hid (ibTo (fun k => decide (k < rows.length) && brAt bs k) (keptIx p rows rows.length) (keptIx p rows rows.length).length = brkTo p rows bs rows.length) := by
    show _ = _
    rw [ibTo_congr (T := brAt bs) (fun k hk => by simp [keptIx_lt p rows rows.length k hk]) _ (Nat.le_refl _)]
    exact ib_brk p rows bs rows.length
   generalize hks : keptIx p rows rows.length = ks at *
   have hks60 : ks.length ≤ 60 := by have := HKN.out; omega
   clear K22 hp hks
   go_upto_region 15 with (go_at_call 23; (with_reducible refine K23.out.mono ?_); rintro e w4 ⟨Bs, cb', m', nn', D', rfl, hrows, hmap, hat, hfr⟩; have H4 := Lib.hid (And.intro hrows (And.intro hmap (And.intro hat hfr))); clear hrows hmap hat hfr)
   have HKI0 := Lib.hid (KI.start (W3 := w4) ks (fun k => (rwAt rows k).map stripC) (fun k => decide (k < rows.length) && brAt bs k) (X := #[.slice none 0 0, .slice none 0 0]) rfl)
   go_upto_region 16 with fail
   generalize w4.alloc (.cells #[.slice none 0 0, .slice none 0 0] 33) = W5 at *
   obtain ⟨i27, hi1, hz0, hz1, hz2⟩ := info_parts info27
   have HI27 := Lib.hid hi1
   have HZ0 := Lib.hid hz0
   have HZ1 := Lib.hid hz1
   have HZ2 := Lib.hid hz2
   clear hi1 hz0 hz1 hz2
   obtain ⟨i3, hi1, hz0, hz1, hz2⟩ := info_parts info3
   have HI3 := Lib.hid hi1
   have HX0 := Lib.hid hz0
   have HX1 := Lib.hid hz1
   have HX2 := Lib.hid hz2
   clear hi1 hz0 hz1 hz2
   have HRES : Hid (w4.heap[w.heap.size]? = some (.cells #[.slice none 0 0, .slice none 0 0] 33 (0, 0)) ∧ Below w.heap.size w w4 ∧ w.heap.size < w4.heap.size) := by
    have q1 := HY.out.1.res
    have q2 := HY.out.1.size
    have q3 := HZ.out.2.size
    have q4 := H4.out.2.2.2.size
    refine ⟨(H4.out.2.2.2.block _ (by omega) (by omega)).trans ((HZ.out.2.block _ (by omega) (by omega)).trans q1), ?_, by omega⟩
    exact (HY.out.1.below.trans (HZ.out.2.fr.below (by omega) fun k e => by omega)).trans (H4.out.2.2.2.below (by omega) fun k e => by omega)
   generalize hSS : (fun k => decide (k < rows.length) && brAt bs k) = S at *
   have HSE : Hid (∀ k, S k = (decide (k < rows.length) && brAt bs k)) := fun k => by rw [← hSS]
   clear HK HY HZ K23 K21 hSS
   go_wp2_with fail
   go_loopg [14, 15, 55] ks.length (fun g s14 s15 s55 wx => ∃ (j : Nat) (k1 : List Value) (v1 v2 : Value), s55 = .int .i64 j ∧ j + g = ks.length ∧ KI w4.heap.size w4 ks (fun k => (rwAt rows k).map stripC) S j k1 v1 v2 wx)
   case atStart => exact ⟨0, _, _, _, rfl, by omega, HKI0.out⟩
   case round =>
    obtain ⟨j, k1, v1, v2, rfl, hjg, hki⟩ := hrel
    obtain ⟨D1, d1, rfl⟩ := own_form hki.own1
    obtain ⟨D2, d2, rfl⟩ := own_form hki.own2
    obtain ⟨e0, e1, ef0, ef1⟩ := two_cells hki.b9
    have HKI := Lib.hid hki
    clear HKI0
    cases gk with
    | zero =>
     have hj : ¬ (j : Int) < (ks.length : Int) := by omega
     have hje : j = ks.length := by omega
     subst hje
     have hres := (hki.below.block _ HRES.out.2.2).trans HRES.out.1
     obtain ⟨g0, g1, z0, z1⟩ := two_cells hres
     have HR := Lib.hid hres
     clear hki hres
     go_wp2_with fail
     refine bodyPost_ret (results_cell_row rfl _ _ w.heap.size 33 _ (0, 0) _ rfl (set_row2 (set_row2 HR.out 0 _) 1 _) Tryz.underlying33 rfl (by kernel_rfl)) rfl ?_
     rw [← HPK.out]
     have hfin := (HKI.out.setLow (i := 0) HRES.out.2.2 (.slice D1 ks.length d1)).setLow (i := 1) HRES.out.2.2 (.slice D2 (ibTo S ks ks.length).length d2)
     refine ⟨D1, d1, D2, d2, ?_, hfin.grid, ?_, ?_⟩
     ·rw [List.length_map, ← HIB.out]
      first | rfl | simp
     ·rw [← HIB.out]
      exact nums_of_own hfin.own2
     ·exact ((HRES.out.2.1.trans (HKI.out.below.mono (by have := HRES.out.2.2; omega))).setCell (p := ⟨w.heap.size, 0, none⟩) (Nat.le_refl _) _).setCell (p := ⟨w.heap.size, 1, none⟩) (Nat.le_refl _) _
    | succ g =>
     have hj : (j : Int) < (ks.length : Int) := by omega
     have hjl : j < ks.length := by omega
     obtain ⟨gB, v, rfl, hcell, hcp⟩ := H4.out.1 j hjl
     obtain ⟨R, hv, hva⟩ := hcp.vals
     rw [List.length_map] at hv
     subst hv
     have x0 := (hki.below.cell (p := ⟨gB, j, none⟩) (World.block_lt_of_cell? w4 _ hcell)).trans hcell
     have hkl := HKL.out _ (getD_at hjl)
     have K24 := Lib.hid (fun u (hb : Below w4.heap.size w4 u) => impl_uncells u R (rwAt rows (ks.getD j 0)).length (rwAt rows (ks.getD j 0)) (hva.below hb) (HOK.out _ hkl).1)
     have HBD := Lib.hid (below_to_drew hki.below)
     have hks := hki.size
     have hib60 : (ibTo S ks j).length ≤ 60 := by have := ibTo_len S ks j; omega
     have hj60 : j ≤ 60 := by omega
     generalize hrow : rwAt rows (ks.getD j 0) = row at *
     have HROW := Lib.hid hrow
     clear hrow
     clear hcell hcp hva hkl hki
     go_upto_region 19 with fail
     go_region_law (first
      | (go_simp; go_at_call 24; (with_reducible refine (K24.out _ HBD.out).mono ?_); rintro e w9 ⟨vR, rfl, ho9, hb9⟩; obtain ⟨A9, c9, rfl⟩ := own_form ho9; have HW9 : Hid (Below wr.heap.size wr w9) := below_from_drew hb9; have HKW := Lib.hid (HKI.out.later HW9.out); have HRO : Hid (RowOut w9 w4.heap.size (.slice A9 row.length c9) ((rwAt rows (ks.getD j 0)).map stripC)) := ⟨A9, c9, by rw [List.length_map, HROW.out], by rw [List.length_map, HROW.out]; exact own_base ho9 hks⟩; obtain ⟨r0, r1, _, _⟩ := two_cells HKW.out.b9; have r0a : (w9.alloc (.cells #[.slice A9 row.length c9] 27)).cell? ⟨w4.heap.size, 0, none⟩ = some (.slice D1 j d1) := (World.cell?_alloc_past _ _ _ (by have := HKW.out.size; omega)).trans r0; clear ho9 hb9)
      | (refine step_append_own rfl _ _ 22 rfl (w4.heap.size + 1) 27 i27 (.slice none 0 0) 1 24 Tryz.underlying22 HI27.out HZ0.out HZ1.out HZ2.out rfl (by decide) _ _ _ rfl (HKW.out.own1.alloc _) ⟨_, 0, none⟩ 1 1 [.slice A9 row.length c9] rfl rfl (cell_one_new w9 _ _) (by intro u hu; simp at hu; subst hu; rfl) (by unfold maxLen; omega) (by omega) (by simp; have := HKW.out.size; omega) ?_; intro v' w2 ho2 hg2 hat2; obtain ⟨A5, c5, rfl⟩ := own_form ho2; have HG := Lib.hid (HKI.out.grow1 (HW9.out.alloc HW9.out.size _) (HRO.out.below ((Below.refl _ _).alloc (Nat.le_refl _) _)) ho2 hg2); obtain ⟨s0, s1, s2, s3⟩ := two_cells HG.out.1; clear ho2 hg2 hat2))
     all_goals (
      have HQ := Lib.hid (HG.out.2 _ rfl)
      generalize w2.setCell ⟨w4.heap.size, 0, none⟩ (.slice A5 (j + 1) c5) = W6 at *
      obtain ⟨x, hrun, hx⟩ : ∃ x, (Instr.lookup 66 m' (.int .i64 (j : Int)) false).run Tryz.prog W6 = .ok (.bool x) W6 ∧ x = S (ks.getD j 0) := by
       have hm6 : MapIs W6 (w.heap.size + 2) m' nn' D' := H4.out.2.1.block fun b _ hlt => HQ.out.2.2.2.2.1.block b hlt
       obtain ⟨x, hr, ha⟩ := hm6.look (wf_small (k := j) (by omega))
       refine ⟨x, hr, ?_⟩
       rw [H4.out.2.2.1 j hjl] at ha
       rw [HSE.out]
       simpa using ha.symm
      have HX := Lib.hid hx
      obtain ⟨t0, t1, tf0, tf1⟩ := two_cells HQ.out.1
      have hq6 := HQ.out.2.2.2.2.2
      clear hx HG s0 s1 s2 s3 e0 e1 ef0 ef1 x0 r0 r1 r0a HRO HKW HW9 K24
      cases x with
      | false =>
       go_wp2_with fail
       go_roundg g
       case measure => omega
       case rel => exact ⟨j + 1, _, _, _, by go_num, by omega, KI.same HQ.out.1 HQ.out.2.1 HQ.out.2.2.1 HQ.out.2.2.2.1 HQ.out.2.2.2.2.1 HQ.out.2.2.2.2.2 HX.out.symm⟩
      | true =>
       go_wp2_with (at_builtin; refine wpList_append_own _ rfl _ _ 23 rfl (w4.heap.size + 1) 3 i3 (.int .i64 0) 1 8 Tryz.underlying23 HI3.out HX0.out HX1.out HX2.out rfl (by decide) _ _ _ rfl (HQ.out.2.2.1.alloc _) ⟨W6.heap.size, 0, none⟩ 1 1 [.int .i64 ((j : Int) + 1)] rfl rfl (cell_one_new _ _ _) (by intro u hu; simp at hu; subst hu; rfl) (by unfold maxLen; omega) (by omega) (by simp; omega) ?_; intro v' w7 ho hg hxx; obtain ⟨A7, c7, rfl⟩ := own_form ho; have HG2 := Lib.hid (KI.grow2 (rw' := fun k => (rwAt rows k).map stripC) HQ.out.1 HQ.out.2.1 HQ.out.2.2.1 HQ.out.2.2.2.1 HQ.out.2.2.2.2.1 HQ.out.2.2.2.2.2 ((Below.refl _ _).alloc (Nat.le_refl _) _) HX.out.symm ho hg); obtain ⟨p0, p1, p2, p3⟩ := two_cells HG2.out.1; clear ho hg hxx)
       go_roundg g
       case measure => omega
       case rel => exact ⟨j + 1, _, _, _, by go_num, by omega, HG2.out.2⟩)
  | succ g =>
   have hi : (i : Int) < (rows.length : Int) := by omega
   rcases H1.out with h | ⟨bx, ox, rfl, hbx, hx3⟩
   ·exfalso; rw [h] at hi; simp at hi; omega
   obtain ⟨A', c', x0, hcells⟩ := hx3 i (by omega)
   have y0 := (hk.below.cell (p := ⟨bx, ox + i, none⟩) hbx).trans x0
   obtain ⟨hlen, hcok⟩ := HOK.out i (by omega)
   have K19 := Lib.hid (fun wx (hb : Below w.heap.size w wx) => impl_cells wx A' c' (rwAt rows i) (hcells.below hb) hlen)
   have h1c : ∀ v ∈ (rwAt rows i).map valI, v.oneCell' = true := fun v hv => by obtain ⟨c, _, rfl⟩ := List.mem_map.1 hv; exact valI_one c
   have H1C := Lib.hid h1c
   have hvl : ((rwAt rows i).map valI).length = (rwAt rows i).length := List.length_map ..
   have HVL := Lib.hid hvl
   have hi60 : i ≤ 60 := by omega
   clear hk x0 hcells hcok hx3 h1c hvl
   go_upto_region 6 with (first
    | (go_at_call 19; (with_reducible refine (K19.out _ HK.out.below).mono ?_); rintro e wy ⟨vR, rfl, ho, hby⟩; obtain ⟨R, cR, rfl⟩ := own_form ho; have HY := Lib.hid (HK.out.later hby); obtain ⟨hv, hR⟩ := vals_of_own ho; have k18 := append_row wy (w.heap.size + 1) (w.heap.size + 2) (.int .i64 0) m (.slice none 0 0) A Bv R i ca cb cR ((rwAt rows i).map valI) xa xb HY.out.tab HY.out.ownA HY.out.ownB HY.out.apart (by omega) HY.out.size hi60 (by rw [HVL.out]; exact hlen) hv (fun b o e => by obtain ⟨cur, hc⟩ := hR b o e; exact HY.out.src hc) H1C.out; rw [HVL.out] at k18; have K18 := Lib.hid k18; clear ho hby hv hR k18)
    | (go_at_call 18; (with_reducible refine K18.out.mono ?_); rintro e wz hz; obtain rfl := hz.1; obtain ⟨A4, ca4, B4, cb4, xa4, xb4, hk4⟩ := HY.out.row hz; have HZ := Lib.hid hk4; clear hz hk4))
   clear HK K19 H1C HVL y0
   go_wp2_with fail
   go_loopg [10, 32] bs.length (fun g s10 s32 wx => ∃ (j : Nat) (m : Value) (nn : Nat) (D : DataW Unit), s32 = .int .i64 j ∧ j + g = bs.length ∧ nn ≤ i * 60 + j ∧ IK w rows (i + 1) A4 ca4 B4 cb4 m nn D (mkAt bs i j) xa4 xb4 wx)
   case atStart => exact ⟨0, m, nn, D, rfl, by omega, by omega, HZ.out.remark (mkAt_zero bs i)⟩
   case round =>
    obtain ⟨j, m2, n2, D2, rfl, hjg, hn2, hk2⟩ := hrel
    have HJ := Lib.hid hk2
    clear HZ
    cases gk with
    | zero =>
     have hj : ¬ (j : Int) < (bs.length : Int) := by omega
     have hje : j = bs.length := by omega
     subst hje
     clear hk2
     go_wp2_with fail
     go_roundg g
     case measure => omega
     case rel => exact ⟨i + 1, _, _, _, _, m2, n2, D2, _, _, by go_num, by omega, by omega, HJ.out.remark (mkAt_end bs i)⟩
    | succ g2 =>
     have hj : (j : Int) < (bs.length : Int) := by omega
     have hjl : j < bs.length := by omega
     rcases H2.out with h | ⟨b2, o2, hA2, hb2, hn2'⟩
     ·exfalso; rw [h] at hj; simp at hj; omega
     have n0 := (hk2.below.cell (p := ⟨b2, o2 + j, none⟩) hb2).trans (hn2' j hjl)
     have HBY : Hid (bs.getD j 0 = (i : Int) + 1 → ∀ k, (mkAt bs i j k || k == i) = mkAt bs i (j + 1) k) := fun h => mkAt_yes hjl h
     have HBN : Hid (¬ bs.getD j 0 = (i : Int) + 1 → ∀ k, mkAt bs i j k = mkAt bs i (j + 1) k) := fun h => mkAt_no hjl h
     subst hA2
     generalize bs.getD j 0 = b at *
     have hi60' : i ≤ 60 := hi60
     clear hn2'
     by_cases hbe : b = (i : Int) + 1
     ·have HS := Lib.hid (HBY.out hbe)
      subst hbe
      have K20 := Lib.hid (append_sep wr (w.heap.size + 1) (w.heap.size + 2) (.int .i64 0) (.slice A4 (i + 1) ca4) m2 (.slice none 0 0) B4 i cb4 n2 D2 hk2.tab hk2.map hi60 (by omega) (by omega) hk2.size)
      clear HBY HBN hk2
      go_wp2_with (go_at_call 20; (with_reducible refine K20.out.mono ?_); rintro e wz2 hz; obtain rfl := hz.1; obtain ⟨m3, hk3⟩ := HJ.out.sep hz; have HU := Lib.hid hk3; clear hz hk3)
      go_roundg g2
      case measure => omega
      case rel => exact ⟨j + 1, m3, n2 + 1, _, by go_num, by omega, by omega, HU.out.remark HS.out⟩
     ·have hbe2 : (b == (i : Int) + 1) = false := beq_eq_false_iff_ne.2 hbe
      have HS := Lib.hid (HBN.out hbe)
      clear HBY HBN hk2
      go_wp2_with fail
      go_roundg g2
      case measure => omega
      case rel => exact ⟨j + 1, m2, n2, D2, by go_num, by omega, by omega, HJ.out.remark HS.out⟩

end
end Go.Proofs.YtgolhmiocjpohaaGreatDoor
