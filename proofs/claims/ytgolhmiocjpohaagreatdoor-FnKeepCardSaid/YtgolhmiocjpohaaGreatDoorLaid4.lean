/- The law FnKeep (3) answers true, where the variables lie as laid. No condition beyond. What the row's list of laid variables tells the walks of FnKeep (EnvK). No condition. -/
import Derived.Test.YtgolhmiocjpohaaGreatDoorLw2
import Derived.Test.YtgolhmiocjpohaaGreatDoorKm1
import Derived.MakeChecks
import Derived.Test.YtgolhmiocjpohaaGreatDoorLaid3
import Derived.Test.YtgolhmiocjpohaaGreatDoorFo5
set_option linter.unusedVariables false
set_option linter.unusedSimpArgs false
namespace Go.Proofs.YtgolhmiocjpohaaGreatDoor
open Go.RowKit Go.PlainAid

theorem keepC : KeepC := fun B w A1 A2 A3 c1 c2 c3 rows bs fs h1 h2 h3 hE hr hb hf hok hfo => impl_keep (libC B) w A1 A2 A3 c1 c2 c3 rows bs fs h1 h2 h3 hE hr hb hf hok hfo

theorem law_keep (w : World) (A1 A2 A3 : Option Addr) (c1 c2 c3 : Nat) (rows : List (List CellD)) (bs : List Int) (fs : List FiltD) (hG : GridAt w A1 rows) (hN : NumsAt w A2 bs) (hF : FiltsAt w A3 fs) (hE : EnvK w.heap.size w)
  (hnr : ∀ i, i < rows.length → ∀ j, j < (rwAt rows i).length → NumOkD (cAt (rwAt rows i) j)) (hnf : ∀ i, i < fs.length → NumOkD (fAt fs i).value) :
  Calls Tryz.prog 3 #[.slice A1 rows.length c1, .slice A2 bs.length c2, .slice A3 fs.length c3] w (Holds3 w) := law_over keepC w A1 A2 A3 c1 c2 c3 rows bs fs hG hN hF hE hnr hnf

end Go.Proofs.YtgolhmiocjpohaaGreatDoor

namespace Go.Proofs.YtgolhmiocjpohaaGreatDoor
open Go.RowKit Go.ChangeShapes Go.WideShapes Go.Deep

theorem laid_place {P : Program} {w : World} : ∀ {l : List (String × DataW Unit)} {ps : List MemPlace}, DataW.LaidVars P w l ps → ∀ n d g, (n, d) ∈ l → P.globalNamed n = some g → (∃ v, w.cell? ⟨g, 0, none⟩ = some v) → MemPlace.cell g 0 ∈ ps
 | [], _, _, n, d, g, hm, _, _ => by cases hm
 | (n', d') :: r, ps, h, n, d, g, hm, hg, hv => by
  obtain ⟨g', t, cs, fuel, p, q, h1, h2, h3, h4, h5, rfl⟩ := h
  rcases List.mem_cons.1 hm with e | e
  ·cases e
   obtain rfl := Option.some.inj (hg.symm.trans h1)
   obtain ⟨v, hv⟩ := hv
   rw [World.var?_cell hg h3 0] at hv
   have hs : 0 < cs.size := (Array.getElem?_eq_some_iff.1 hv).1
   refine List.mem_append_left _ (List.mem_append_left _ ?_)
   unfold MemPlace.row
   exact List.mem_map.2 ⟨0, List.mem_range.2 hs, by simp⟩
  ·exact List.mem_append_right _ (laid_place h5 n d g e hg hv)

set_option maxRecDepth 100000 in
theorem info_cells {W : World} {n : String} {g : Nat} {a b : Int} {c : Int} (hg : Tryz.prog.globalNamed n = some g) (ht : (Tryz.prog.globals[g]?).map (·.type) = some 245) (h : LaidOne W n (.agg [.lit (.int .u64 a), .lit (.int .u64 b), .lit (.int .i64 c)])) :
  W.cell? ⟨g, 0, none⟩ = some (.int .u64 a) ∧ W.cell? ⟨g, 1, none⟩ = some (.int .u64 b) ∧ W.cell? ⟨g, 2, none⟩ = some (.int .i64 c) := by
 obtain ⟨cs, fuel, p, hc, h⟩ := h.read hg ht
 have z245 : Tryz.prog.cellsOf 245 = 3 := by kernel_rfl
 have z154 : Tryz.prog.cellsOf 154 = 1 := by kernel_rfl
 obtain ⟨xs, k, rfl, hx, hl, hxl, hf⟩ := DataW.trod_struct Tryz.underlying245 h
 rw [z245] at hl
 simp only [Prod.mk.injEq, DataW.agg.injEq] at hx
 match cs, hl with
 | [v0, v1, v2], _ =>
  match xs, hx.1 with
  | [x0, x1, x2], hx1 =>
   simp only [List.map_cons, List.map_nil, List.cons.injEq, and_true] at hx1
   obtain ⟨e0, e1, e2⟩ := hx1
   have r0 := hf 0 _ rfl
   have r1 := hf 1 _ rfl
   have r2 := hf 2 _ rfl
   simp [z154, z3] at r0 r1 r2
   obtain ⟨x0, p0⟩ := x0
   obtain ⟨x1, p1⟩ := x1
   obtain ⟨x2, p2⟩ := x2
   dsimp only at e0 e1 e2
   subst e0 e1 e2
   rw [hc, hc, hc, read_int Tryz.underlying154 r0, read_int Tryz.underlying154 r1, read_int Tryz.underlying3 r2]
   exact ⟨rfl, rfl, rfl⟩

theorem err_cell {W : World} {n : String} {g : Nat} {nm : String} {d : DataW Unit} (hg : Tryz.prog.globalNamed n = some g) (ht : (Tryz.prog.globals[g]?).map (·.type) = some 127) (h : LaidOne W n (.iface nm d)) : ∃ t x, W.cell? ⟨g, 0, none⟩ = some (.iface t x) := by
 obtain ⟨cs, fuel, p, hc, h⟩ := h.read hg ht
 obtain ⟨f', u, v, q1, _, _⟩ := iface_of_trod Tryz.underlying127 h
 exact ⟨u, v, by rw [hc, q1]; rfl⟩

theorem bool_cell {W : World} {n : String} {g : Nat} {b : Bool} (hg : Tryz.prog.globalNamed n = some g) (ht : (Tryz.prog.globals[g]?).map (·.type) = some 4) (h : LaidOne W n (.lit (.bool b))) : W.cell? ⟨g, 0, none⟩ = some (.bool b) := by
 obtain ⟨cs, fuel, p, hc, h⟩ := h.read hg ht
 obtain ⟨x, q1, q2⟩ := DataW.trod_bool Tryz.underlying4 h
 simp only [Prod.mk.injEq, DataW.lit.injEq, Lit.bool.injEq] at q2
 rw [hc, q1, q2.1]
 rfl

theorem first_pinned : Go.Pinned.utf8FirstZ = (List.range 256).map Lib.firstT := by decide +kernel
theorem rows696 : Go.Pinned.pow10Rows.length = 696 := by kernel_rfl
theorem rows61 : Go.Pinned.cheatRows.length = 61 := by kernel_rfl
theorem rows336 : Go.Pinned.caseRows.length = 336 := by kernel_rfl
def accL : List (Nat × Nat) := (List.range 16).map fun i => (Lib.accLo i, Lib.accHi i)
def tenL : List Nat := (List.range 23).map f10
theorem tens_at : ∀ k, k < 23 → tenL.getD k 0 = f10 k := by
 intro k hk
 unfold tenL
 simp [hk]
theorem acc_at : ∀ k, k < 16 → accL.getD k (0, 0) = (Lib.accLo k, Lib.accHi k) := by
 intro k hk
 unfold accL
 simp [hk]
theorem pows_at : ∀ k, k < 9 → ([1, 3, 6, 9, 13, 16, 19, 23, 26] : List Nat).getD k 0 = pw k := by
 intro k hk
 match k, hk with
 | 0, _ => rfl
 | 1, _ => rfl
 | 2, _ => rfl
 | 3, _ => rfl
 | 4, _ => rfl
 | 5, _ => rfl
 | 6, _ => rfl
 | 7, _ => rfl
 | 8, _ => rfl

theorem data_ascii : (Rows.laid_unicode_asciiFold : DataW Unit) = .agg (asciiL.map fun (z : Nat) => .lit (.int .u16 z)) := by kernel_rfl
theorem data_orbit : (Rows.laid_unicode_caseOrbit : DataW Unit) = .slice (orbL.map fun (z : Nat × Nat) => .agg [.lit (.int .u16 (z.1 : Nat)), .lit (.int .u16 (z.2 : Nat))]) [] := by kernel_rfl
theorem data_accept : (Rows.laid_unicode_utf8_acceptRanges : DataW Unit) = .agg (accL.map fun (z : Nat × Nat) => .agg [.lit (.int .u8 (z.1 : Nat)), .lit (.int .u8 (z.2 : Nat))]) := by kernel_rfl
theorem data_pows : (Rows.laid_internal_strconv_powtab : DataW Unit) = .slice (([1, 3, 6, 9, 13, 16, 19, 23, 26] : List Nat).map fun (z : Nat) => .lit (.int .i64 (z : Nat))) [] := by kernel_rfl
theorem data_tens : (Rows.laid_internal_strconv_float64pow10 : DataW Unit) = .slice (tenL.map fun (z : Nat) => .lit (.float .f64 z)) [] := by kernel_rfl
theorem len_ascii : asciiL.length = 128 := by kernel_rfl
theorem len_orbit : orbL.length = 94 := by kernel_rfl

set_option maxRecDepth 100000 in
/-- The variables that the walks of FnKeep read of. -/
theorem envk_of_laid {W : World} (h : laidMetH Tryz.prog Rows.fnKeepRow.laid W) : EnvK W.heap.size W := by
 rw [MakeChecks.laidMetH_plain _ _ _ (by kernel_rfl)] at h
 obtain ⟨ps, hl, _, hpl⟩ := h
 unfold Rows.fnKeepRow at hl
 have one : ∀ n d, (n, d) ∈ _ → LaidOne W n d := fun n d hm => ⟨_, hm, ps, hl⟩
 have b19 := one "math/bits.deBruijn64tab" _ (.tail _ (.head _))
 have a8 := info_cells g8 t8 (one "internal/strconv.float32info" _ (.tail _ (.tail _ (.head _))))
 have a10 := info_cells g10 t10 (one "internal/strconv.float64info" _ (.tail _ (.tail _ (.tail _ (.head _)))))
 have a9 := bool_cell g9 t9 (one "internal/strconv.optimize" _ (.tail _ (.tail _ (.tail _ (.tail _ (.head _))))))
 have a13 := tab_powtab (one "internal/strconv.powtab" _ (.tail _ (.tail _ (.tail _ (.tail _ (.tail _ (.head _))))))) data_pows rfl
 have a14 := tab_tens (one "internal/strconv.float64pow10" _ (.tail _ (.tail _ (.tail _ (.tail _ (.tail _ (.tail _ (.head _)))))))) data_tens (by simp [tenL])
 have a4 := tab_accept (one "unicode/utf8.acceptRanges" _ (.tail _ (.tail _ (.tail _ (.tail _ (.tail _ (.tail _ (.tail _ (.tail _ (.tail _ (.head _))))))))))) data_accept (by simp [accL])
 have a7 := err_cell g7 t7 (one "strconv.ErrRange" _ (.tail _ (.tail _ (.tail _ (.tail _ (.tail _ (.tail _ (.tail _ (.tail _ (.tail _ (.tail _ (.head _))))))))))))
 have a6 := err_cell g6 t6 (one "strconv.ErrSyntax" _ (.tail _ (.tail _ (.tail _ (.tail _ (.tail _ (.tail _ (.tail _ (.tail _ (.tail _ (.tail _ (.tail _ (.head _)))))))))))))
 have a0 := tab_ascii (one "unicode.asciiFold" _ (.tail _ (.tail _ (.tail _ (.tail _ (.tail _ (.tail _ (.tail _ (.tail _ (.tail _ (.tail _ (.tail _ (.tail _ (.head _)))))))))))))) data_ascii len_ascii
 have a1 := tab_orbit (one "unicode.caseOrbit" _ (.tail _ (.tail _ (.tail _ (.tail _ (.tail _ (.tail _ (.tail _ (.tail _ (.tail _ (.tail _ (.tail _ (.tail _ (.tail _ (.head _))))))))))))))) data_orbit len_orbit
 have a16 := tab_cheat (one "internal/strconv.leftcheats" _ (.tail _ (.tail _ (.tail _ (.tail _ (.tail _ (.tail _ (.tail _ (.tail _ (.tail _ (.tail _ (.tail _ (.tail _ (.tail _ (.tail _ (.head _)))))))))))))))) rows61
 have a15 := tab_pow (one "internal/strconv.pow10Tab" _ (.tail _ (.tail _ (.tail _ (.tail _ (.tail _ (.tail _ (.tail _ (.tail _ (.tail _ (.tail _ (.tail _ (.tail _ (.tail _ (.tail _ (.tail _ (.head _))))))))))))))))) rows696
 have a2 := tab_cases (one "unicode.CaseRanges" _ (.tail _ (.tail _ (.tail _ (.tail _ (.tail _ (.tail _ (.tail _ (.tail _ (.tail _ (.tail _ (.tail _ (.tail _ (.tail _ (.tail _ (.tail _ (.tail _ (.head _)))))))))))))))))) rows336
 have a3 := tab_first (one "unicode/utf8.first" _ (.tail _ (.tail _ (.tail _ (.tail _ (.tail _ (.tail _ (.tail _ (.tail _ (.tail _ (.tail _ (.tail _ (.tail _ (.tail _ (.tail _ (.tail _ (.tail _ (.tail _ (.head _)))))))))))))))))))
 have hsz : 20 ≤ W.heap.size := by
  obtain ⟨l, hm, ps, hl⟩ := b19
  obtain ⟨g, t, cs, fuel, p, e1, e2, e3, e4⟩ := laid_has hl _ _ hm
  obtain rfl := Option.some.inj (g19.symm.trans e1)
  have := var_lt g19 e3
  omega
 have f8 := hpl 8 0 (laid_place hl _ _ 8 (.tail _ (.tail _ (.head _))) g8 ⟨_, a8.1⟩)
 have f10 := hpl 10 0 (laid_place hl _ _ 10 (.tail _ (.tail _ (.tail _ (.head _)))) g10 ⟨_, a10.1⟩)
 obtain ⟨⟨c8, t8', h8⟩, _⟩ := f8
 obtain ⟨⟨c10, t10', h10⟩, _⟩ := f10
 have hinfo : InfoAt W := ⟨a10.1, a10.2.1, a10.2.2⟩
 obtain ⟨B13, o13, cap13, v13, l13, s13, r13⟩ := a13
 obtain ⟨B14, o14, cap14, v14, l14, s14, r14⟩ := a14
 obtain ⟨B16, o16, cap16, v16, l16, s16, r16⟩ := a16
 obtain ⟨B1, o1, cap1, v1, l1, s1, r1⟩ := a1
 obtain ⟨B2, o2, cap2, v2, l2, s2, r2⟩ := a2
 refine ⟨⟨⟨a10.1, a9, a6, hsz⟩, a15, ⟨B14, o14, cap14, s14, v14, fun k hk => by rw [← tens_at k hk]; exact r14 k hk⟩,
  ⟨⟨B16, o16, cap16, s16, by omega, l16, v16, r16⟩, ⟨B13, o13, cap13, s13, by omega, l13, v13, fun i hi => by rw [← pows_at i hi]; exact r13 i hi⟩, hinfo, Nat.le_refl _, hsz⟩, ⟨c10, c8, t10', t8', h10, h8⟩, a7⟩, ?_⟩
 refine ⟨hsz, Nat.le_refl _, fun i hi => ?_, ⟨B1, o1, cap1, s1, v1, fun i hi => ?_⟩, ⟨B2, o2, cap2, s2, ?_, fun i hi => ?_⟩, fun c hc => ?_, fun i hi => ?_⟩
 ·rw [a0 i hi]
  unfold asciiA
  simp
 ·have hi' : i < 94 := by
   have : orbA.size = 94 := by unfold orbA; simpa using len_orbit
   omega
  have := r1 i hi'
  unfold orbA
  simpa using this
 ·rw [v2, Lib.caseA_size]
 ·have hi2 : i < 336 := by rw [← Lib.caseA_size]; exact hi
  have hi3 : i < Go.Pinned.caseRows.length := by rw [rows336]; exact hi2
  have := r2 i hi3
  have e : Lib.caseA.getD i (0, 0, 0, 0, 0) = Go.Pinned.caseRows[i] := by
   unfold Lib.caseA
   have h2 : Go.Pinned.caseRows[i]? = Lib.caseT[i]? := by rw [caseT_pinned]
   rw [List.getElem?_eq_getElem hi3] at h2
   simp only [Array.getD_eq_getD_getElem?, List.getElem?_toArray]
   rw [← h2]
   rfl
  rw [e]
  exact this
 ·rw [a3 c hc, first_pinned]
  simp [hc]
 ·have := a4 i hi
  rw [acc_at i hi] at this
  exact this

end Go.Proofs.YtgolhmiocjpohaaGreatDoor
