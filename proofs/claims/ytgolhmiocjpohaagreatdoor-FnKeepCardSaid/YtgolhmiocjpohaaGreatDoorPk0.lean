/- Whether a row of values matches a filter (67), all filters (52). No condition beyond sizes. The filters whose column is there (51). No condition beyond sizes. The table in memory; the number of its columns (50). No condition beyond sizes. The table's filters are set (21). No condition. The package's way of keeping rows and the reference's are one: plain. No condition. -/
import Derived.Laws.EntriesVeiled
import Derived.Test.YtgolhmiocjpohaaGreatDoorKd3
import Derived.Test.YtgolhmiocjpohaaGreatDoorKs1
set_option linter.unusedVariables false
set_option linter.unusedSimpArgs false
namespace Go.Proofs.YtgolhmiocjpohaaGreatDoor
open Go.RowKit Go.PlainAid

/-- A filter lies at a place, as the package has it. -/
structure IFiltIs (w : World) (b o : Nat) (f : FiltD) : Prop where
 c0 : w.cell? ⟨b, o, none⟩ = some (.string ⟨#[]⟩)
 c1 : w.cell? ⟨b, o + 1, none⟩ = some (.int .i64 f.number)
 c2 : w.cell? ⟨b, o + 2, none⟩ = some (.int .i64 f.op)
 c3 : w.cell? ⟨b, o + 3, none⟩ = some (valI f.value)
 c4 : w.cell? ⟨b, o + 4, none⟩ = some (.bool f.fold)
 c5 : w.cell? ⟨b, o + 5, none⟩ = some .nilFunc
def IFiltsAt (w : World) (A : Option Addr) (fs : List FiltD) : Prop := fs = [] ∨ ∃ b o, A = some ⟨b, o, none⟩ ∧ b < w.heap.size ∧ ∀ j, j < fs.length → IFiltIs w b (o + j * 6) (fAt fs j)
theorem IFiltIs.below {w w' : World} {b o B : Nat} {f : FiltD} (h : IFiltIs w b o f) (hb : Below B w w') (hl : b < B) : IFiltIs w' b o f :=
 ⟨by rw [hb.cell (p := ⟨b, o, none⟩) hl]; exact h.c0, by rw [hb.cell (p := ⟨b, o + 1, none⟩) hl]; exact h.c1, by rw [hb.cell (p := ⟨b, o + 2, none⟩) hl]; exact h.c2,
  by rw [hb.cell (p := ⟨b, o + 3, none⟩) hl]; exact h.c3, by rw [hb.cell (p := ⟨b, o + 4, none⟩) hl]; exact h.c4, by rw [hb.cell (p := ⟨b, o + 5, none⟩) hl]; exact h.c5⟩
theorem nil_func (w : World) : (binOp BinOp.neq 87 Value.nilFunc Value.nilFunc).run Tryz.prog w = .ok (.bool false) w := by kernel_rfl

section
variable {B : Nat} {EC : World → Prop} {low : ByteArray → ByteArray} {eqf : ByteArray → ByteArray → Bool}

/-- Whether a filter finds what it looks for in a row. -/
noncomputable def cellB (low : ByteArray → ByteArray) (eqf : ByteArray → ByteArray → Bool) (row : List CellD) (f : FiltD) : Bool :=
 if 1 ≤ f.number ∧ f.number ≤ (row.length : Int) then matchB low eqf f.op f.fold (saidOf (cAt row (f.number - 1).toNat)) (saidOf f.value) else false

set_option maxHeartbeats 1600000 in
set_option maxRecDepth 100000 in
theorem match_raw (L : LibC B EC low eqf) (tv : Value) (w : World) (A : Option Addr) (cap : Nat) (row : List CellD) (f : FiltD) (h : ValsAt w A (row.map valI)) (hE : EC w) (hl : row.length ≤ 2147483647) (hlo : 1 ≤ f.number) (hhi : f.number ≤ 2147483647)
  (hok : ∀ j, j < row.length → CellOkD (cAt row j)) (hfo : CellOkD f.value) : Calls Tryz.prog 67 #[tv, .slice A row.length cap, filtI f] w (BoolOut (cellB low eqf row f) w) := by
 have H := Lib.hid h
 have HOK := Lib.hid hok
 have K66 := Lib.hid (fun c w h => zz_text c w h)
 have K88 := Lib.hid (fun a w1 ha (hb : Below w.heap.size w w1) => pkg_match L tv a f w1 ha hfo (L.after hE hb))
 clear h hok hE
 unfold filtI at K88 ⊢
 unfold cellB
 obtain ⟨vt, vx, hv⟩ := valI_form f.value
 rw [hv] at K88 ⊢
 obtain ⟨m, op, fv, fd⟩ := f
 dsimp only at K88 hlo hhi ⊢
 obtain ⟨N, rfl⟩ : ∃ N : Nat, m = (N : Int) + 1 := ⟨(m - 1).toNat, by omega⟩
 have eN : (N : Int) + 1 - 1 = (N : Int) := by omega
 rw [eN, Int.toNat_natCast]
 ·by_cases h2 : (N : Int) + 1 ≤ (row.length : Int)
  ·rw [if_pos ⟨hlo, h2⟩]
   have hN : N < row.length := by omega
   have hNz : (N : Int) < (row.length : Int) := by omega
   have hNn : ¬ (row.length : Int) ≤ (N : Int) := by omega
   have hNn2 : ¬ row.length ≤ N := by omega
   rcases H.out with h | ⟨b, o, rfl, h2b, h3⟩
   ·exfalso
    have h0 := congrArg List.length h
    rw [List.length_map] at h0
    have h9 : row.length = 0 := h0
    omega
   have c0 := h3 N (by rw [List.length_map]; exact hN)
   rw [map_at hN] at c0
   have hc := HOK.out N hN
   have KT := Lib.hid (fun w => K66.out (cAt row N) w hc)
   have hsz := hc.said
   generalize saidOf (cAt row N) = S at *
   obtain ⟨ut, ux, hu⟩ := valI_form (cAt row N)
   rw [hu] at c0 KT
   obtain ⟨M, hM⟩ : ∃ M, matchB low eqf op fd S (saidOf fv) = M := ⟨_, rfl⟩
   have KM := Lib.hid (fun w1 (hb : Below w.heap.size w w1) => K88.out S w1 hsz hb)
   rw [hM] at KM ⊢
   have a0 := (World.cell?_alloc_past (.cells #[.string ⟨#[]⟩, .int .i64 ((N : Int) + 1), .int .i64 op, .iface vt vx, .bool fd, .nilFunc] 100) b (o + N) h2b).trans c0
   clear h3 hM hu hc hv K88 K66 h2 hlo hhi
   have kf := nil_func
   go_enter Tryz.func67, Tryz.ntmps67
   go_wp2_with (first
    | (go_at_call 66; (with_reducible refine (KT.out _).mono ?_); rintro e w1 ⟨rfl, hb⟩; have HB := Lib.hid (And.intro (Below.newThen (Below.refl _ _) hb) (((hb.block w.heap.size (by simp)).trans (heap_alloc_new w _)))); obtain ⟨e0, e1, e2, e3, e4, e5, -, -, -, -, -, -⟩ := six_cells HB.out.2; clear hb)
    | (go_at_call 88; (with_reducible refine (KM.out _ HB.out.1).mono ?_); rintro e w2 ⟨rfl, hb⟩; have HB2 := Lib.hid (HB.out.1.trans (hb.mono HB.out.1.size)); clear hb))
   go_ret
   exact ⟨rfl, HB2.out⟩
  ·rw [if_neg (fun h => h2 h.2)]
   have k2 : (row.length : Int) ≤ (N : Int) := by omega
   have k3 : row.length ≤ N := by omega
   have k4 : (N : Int) ≤ 2147483646 := by omega
   clear hlo hhi hv K88 K66
   go_enter Tryz.func67, Tryz.ntmps67
   go_wp2_with fail
   go_ret
   exact ⟨rfl, (Below.refl _ _).alloc (Nat.le_refl _) _⟩

noncomputable def cellsTo (low : ByteArray → ByteArray) (eqf : ByteArray → ByteArray → Bool) (fs : List FiltD) (row : List CellD) : Nat → Bool
 | 0 => true
 | j + 1 => cellsTo low eqf fs row j && cellB low eqf row (fAt fs j)
theorem cellsTo_false (fs : List FiltD) (row : List CellD) (j : Nat) (h : cellsTo low eqf fs row j = false) : ∀ k, cellsTo low eqf fs row (j + k) = false
 | 0 => h
 | k + 1 => by
  show (cellsTo low eqf fs row (j + k) && _) = false
  rw [cellsTo_false fs row j h k]
  rfl

set_option maxHeartbeats 1600000 in
set_option maxRecDepth 100000 in
theorem match_all (L : LibC B EC low eqf) (tv : Value) (w : World) (A A2 : Option Addr) (cap cap2 : Nat) (row : List CellD) (fs : List FiltD) (h : ValsAt w A (row.map valI)) (hf : IFiltsAt w A2 fs) (hE : EC w) (hl : row.length ≤ 2147483647) (hfl : fs.length ≤ 8)
  (hn : ∀ j, j < fs.length → 1 ≤ (fAt fs j).number ∧ (fAt fs j).number ≤ 2147483647) (hok : ∀ j, j < row.length → CellOkD (cAt row j)) (hfo : ∀ j, j < fs.length → CellOkD (fAt fs j).value) :
  Calls Tryz.prog 52 #[tv, .slice A row.length cap, .slice A2 fs.length cap2] w (BoolOut (cellsTo low eqf fs row fs.length) w) := by
 have K := Lib.hid (fun j (hj : j < fs.length) w1 (hb : Below w.heap.size w w1) => match_raw L tv w1 A cap row (fAt fs j) (h.below hb) (L.after hE hb) hl (hn j hj).1 (hn j hj).2 hok (hfo j hj))
 unfold filtI at K
 have HF := Lib.hid hf
 clear h hf hE hok hfo hn
 go_enter Tryz.func52, Tryz.ntmps52
 go_wp2_with fail
 go_loopg [11] fs.length (fun g s11 wx => ∃ j : Nat, s11 = .int .i64 j ∧ j + g = fs.length ∧ cellsTo low eqf fs row j = true ∧ Below w.heap.size w wx)
 case atStart => exact ⟨0, rfl, by omega, rfl, Below.refl _ _⟩
 case round =>
  obtain ⟨j, rfl, hjg, hall, hb⟩ := hrel
  have HB := Lib.hid (And.intro hb hall)
  cases gk with
  | zero =>
   have hj : ¬ (j : Int) < (fs.length : Int) := by omega
   clear hb hall
   go_wp2_with fail
   go_ret
   exact ⟨by rw [show cellsTo low eqf fs row fs.length = true by rw [← show j = fs.length by omega]; exact HB.out.2]; rfl, HB.out.1⟩
  | succ g =>
   have hj : (j : Int) < (fs.length : Int) := by omega
   rcases HF.out with h | ⟨b, o, rfl, h2, h3⟩
   ·exfalso; rw [h] at hj; simp at hj; omega
   ·obtain ⟨c0, c1, c2, c3, c4, c5⟩ := (h3 j (by omega)).below hb h2
    have HS : Hid (cellsTo low eqf fs row (j + 1) = cellB low eqf row (fAt fs j)) := by show (_ && _) = _; rw [hall, Bool.true_and]
    have KJ := Lib.hid (fun w1 (hb : Below w.heap.size w w1) => K.out j (by omega) w1 hb)
    obtain ⟨r, hr⟩ : ∃ r, cellB low eqf row (fAt fs j) = r := ⟨_, rfl⟩
    rw [hr] at HS KJ
    generalize fAt fs j = f at *
    obtain ⟨vt, vx, hv⟩ := valI_form f.value
    rw [hv] at c3 KJ
    obtain ⟨m, op, fv, fd⟩ := f
    dsimp only at c1 c2 c3 c4 KJ
    clear hb hall h3 hv hr K
    cases r with
    | false =>
     go_wp2_with (go_at_call 67; (with_reducible refine (KJ.out _ (HB.out.1.alloc HB.out.1.size _)).mono ?_); rintro e w1 ⟨rfl, hb⟩; have HB2 := Lib.hid (Below.newThen HB.out.1 hb); clear hb)
     go_ret
     refine ⟨?_, HB2.out⟩
     have := cellsTo_false (low := low) (eqf := eqf) fs row (j + 1) HS.out (fs.length - (j + 1))
     rw [show j + 1 + (fs.length - (j + 1)) = fs.length by omega] at this
     rw [this]
     rfl
    | true =>
     go_wp2_with (go_at_call 67; (with_reducible refine (KJ.out _ (HB.out.1.alloc HB.out.1.size _)).mono ?_); rintro e w1 ⟨rfl, hb⟩; have HB2 := Lib.hid (Below.newThen HB.out.1 hb); clear hb)
     go_roundg g
     case measure => omega
     case rel => exact ⟨j + 1, by go_num, by omega, HS.out, HB2.out⟩

end
end Go.Proofs.YtgolhmiocjpohaaGreatDoor

namespace Go.Proofs.YtgolhmiocjpohaaGreatDoor
open Go.RowKit Go.PlainAid

def parsedTo (fs : List FiltD) (cols : Nat) : Nat → List FiltD
 | 0 => []
 | j + 1 => if 1 ≤ (fAt fs j).number ∧ (fAt fs j).number ≤ (cols : Int) then parsedTo fs cols j ++ [fAt fs j] else parsedTo fs cols j
theorem parsed_len (fs : List FiltD) (cols : Nat) : ∀ j, (parsedTo fs cols j).length ≤ j
 | 0 => by simp [parsedTo]
 | j + 1 => by
  have := parsed_len fs cols j
  unfold parsedTo
  split
  ·simp; omega
  ·omega
theorem filtAll_snoc (l : List FiltD) (f : FiltD) : filtAll (l ++ [f]) = filtAll l ++ filtCells f := by
 unfold filtAll
 rw [List.flatMap_append]
 simp

theorem own_drewN {w : World} {base size n : Nat} {e : TypeId} {v : Value} {xs : List Value} (h : w.ownsRow base e size v n xs) (k : Nat) : (w.drewN k).ownsRow base e size v n xs := h

set_option maxHeartbeats 1600000 in
set_option maxRecDepth 100000 in
theorem parse_filters (w : World) (tb cols : Nat) (A2 : Option Addr) (cap2 : Nat) (fs : List FiltD) (ht : tb < w.heap.size) (h14 : w.cell? ⟨tb, 14, none⟩ = some (.int .i64 (cols : Nat))) (hcl : cols ≤ 2147483647) (hf : IFiltsAt w A2 fs) (hfl : fs.length ≤ 8) :
  Calls Tryz.prog 51 #[.pointer (some ⟨tb, 0, none⟩), .slice A2 fs.length cap2] w (OwnOut 100 6 (parsedTo fs cols fs.length).length (filtAll (parsedTo fs cols fs.length)) w) := by
 obtain ⟨i0, hi, hz0, hz1, hz2⟩ := info_parts info100
 have HI := Lib.hid hi
 have HZ0 := Lib.hid hz0
 have HZ1 := Lib.hid hz1
 have HZ2 := Lib.hid hz2
 clear hi hz0 hz1 hz2
 have HF := Lib.hid hf
 have HT := Lib.hid (And.intro ht h14)
 clear hf ht h14
 go_enter Tryz.func51, Tryz.ntmps51
 go_wp2_with fail
 go_loopg [5, 8, 13] fs.length (fun g s5 s8 s13 wx => ∃ j : Nat, s13 = .int .i64 j ∧ j + g = fs.length ∧ wx.ownsRow w.heap.size 100 6 s5 (parsedTo fs cols j).length (filtAll (parsedTo fs cols j)) ∧ Below w.heap.size w wx)
 case atStart => exact ⟨0, rfl, by omega, World.ownsRow_nil _ _ _ _, Below.refl _ _⟩
 case round =>
  obtain ⟨j, rfl, hjg, hown, hb⟩ := hrel
  obtain ⟨A5, c5, rfl⟩ := own_form hown
  have HB := Lib.hid (And.intro hb hown)
  cases gk with
  | zero =>
   have hj : ¬ (j : Int) < (fs.length : Int) := by omega
   clear hb hown
   go_wp2_with fail
   go_ret
   obtain ⟨q1, q2⟩ := HB.out
   rw [show j = fs.length by omega] at q2 ⊢
   exact ⟨_, rfl, q2, q1⟩
  | succ g =>
   have hj : (j : Int) < (fs.length : Int) := by omega
   rcases HF.out with h | ⟨b, o, rfl, h2, h3⟩
   ·exfalso; rw [h] at hj; simp at hj; omega
   ·obtain ⟨c0, c1, c2, c3, c4, c5'⟩ := (h3 j (by omega)).below hb h2
    have t14 := (hb.cell (p := ⟨tb, 14, none⟩) HT.out.1).trans HT.out.2
    have hts := Nat.lt_of_lt_of_le HT.out.1 hb.size
    have HS : Hid (parsedTo fs cols (j + 1) = if 1 ≤ (fAt fs j).number ∧ (fAt fs j).number ≤ (cols : Int) then parsedTo fs cols j ++ [fAt fs j] else parsedTo fs cols j) := rfl
    have hpl := parsed_len fs cols j
    have HFC : Hid (filtCells (fAt fs j) = filtCells (fAt fs j)) := rfl
    unfold filtCells at HFC
    have HSN := Lib.hid (filtAll_snoc (parsedTo fs cols j) (fAt fs j))
    unfold filtCells at HSN
    generalize fAt fs j = f at *
    obtain ⟨vt, vx, hv⟩ := valI_form f.value
    rw [hv] at c3 HSN
    obtain ⟨m, op, fv, fd⟩ := f
    dsimp only at c1 c2 c3 c4 HS HSN
    have t14a := (World.cell?_alloc_past (.cells #[.string ⟨#[]⟩, .int .i64 m, .int .i64 op, .iface vt vx, .bool fd, .nilFunc] 100) tb 14 hts).trans t14
    clear hb hown h3 hv HFC
    by_cases h1 : 0 < m
    ·by_cases h2' : m ≤ (cols : Int)
     ·rw [if_pos ⟨by omega, h2'⟩] at HS
      go_upto_region 6 with fail
      go_quiet (fail)
      have HW : Hid (∀ o n, Below w.heap.size w ((wr.alloc o).drewN n)) := fun o n => below_drewN (HB.out.1.alloc HB.out.1.size _) n
      go_wp2_with (at_builtin; refine wpList_append_own _ rfl _ _ 68 rfl w.heap.size 100 i0 (.agg #[.string ⟨#[]⟩, .int .i64 0, .int .i64 0, .nilIface, .bool false, .nilFunc]) 6 64 Tryz.underlying68 HI.out HZ0.out HZ1.out HZ2.out rfl (by decide) _ _ _ rfl ((own_drewN (HB.out.2.alloc _) nq).alloc _) ⟨wr.heap.size + 1, 0, none⟩ 1 1 [.string ⟨#[]⟩, .int .i64 m, .int .i64 op, .iface vt vx, .bool fd, .nilFunc] rfl rfl (by have h := cells_new ((wr.alloc (.cells #[.string ⟨#[]⟩, .int .i64 m, .int .i64 op, .iface vt vx, .bool fd, .nilFunc] 100)).drewN nq) [.string ⟨#[]⟩, .int .i64 m, .int .i64 op, .iface vt vx, .bool fd, .nilFunc] 100; simpa using h) (by intro u hu; simp only [List.mem_cons, List.mem_nil_iff, or_false] at hu; rcases hu with rfl | rfl | rfl | rfl | rfl | rfl <;> rfl) (by unfold maxLen; omega) (by omega) (by have := (HW.out (.cells #[.string ⟨#[]⟩, .int .i64 m, .int .i64 op, .iface vt vx, .bool fd, .nilFunc] 100) nq).size; simp at this ⊢; omega) ?_; intro v' w2 hown1 hgr1 hxx; obtain ⟨A4, c4, rfl⟩ := own_form hown1; have HA : Hid (Below w.heap.size w w2 ∧ w2.ownsRow w.heap.size 100 6 (.slice A4 ((parsedTo fs cols j).length + 1) c4) (parsedTo fs cols (j + 1)).length (filtAll (parsedTo fs cols (j + 1)))) := ⟨((HW.out _ _).alloc (HW.out _ _).size _).grown hgr1 (by have := (HW.out (.cells #[.string ⟨#[]⟩, .int .i64 m, .int .i64 op, .iface vt vx, .bool fd, .nilFunc] 100) nq).size; simp at this ⊢; omega) (fun q hq => (HB.out.2.lt q hq).1), by rw [HS.out, HSN.out, List.length_append]; exact hown1⟩; clear hown1 hgr1 hxx)
      go_roundg g
      case measure => omega
      case rel => exact ⟨j + 1, by go_num, by omega, HA.out.2, HA.out.1⟩
     ·rw [if_neg (fun h => h2' h.2)] at HS
      have k1 : decide (m ≤ (cols : Int)) = false := decide_eq_false h2'
      go_upto_region 6 with fail
      go_quiet (fail)
      go_wp2_with fail
      go_roundg g
      case measure => omega
      case rel => exact ⟨j + 1, by go_num, by omega, by rw [HS.out]; exact own_drewN (HB.out.2.alloc _) _, below_drewN (HB.out.1.alloc HB.out.1.size _) _⟩
    ·rw [if_neg (fun h => h1 (by omega))] at HS
     have k1 : decide (0 < m) = false := decide_eq_false h1
     go_upto_region 6 with fail
     go_quiet (fail)
     go_wp2_with fail
     go_roundg g
     case measure => omega
     case rel => exact ⟨j + 1, by go_num, by omega, by rw [HS.out]; exact own_drewN (HB.out.2.alloc _) _, below_drewN (HB.out.1.alloc HB.out.1.size _) _⟩

end Go.Proofs.YtgolhmiocjpohaaGreatDoor

namespace Go.Proofs.YtgolhmiocjpohaaGreatDoor
open Go.RowKit Go.PlainAid

/-- A table's cells: the number of columns, the rows as handed in, the rows, the breaks, the filters; all else zero. -/
def ktbl (c a b m f : Value) : Array Value := #[.int .i64 0, .bool false, .int .i64 0, .string ⟨#[]⟩, .slice none 0 0, .slice none 0 0, .map none, .string ⟨#[]⟩, .bool false, .string ⟨#[]⟩, .int .i64 0, .slice none 0 0, .map none, .int .i64 0,
 c, .int .i64 0, .int .i64 0, .slice none 0 0, .int .i64 0, .string ⟨#[]⟩, .slice none 0 0, .slice none 0 0, .map none, a, b, .slice none 0 0, .map none, .slice none 0 0, .slice none 0 0, .map none, .slice none 0 0, .nilFunc, .nilFunc,
 .map none, .map none, m, .slice none 0 0, .slice none 0 0, f, .pointer none, .bool false, .bool false, .string ⟨#[]⟩]

def TbAt (w : World) (tb : Nat) (c a b m f : Value) : Prop := w.heap[tb]? = some (.cells (ktbl c a b m f) 71 (0, 0))

theorem TbAt.cells {w : World} {tb : Nat} {c a b m f : Value} (h : TbAt w tb c a b m f) :
  w.cell? ⟨tb, 14, none⟩ = some c ∧ w.cell? ⟨tb, 23, none⟩ = some a ∧ w.cell? ⟨tb, 24, none⟩ = some b ∧ w.cell? ⟨tb, 35, none⟩ = some m ∧ w.cell? ⟨tb, 38, none⟩ = some f ∧ w.cell? ⟨tb, 27, none⟩ = some (.slice none 0 0) ∧ w.cell? ⟨tb, 30, none⟩ = some (.slice none 0 0) ∧ ∀ i, w.frozen? ⟨tb, i, none⟩ = false :=
 ⟨by rw [cell_of_row w tb 14 _ _ _ h]; rfl, by rw [cell_of_row w tb 23 _ _ _ h]; rfl, by rw [cell_of_row w tb 24 _ _ _ h]; rfl, by rw [cell_of_row w tb 35 _ _ _ h]; rfl, by rw [cell_of_row w tb 38 _ _ _ h]; rfl,
  by rw [cell_of_row w tb 27 _ _ _ h]; rfl, by rw [cell_of_row w tb 30 _ _ _ h]; rfl, fun i => frozen_of_row w tb i _ _ h⟩
theorem TbAt.setC {w : World} {tb : Nat} {c a b m f : Value} (h : TbAt w tb c a b m f) (x : Value) : TbAt (w.setCell ⟨tb, 14, none⟩ x) tb x a b m f := (set_row2 h 14 x).trans rfl
theorem TbAt.setA {w : World} {tb : Nat} {c a b m f : Value} (h : TbAt w tb c a b m f) (x : Value) : TbAt (w.setCell ⟨tb, 23, none⟩ x) tb c x b m f := (set_row2 h 23 x).trans rfl
theorem TbAt.setB {w : World} {tb : Nat} {c a b m f : Value} (h : TbAt w tb c a b m f) (x : Value) : TbAt (w.setCell ⟨tb, 24, none⟩ x) tb c a x m f := (set_row2 h 24 x).trans rfl
theorem TbAt.setM {w : World} {tb : Nat} {c a b m f : Value} (h : TbAt w tb c a b m f) (x : Value) : TbAt (w.setCell ⟨tb, 35, none⟩ x) tb c a b x f := (set_row2 h 35 x).trans rfl
theorem TbAt.setF {w : World} {tb : Nat} {c a b m f : Value} (h : TbAt w tb c a b m f) (x : Value) : TbAt (w.setCell ⟨tb, 38, none⟩ x) tb c a b m x := (set_row2 h 38 x).trans rfl
theorem TbAt.below {w w' : World} {tb : Nat} {c a b m f : Value} (h : TbAt w tb c a b m f) (hb : Below w.heap.size w w') : TbAt w' tb c a b m f := (hb.block tb (Array.getElem?_eq_some_iff.1 h).1).trans h
theorem TbAt.lt {w : World} {tb : Nat} {c a b m f : Value} (h : TbAt w tb c a b m f) : tb < w.heap.size := (Array.getElem?_eq_some_iff.1 h).1

/-- Rows of values, away from a block. -/
def LensAt (w : World) (tb : Nat) (A : Option Addr) (rows : List (List CellD)) : Prop :=
 rows = [] ∨ ∃ b o, A = some ⟨b, o, none⟩ ∧ b < w.heap.size ∧ b ≠ tb ∧ ∀ i, i < rows.length → ∃ A' c, w.cell? ⟨b, o + i, none⟩ = some (.slice A' (rwAt rows i).length c)

theorem cell_block {w w' : World} {b : Nat} (h : w'.heap[b]? = w.heap[b]?) (o : Nat) : w'.cell? ⟨b, o, none⟩ = w.cell? ⟨b, o, none⟩ := by simp [World.cell?, h]

set_option maxHeartbeats 1600000 in
set_option maxRecDepth 100000 in
theorem num_columns (w : World) (tb : Nat) (A : Option Addr) (cap : Nat) (c a m f : Value) (rows : List (List CellD)) (ht : TbAt w tb c a (.slice A rows.length cap) m f) (hr : LensAt w tb A rows) (hl : rows.length ≤ 60) (hok : ∀ i, i < rows.length → (rwAt rows i).length ≤ 2147483647) :
  Calls Tryz.prog 50 #[.pointer (some ⟨tb, 0, none⟩)] w fun e w' => e = .returned (.tuple #[]) ∧ TbAt w' tb (.int .i64 (colsTo rows rows.length : Nat)) a (.slice A rows.length cap) m f ∧ Only tb w w' := by
 have HT := Lib.hid ht
 have HR := Lib.hid hr
 have HOK := Lib.hid hok
 obtain ⟨t14, t23, t24, t35, t38, t27, t30, tf⟩ := ht.cells
 have f14 := tf 14
 clear ht hr hok tf
 go_enter Tryz.func50, Tryz.ntmps50
 go_wp2_with fail
 go_loopg [44] rows.length (fun g s44 wx => ∃ i : Nat, s44 = .int .i64 i ∧ i + g = rows.length ∧ colsTo rows i ≤ 2147483647 ∧ TbAt wx tb (.int .i64 (colsTo rows i : Nat)) a (.slice A rows.length cap) m f ∧ Only tb w wx)
 case atStart => exact ⟨0, rfl, by omega, by simp [colsTo], HT.out.setC _, (Only.refl _ _).set _ _⟩
 case round =>
  obtain ⟨i, rfl, hig, hcl, ht, ho⟩ := hrel
  obtain ⟨u14, u23, u24, u35, u38, u27, u30, uf⟩ := ht.cells
  have f14' := uf 14
  have HK := Lib.hid (And.intro ht ho)
  clear t14 t23 t24 t35 t38 t27 t30 f14 uf
  cases gk with
  | zero =>
   have hi : ¬ (i : Int) < (rows.length : Int) := by omega
   have hie : i = rows.length := by omega
   subst hie
   clear ht ho
   go_wp2_with fail
   go_loopg [66] 0 (fun g s66 wx => s66 = .int .i64 0 ∧ wx = wr)
   case atStart => exact ⟨rfl, rfl⟩
   case round =>
    obtain ⟨rfl, rfl⟩ := hrel
    go_wp2_with fail
    go_end0
    exact ⟨rfl, HK.out⟩
  | succ g =>
   have hi : (i : Int) < (rows.length : Int) := by omega
   rcases HR.out with h | ⟨b, o, rfl, hb, hne, h3⟩
   ·exfalso; rw [h] at hi; simp at hi; omega
   obtain ⟨A', c', x0⟩ := h3 i (by omega)
   have x1 := (cell_block (ho.block b hb hne) (o + i)).trans x0
   have hlen := HOK.out i (by omega)
   have hcs := cols_succ rows i
   generalize (rwAt rows i).length = l at *
   clear ht ho x0 h3
   by_cases hlt : colsTo rows i < l
   ·have hz : ((colsTo rows i : Nat) : Int) < (l : Int) := by omega
    have hc2 : colsTo rows (i + 1) = l := by omega
    go_wp2_with fail
    go_roundg g
    case measure => omega
    case rel => exact ⟨i + 1, by go_num, by omega, by omega, by rw [hc2]; exact HK.out.1.setC _, HK.out.2.set _ _⟩
   ·have hz : ¬ ((colsTo rows i : Nat) : Int) < (l : Int) := by omega
    have hc2 : colsTo rows (i + 1) = colsTo rows i := by omega
    go_wp2_with fail
    go_roundg g
    case measure => omega
    case rel => exact ⟨i + 1, by go_num, by omega, by omega, by rw [hc2]; exact HK.out.1, HK.out.2⟩

end Go.Proofs.YtgolhmiocjpohaaGreatDoor

namespace Go.Proofs.YtgolhmiocjpohaaGreatDoor
open Go.RowKit Go.PlainAid

set_option maxHeartbeats 400000 in
set_option maxRecDepth 100000 in
theorem filter_by (w : World) (tb : Nat) (c a b m f x : Value) (ht : TbAt w tb c a b m f) (A : Option Addr) (n cap : Nat) (hx : x = .slice A n cap) :
  Calls Tryz.prog 21 #[.pointer (some ⟨tb, 0, none⟩), x] w fun e w' => e = .returned (.tuple #[]) ∧ TbAt w' tb c a b m x ∧ Only tb w w' := by
 subst hx
 have HT := Lib.hid ht
 obtain ⟨t14, t23, t24, t35, t38, t27, t30, tf⟩ := ht.cells
 have f38 := tf 38
 clear ht tf
 go_enter Tryz.func21, Tryz.ntmps21
 go_wp2_with fail
 go_end0
 exact ⟨rfl, HT.out.setF _, (Only.refl _ _).set _ _⟩

end Go.Proofs.YtgolhmiocjpohaaGreatDoor

namespace Go.Proofs.YtgolhmiocjpohaaGreatDoor
open Go.RowKit Go.PlainAid

section
variable {low : ByteArray → ByteArray} {eqf : ByteArray → ByteArray → Bool}

theorem fAt_append {l x : List FiltD} {j : Nat} (h : j < l.length) : fAt (l ++ x) j = fAt l j := by
 unfold fAt
 rw [List.getD_eq_getElem?_getD, List.getD_eq_getElem?_getD, List.getElem?_append_left h]
theorem fAt_last (l : List FiltD) (f : FiltD) : fAt (l ++ [f]) l.length = f := by
 unfold fAt
 rw [List.getD_eq_getElem?_getD, List.getElem?_append_right (Nat.le_refl _)]
 simp
theorem cellsTo_append (l x : List FiltD) (row : List CellD) : ∀ k, k ≤ l.length → cellsTo low eqf (l ++ x) row k = cellsTo low eqf l row k
 | 0, _ => rfl
 | k + 1, h => by
  show (cellsTo low eqf (l ++ x) row k && _) = (cellsTo low eqf l row k && _)
  rw [cellsTo_append l x row k (by omega), fAt_append (by omega)]

theorem cells_all (fs : List FiltD) (cols : Nat) (row : List CellD) : ∀ j, cellsTo low eqf (parsedTo fs cols j) row (parsedTo fs cols j).length = allTo low eqf fs cols row j
 | 0 => rfl
 | j + 1 => by
  have ih := cells_all fs cols row j
  show _ = (allTo low eqf fs cols row j && oneB low eqf cols row (fAt fs j))
  unfold parsedTo
  by_cases hc : 1 ≤ (fAt fs j).number ∧ (fAt fs j).number ≤ (cols : Int)
  ·rw [if_pos hc, List.length_append, List.length_singleton]
   show (cellsTo low eqf _ row _ && cellB low eqf row _) = _
   rw [cellsTo_append _ _ _ _ (Nat.le_refl _), fAt_last, ih]
   unfold oneB cellB
   rw [if_pos hc]
   by_cases h2 : (fAt fs j).number ≤ (row.length : Int)
   ·rw [if_pos ⟨hc.1, h2⟩, decide_eq_true h2, Bool.true_and]
   ·rw [if_neg (fun h => h2 h.2), decide_eq_false h2, Bool.false_and]
  ·rw [if_neg hc, ih]
   unfold oneB
   rw [if_neg hc, Bool.and_true]

end

/-- The breaks behind the first of the rows kept. -/
def ibTo (S : Nat → Bool) (ks : List Nat) : Nat → List Int
 | 0 => []
 | j + 1 => if S (ks.getD j 0) then ibTo S ks j ++ [(j : Int) + 1] else ibTo S ks j
theorem ibTo_len (S : Nat → Bool) (ks : List Nat) : ∀ i, (ibTo S ks i).length ≤ i
 | 0 => by simp [ibTo]
 | i + 1 => by
  have := ibTo_len S ks i
  unfold ibTo
  split
  ·simp; omega
  ·omega
theorem ibTo_append (S : Nat → Bool) (l x : List Nat) : ∀ k, k ≤ l.length → ibTo S (l ++ x) k = ibTo S l k
 | 0, _ => rfl
 | k + 1, h => by
  unfold ibTo
  rw [ibTo_append S l x k (by omega), List.getD_eq_getElem?_getD, List.getD_eq_getElem?_getD, List.getElem?_append_left (by omega)]

theorem ib_brk (p : List CellD → Bool) (rows : List (List CellD)) (bs : List Int) : ∀ i, ibTo (brAt bs) (keptIx p rows i) (keptIx p rows i).length = brkTo p rows bs i
 | 0 => rfl
 | i + 1 => by
  have ih := ib_brk p rows bs i
  unfold brkTo keptIx
  cases hp : p (rwAt rows i) with
  | false => simp [ih]
  | true =>
   rw [if_pos rfl, List.length_append, List.length_singleton, Bool.true_and]
   show (if brAt bs _ then _ else _) = _
   rw [ibTo_append _ _ _ _ (Nat.le_refl _), ih, List.getD_eq_getElem?_getD, List.getElem?_append_right (Nat.le_refl _)]
   simp

theorem ibTo_congr {S T : Nat → Bool} {ks : List Nat} (h : ∀ k ∈ ks, S k = T k) : ∀ j, j ≤ ks.length → ibTo S ks j = ibTo T ks j
 | 0, _ => rfl
 | j + 1, hj => by
  unfold ibTo
  have : ks.getD j 0 ∈ ks := by
   rw [List.getD_eq_getElem?_getD, List.getElem?_eq_getElem (by omega)]
   exact List.getElem_mem _
  rw [ibTo_congr h j (by omega), h _ this]

theorem keptIx_all {p : List CellD → Bool} (h : ∀ r, p r = true) (rows : List (List CellD)) : ∀ i, keptIx p rows i = List.range i
 | 0 => rfl
 | i + 1 => by
  unfold keptIx
  rw [h, if_pos rfl, keptIx_all h rows i, List.range_succ]
/-- In place: the place where the next kept row is laid is not beyond the row looked at. -/
theorem take_put (cs : List Value) (j : Nat) (v : Value) (h : j < cs.length) : cs.take j ++ [v] ++ cs.drop (j + 1) = cs.set j v := by
 rw [List.set_eq_take_append_cons_drop, if_pos h, List.append_assoc]
 rfl

end Go.Proofs.YtgolhmiocjpohaaGreatDoor
