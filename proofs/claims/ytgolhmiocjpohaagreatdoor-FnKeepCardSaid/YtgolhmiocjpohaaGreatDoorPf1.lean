/- Rows of cells, filters and numbers as they lie in memory; the guards (36, 16, 5, 17, 6), a cell as the package has it (37). No condition beyond sizes. The package's rows of values out of cells, and its filters (19, 38, 22), and cells out of values (24). No condition beyond sizes. The package's filters (22, over what 38 answers), and cells out of values (24). No condition beyond sizes. A region that draws its order and whose callees only make new memory: one walk, in the order of the text. No condition. The reference's comparisons of rows and of numbers (9, 10) answer yes where they are alike. No condition beyond sizes. Go's strconv.ParseFloat (59) on any text of at most 400 octets: the float that the text tells, or an error. No condition beyond that, and what the walks read of variables. -/
import Derived.Test.YtgolhmiocjpohaaGreatDoorKp4
import Derived.BigQuiet
import Derived.Test.YtgolhmiocjpohaaGreatDoorNt1
set_option linter.unusedVariables false
set_option linter.unusedSimpArgs false
namespace Go.Proofs.YtgolhmiocjpohaaGreatDoor
open Go.RowKit Go.PlainAid

def noCell : CellD := ⟨0, ⟨#[]⟩, 0⟩
def cAt (cs : List CellD) (i : Nat) : CellD := cs.getD i noCell
def rwAt (rows : List (List CellD)) (i : Nat) : List CellD := rows.getD i []
def noFilt : FiltD := ⟨0, 0, noCell, false⟩
def fAt (fs : List FiltD) (i : Nat) : FiltD := fs.getD i noFilt

/-- A cell lies at a place. -/
structure CellIs (w : World) (b o : Nat) (c : CellD) : Prop where
 k : w.cell? ⟨b, o, none⟩ = some (.int .i64 c.kind)
 t : w.cell? ⟨b, o + 1, none⟩ = some (.string c.text)
 n : w.cell? ⟨b, o + 2, none⟩ = some (.int .i64 c.n)
/-- Cells lie in a row. -/
def CellsAt (w : World) (A : Option Addr) (cs : List CellD) : Prop := cs = [] ∨ ∃ b o, A = some ⟨b, o, none⟩ ∧ b < w.heap.size ∧ ∀ i, i < cs.length → CellIs w b (o + i * 3) (cAt cs i)
/-- Rows of cells. -/
def GridAt (w : World) (A : Option Addr) (rows : List (List CellD)) : Prop :=
 rows = [] ∨ ∃ b o, A = some ⟨b, o, none⟩ ∧ b < w.heap.size ∧ ∀ i, i < rows.length → ∃ A' c, w.cell? ⟨b, o + i, none⟩ = some (.slice A' (rwAt rows i).length c) ∧ CellsAt w A' (rwAt rows i)
/-- Numbers. -/
def NumsAt (w : World) (A : Option Addr) (ns : List Int) : Prop := ns = [] ∨ ∃ b o, A = some ⟨b, o, none⟩ ∧ b < w.heap.size ∧ ∀ i, i < ns.length → w.cell? ⟨b, o + i, none⟩ = some (.int .i64 (ns.getD i 0))
/-- A filter lies at a place. -/
structure FiltIs (w : World) (b o : Nat) (f : FiltD) : Prop where
 num : w.cell? ⟨b, o, none⟩ = some (.int .i64 f.number)
 op : w.cell? ⟨b, o + 1, none⟩ = some (.int .i64 f.op)
 k : w.cell? ⟨b, o + 2, none⟩ = some (.int .i64 f.value.kind)
 t : w.cell? ⟨b, o + 3, none⟩ = some (.string f.value.text)
 n : w.cell? ⟨b, o + 4, none⟩ = some (.int .i64 f.value.n)
 fold : w.cell? ⟨b, o + 5, none⟩ = some (.bool f.fold)
def FiltsAt (w : World) (A : Option Addr) (fs : List FiltD) : Prop := fs = [] ∨ ∃ b o, A = some ⟨b, o, none⟩ ∧ b < w.heap.size ∧ ∀ i, i < fs.length → FiltIs w b (o + i * 6) (fAt fs i)

theorem CellIs.below {w w' : World} {b o B : Nat} {c : CellD} (h : CellIs w b o c) (hb : Below B w w') (hl : b < B) : CellIs w' b o c :=
 ⟨by rw [hb.cell (p := ⟨b, o, none⟩) hl]; exact h.k, by rw [hb.cell (p := ⟨b, o + 1, none⟩) hl]; exact h.t, by rw [hb.cell (p := ⟨b, o + 2, none⟩) hl]; exact h.n⟩
theorem CellsAt.below {w w' : World} {A : Option Addr} {cs : List CellD} (h : CellsAt w A cs) (hb : Below w.heap.size w w') : CellsAt w' A cs := by
 rcases h with h | ⟨b, o, h1, h2, h3⟩
 ·exact Or.inl h
 ·exact Or.inr ⟨b, o, h1, Nat.lt_of_lt_of_le h2 hb.size, fun i hi => (h3 i hi).below hb h2⟩
theorem GridAt.below {w w' : World} {A : Option Addr} {rows : List (List CellD)} (h : GridAt w A rows) (hb : Below w.heap.size w w') : GridAt w' A rows := by
 rcases h with h | ⟨b, o, h1, h2, h3⟩
 ·exact Or.inl h
 ·refine Or.inr ⟨b, o, h1, Nat.lt_of_lt_of_le h2 hb.size, fun i hi => ?_⟩
  obtain ⟨A', c, q1, q2⟩ := h3 i hi
  exact ⟨A', c, by rw [hb.cell (p := ⟨b, o + i, none⟩) h2]; exact q1, q2.below hb⟩
theorem NumsAt.below {w w' : World} {A : Option Addr} {ns : List Int} (h : NumsAt w A ns) (hb : Below w.heap.size w w') : NumsAt w' A ns := by
 rcases h with h | ⟨b, o, h1, h2, h3⟩
 ·exact Or.inl h
 ·exact Or.inr ⟨b, o, h1, Nat.lt_of_lt_of_le h2 hb.size, fun i hi => by rw [hb.cell (p := ⟨b, o + i, none⟩) h2]; exact h3 i hi⟩
theorem FiltIs.below {w w' : World} {b o B : Nat} {f : FiltD} (h : FiltIs w b o f) (hb : Below B w w') (hl : b < B) : FiltIs w' b o f :=
 ⟨by rw [hb.cell (p := ⟨b, o, none⟩) hl]; exact h.num, by rw [hb.cell (p := ⟨b, o + 1, none⟩) hl]; exact h.op, by rw [hb.cell (p := ⟨b, o + 2, none⟩) hl]; exact h.k,
  by rw [hb.cell (p := ⟨b, o + 3, none⟩) hl]; exact h.t, by rw [hb.cell (p := ⟨b, o + 4, none⟩) hl]; exact h.n, by rw [hb.cell (p := ⟨b, o + 5, none⟩) hl]; exact h.fold⟩
theorem FiltsAt.below {w w' : World} {A : Option Addr} {fs : List FiltD} (h : FiltsAt w A fs) (hb : Below w.heap.size w w') : FiltsAt w' A fs := by
 rcases h with h | ⟨b, o, h1, h2, h3⟩
 ·exact Or.inl h
 ·exact Or.inr ⟨b, o, h1, Nat.lt_of_lt_of_le h2 hb.size, fun i hi => (h3 i hi).below hb h2⟩

theorem Below.newThen {w0 w w1 : World} {o : Obj} (h : Below w0.heap.size w0 w) (hb : Below (w.alloc o).heap.size (w.alloc o) w1) : Below w0.heap.size w0 w1 :=
 (h.alloc h.size o).trans (hb.mono (by have := h.size; simp; omega))

/-- A post: some answer, old memory as it was; where it is yes, so much is known. -/
def Fits (p : Prop) (w : World) (e : Ending) (w' : World) : Prop := ∃ b, e = .returned (.bool b) ∧ (b = true → p) ∧ Below w.heap.size w w'

set_option maxHeartbeats 400000 in
theorem fits_cell (c : CellD) (w : World) : Calls Tryz.prog 36 #[cellV c] w (Fits True w) := by
 unfold cellV
 obtain ⟨k, t, n⟩ := c
 dsimp only
 go_enter Tryz.func36, Tryz.ntmps36
 by_cases h : (2147483647 : Int) < (t.size : Int)
 ·go_wp2_with fail
  go_ret
  exact ⟨_, rfl, fun _ => trivial, (Below.refl _ _).alloc (Nat.le_refl _) _⟩
 ·go_wp2_with fail
  go_ret
  exact ⟨_, rfl, fun _ => trivial, (Below.refl _ _).alloc (Nat.le_refl _) _⟩

set_option maxHeartbeats 400000 in
theorem fits_filter (f : FiltD) (w : World) : Calls Tryz.prog 17 #[filtV f] w (Fits True w) := by
 unfold filtV
 have K := Lib.hid (fun w => fits_cell f.value w)
 unfold cellV at K
 obtain ⟨m, op, ⟨ck, ct, cn⟩, fold⟩ := f
 dsimp only at K ⊢
 go_enter Tryz.func17, Tryz.ntmps17
 go_wp2_with (go_at_call 36; (with_reducible refine (K.out _).mono ?_); rintro e w1 ⟨b, rfl, _, hb⟩; have HB := Lib.hid (((Below.refl _ _).alloc (Nat.le_refl _) _).trans (hb.mono (by simp))); clear hb)
 all_goals (go_ret; exact ⟨_, rfl, fun _ => trivial, HB.out⟩)

set_option maxHeartbeats 800000 in
set_option maxRecDepth 100000 in
theorem fits_row (w : World) (A : Option Addr) (cap : Nat) (cs : List CellD) (h : CellsAt w A cs) : Calls Tryz.prog 16 #[.slice A cs.length cap] w (Fits (cs.length ≤ 2147483647) w) := by
 have K := Lib.hid (fun c w => fits_cell c w)
 unfold cellV at K
 by_cases hz : 2147483647 < cs.length
 ·have hz2 : (2147483647 : Int) < (cs.length : Int) := by omega
  clear h K
  go_enter Tryz.func16, Tryz.ntmps16
  go_wp2_with fail
  go_ret
  exact ⟨_, rfl, fun h => by simp at h, Below.refl _ _⟩
 ·have hz2 : ¬ (2147483647 : Int) < (cs.length : Int) := by omega
  have H := Lib.hid h
  clear h
  go_enter Tryz.func16, Tryz.ntmps16
  go_wp2_with fail
  go_loopg [10] cs.length (fun g s10 wx => ∃ i : Nat, s10 = .int .i64 i ∧ i + g = cs.length ∧ Below w.heap.size w wx)
  case atStart => exact ⟨0, rfl, by omega, Below.refl _ _⟩
  case round =>
   obtain ⟨i, rfl, hig, hb⟩ := hrel
   have HB := Lib.hid hb
   cases gk with
   | zero =>
    have hi : ¬ ((i : Int) < (cs.length : Int)) := by omega
    clear hb
    go_wp2_with fail
    go_ret
    exact ⟨_, rfl, fun _ => by omega, HB.out⟩
   | succ g =>
    have hi : (i : Int) < (cs.length : Int) := by omega
    rcases H.out with h | ⟨b, o, rfl, h2, h3⟩
    ·exfalso; rw [h] at hi; simp at hi; omega
    ·obtain ⟨c0, c1, c2⟩ := (h3 i (by omega)).below hb h2
     generalize cAt cs i = c at *
     obtain ⟨ck, ct, cn⟩ := c
     dsimp only at c0 c1 c2
     have KI := Lib.hid (fun w => K.out ⟨ck, ct, cn⟩ w)
     clear hb
     go_wp2_with (go_at_call 36; (with_reducible refine (KI.out _).mono ?_); rintro e w1 ⟨bb, rfl, _, hb⟩; have HB2 := Lib.hid (Below.newThen HB.out hb); clear hb)
     all_goals first
      | (go_roundg g
         case measure => omega
         case rel => exact ⟨i + 1, by go_num, by omega, HB2.out⟩)
      | (go_ret
         exact ⟨_, rfl, fun h => by simp at h, HB2.out⟩)

set_option maxHeartbeats 800000 in
set_option maxRecDepth 100000 in
theorem fits_rows (w : World) (A : Option Addr) (cap : Nat) (rows : List (List CellD)) (h : GridAt w A rows) : Calls Tryz.prog 5 #[.slice A rows.length cap] w (Fits (rows.length ≤ 2147483647 ∧ ∀ i, i < rows.length → (rwAt rows i).length ≤ 2147483647) w) := by
 have K := Lib.hid (fun wx A c cs h => fits_row wx A c cs h)
 by_cases hz : 2147483647 < rows.length
 ·have hz2 : (2147483647 : Int) < (rows.length : Int) := by omega
  clear h K
  go_enter Tryz.func5, Tryz.ntmps5
  go_wp2_with fail
  go_ret
  exact ⟨_, rfl, fun h => by simp at h, Below.refl _ _⟩
 ·have hz2 : ¬ (2147483647 : Int) < (rows.length : Int) := by omega
  have H := Lib.hid h
  clear h
  go_enter Tryz.func5, Tryz.ntmps5
  go_wp2_with fail
  go_loopg [10] rows.length (fun g s10 wx => ∃ i : Nat, s10 = .int .i64 i ∧ i + g = rows.length ∧ (∀ j, j < i → (rwAt rows j).length ≤ 2147483647) ∧ Below w.heap.size w wx)
  case atStart => exact ⟨0, rfl, by omega, fun j hj => by omega, Below.refl _ _⟩
  case round =>
   obtain ⟨i, rfl, hig, hall, hb⟩ := hrel
   have HB := Lib.hid (And.intro hb hall)
   cases gk with
   | zero =>
    have hi : ¬ ((i : Int) < (rows.length : Int)) := by omega
    clear hb hall
    go_wp2_with fail
    go_ret
    exact ⟨_, rfl, fun _ => ⟨by omega, fun j hj => HB.out.2 j (by omega)⟩, HB.out.1⟩
   | succ g =>
    have hi : (i : Int) < (rows.length : Int) := by omega
    rcases H.out with h | ⟨b, o, rfl, h2, h3⟩
    ·exfalso; rw [h] at hi; simp at hi; omega
    ·obtain ⟨A', c', c0, c1⟩ := h3 i (by omega)
     have c0' := (hb.cell (p := ⟨b, o + i, none⟩) h2).trans c0
     have KI := Lib.hid (K.out wr A' c' _ (CellsAt.below c1 hb))
     obtain ⟨L, hL⟩ : ∃ L, (rwAt rows i).length = L := ⟨_, rfl⟩
     rw [hL] at c0' KI
     have HL := Lib.hid hL
     clear hb hall c0 c1 h3 hL
     go_wp2_with (go_at_call 16; (with_reducible refine KI.out.mono ?_); rintro e w1 ⟨bb, rfl, hp, hb⟩; have HB2 := Lib.hid (And.intro (HB.out.1.trans (hb.mono HB.out.1.size)) hp); clear hb hp)
     all_goals first
      | (go_roundg g
         case measure => omega
         case rel =>
          have ht : bb = true := by simpa using ‹(!bb) = false›
          exact ⟨i + 1, by go_num, by omega, fun j hj => by rcases Nat.lt_or_ge j i with q | q; (· exact HB.out.2 j q); (· rw [show j = i by omega, HL.out]; exact HB2.out.2 ht), HB2.out.1⟩)
      | (go_ret
         exact ⟨_, rfl, fun h => by simp at h, HB2.out.1⟩)

set_option maxHeartbeats 800000 in
set_option maxRecDepth 100000 in
theorem fits_filters (w : World) (A : Option Addr) (cap : Nat) (fs : List FiltD) (h : FiltsAt w A fs) : Calls Tryz.prog 6 #[.slice A fs.length cap] w (Fits (fs.length ≤ 2147483647) w) := by
 have K := Lib.hid (fun c w => fits_filter c w)
 unfold filtV at K
 by_cases hz : 2147483647 < fs.length
 ·have hz2 : (2147483647 : Int) < (fs.length : Int) := by omega
  clear h K
  go_enter Tryz.func6, Tryz.ntmps6
  go_wp2_with fail
  go_ret
  exact ⟨_, rfl, fun h => by simp at h, Below.refl _ _⟩
 ·have hz2 : ¬ (2147483647 : Int) < (fs.length : Int) := by omega
  have H := Lib.hid h
  clear h
  go_enter Tryz.func6, Tryz.ntmps6
  go_wp2_with fail
  go_loopg [10] fs.length (fun g s10 wx => ∃ i : Nat, s10 = .int .i64 i ∧ i + g = fs.length ∧ Below w.heap.size w wx)
  case atStart => exact ⟨0, rfl, by omega, Below.refl _ _⟩
  case round =>
   obtain ⟨i, rfl, hig, hb⟩ := hrel
   have HB := Lib.hid hb
   cases gk with
   | zero =>
    have hi : ¬ ((i : Int) < (fs.length : Int)) := by omega
    clear hb
    go_wp2_with fail
    go_ret
    exact ⟨_, rfl, fun _ => by omega, HB.out⟩
   | succ g =>
    have hi : (i : Int) < (fs.length : Int) := by omega
    rcases H.out with h | ⟨b, o, rfl, h2, h3⟩
    ·exfalso; rw [h] at hi; simp at hi; omega
    ·obtain ⟨c0, c1, c2, c3, c4, c5⟩ := (h3 i (by omega)).below hb h2
     generalize fAt fs i = f at *
     obtain ⟨fm, fo, ⟨ck, ct, cn⟩, ff⟩ := f
     dsimp only at c0 c1 c2 c3 c4 c5
     have KI := Lib.hid (fun w => K.out ⟨fm, fo, ⟨ck, ct, cn⟩, ff⟩ w)
     clear hb
     go_wp2_with (go_at_call 17; (with_reducible refine (KI.out _).mono ?_); rintro e w1 ⟨bb, rfl, _, hb⟩; have HB2 := Lib.hid (Below.newThen HB.out hb); clear hb)
     all_goals first
      | (go_roundg g
         case measure => omega
         case rel => exact ⟨i + 1, by go_num, by omega, HB2.out⟩)
      | (go_ret
         exact ⟨_, rfl, fun h => by simp at h, HB2.out⟩)

set_option maxHeartbeats 400000 in
theorem impl_cell (c : CellD) (w : World) : Calls Tryz.prog 37 #[cellV c] w fun e w' => e = .returned (valI c) ∧ Below w.heap.size w w' := by
 unfold cellV valI
 by_cases hk : c.kind = 1
 ·rw [if_pos hk]
  have k1 : (c.kind == 1) = true := beq_iff_eq.2 hk
  clear hk
  obtain ⟨k, t, n⟩ := c
  dsimp only at k1 ⊢
  go_enter Tryz.func37, Tryz.ntmps37
  go_wp2_with fail
  go_ret
  exact ⟨rfl, (Below.refl _ _).alloc (Nat.le_refl _) _⟩
 ·rw [if_neg hk]
  have k1 : (c.kind == 1) = false := beq_eq_false_iff_ne.2 hk
  clear hk
  obtain ⟨k, t, n⟩ := c
  dsimp only at k1 ⊢
  go_enter Tryz.func37, Tryz.ntmps37
  go_wp2_with fail
  go_ret
  exact ⟨rfl, (Below.refl _ _).alloc (Nat.le_refl _) _⟩

end Go.Proofs.YtgolhmiocjpohaaGreatDoor

namespace Go.Proofs.YtgolhmiocjpohaaGreatDoor
open Go.RowKit Go.PlainAid
theorem info20 : (Tryz.prog.info? 20).map (fun i => (i.zero, i.size, i.bytes)) = some (some .nilIface, 1, 16) := by kernel_rfl
theorem info29 : (Tryz.prog.info? 29).map (fun i => (i.zero, i.size, i.bytes)) = some (some (.agg #[.int .i64 0, .string ⟨#[]⟩, .int .i64 0]), 3, 32) := by kernel_rfl
theorem info27 : (Tryz.prog.info? 27).map (fun i => (i.zero, i.size, i.bytes)) = some (some (.slice none 0 0), 1, 24) := by kernel_rfl
theorem info74 : (Tryz.prog.info? 74).map (fun i => (i.zero, i.size, i.bytes)) = some (some (.slice none 0 0), 1, 24) := by kernel_rfl
theorem info3 : (Tryz.prog.info? 3).map (fun i => (i.zero, i.size, i.bytes)) = some (some (.int .i64 0), 1, 8) := by kernel_rfl
theorem info100 : (Tryz.prog.info? 100).map (fun i => (i.zero, i.size, i.bytes)) = some (some (.agg #[.string ⟨#[]⟩, .int .i64 0, .int .i64 0, .nilIface, .bool false, .nilFunc]), 6, 64) := by kernel_rfl

/-- What is one's own stays so where only new memory is written. -/
theorem own_below {w w' : World} {B base size n : Nat} {e : TypeId} {v : Value} {xs : List Value} (h : w.ownsRow base e size v n xs) (hb : Below w.heap.size w w') : w'.ownsRow base e size v n xs := by
 refine ⟨h.1, ?_⟩
 rcases h.2 with hn | ⟨g, cap, cur, rfl, h2, hg, rest⟩
 ·exact .inl hn
 ·exact .inr ⟨g, cap, cur, rfl, h2, by rw [hb.block g (Array.getElem?_eq_some_iff.1 hg).1]; exact hg, rest⟩

theorem cells_new (w : World) (xs : List Value) (t : TypeId) : ∀ j u, xs[j]? = some u → (w.alloc (.cells xs.toArray t)).cell? ((⟨w.heap.size, 0, none⟩ : Addr).add j) = some u := by
 intro j u h
 have e : (⟨w.heap.size, 0, none⟩ : Addr).add j = ⟨w.heap.size, j, none⟩ := by unfold Addr.add; split <;> simp_all
 rw [e, World.cell?_alloc_at _ _ _ _ rfl]
 simpa using h

theorem valI_one (c : CellD) : (valI c).oneCell' = true := by unfold valI; split <;> rfl

theorem valI_form (c : CellD) : ∃ t x, valI c = .iface t x := by unfold valI; split <;> exact ⟨_, _, rfl⟩

theorem take_snoc_map {α : Type} (f : CellD → α) {cs : List CellD} {i : Nat} (h : i < cs.length) : (cs.take (i + 1)).map f = (cs.take i).map f ++ [f (cAt cs i)] := by
 rw [List.take_succ_eq_append_getElem h, List.map_append, List.map_cons, List.map_nil]
 unfold cAt
 rw [List.getD_eq_getElem?_getD, List.getElem?_eq_getElem h]
 rfl

/-- A post: a new row of one's own. -/
def OwnOut (e : TypeId) (size n : Nat) (xs : List Value) (w : World) (en : Ending) (w' : World) : Prop := ∃ v, en = .returned v ∧ w'.ownsRow w.heap.size e size v n xs ∧ Below w.heap.size w w'

set_option maxHeartbeats 1600000 in
set_option maxRecDepth 100000 in
theorem impl_cells (w : World) (A : Option Addr) (cap : Nat) (cs : List CellD) (h : CellsAt w A cs) (hl : cs.length ≤ 2147483647) : Calls Tryz.prog 19 #[.slice A cs.length cap] w (OwnOut 20 1 cs.length (cs.map valI) w) := by
 obtain ⟨i0, hi, hz0, hz1, hz2⟩ := info_parts info20
 have HI := Lib.hid hi
 have HZ0 := Lib.hid hz0
 have HZ1 := Lib.hid hz1
 have HZ2 := Lib.hid hz2
 clear hi hz0 hz1 hz2
 have K := Lib.hid (fun c w => impl_cell c w)
 unfold cellV at K
 have H := Lib.hid h
 clear h
 go_enter Tryz.func19, Tryz.ntmps19
 go_wp2_with fail
 go_loopg [3, 9] cs.length (fun g s3 s9 wx => ∃ i : Nat, s9 = .int .i64 i ∧ i + g = cs.length ∧ wx.ownsRow w.heap.size 20 1 s3 i ((cs.take i).map valI) ∧ Below w.heap.size w wx)
 case atStart => exact ⟨0, rfl, by omega, World.ownsRow_made w #[] 0 (Nat.le_refl _) (by decide) rfl, (Below.refl _ _).alloc (Nat.le_refl _) _⟩
 case round =>
  obtain ⟨i, rfl, hig, hown, hb⟩ := hrel
  obtain ⟨A3, c3, rfl⟩ := own_form hown
  have HB := Lib.hid (And.intro hb hown)
  cases gk with
  | zero =>
   have hi : ¬ ((i : Int) < (cs.length : Int)) := by omega
   clear hb hown
   go_wp2_with fail
   go_ret
   obtain ⟨q1, q2⟩ := HB.out
   rw [show i = cs.length by omega] at q2 ⊢
   rw [List.take_of_length_le (Nat.le_refl _)] at q2
   exact ⟨_, rfl, q2, q1⟩
  | succ g =>
   have hi : (i : Int) < (cs.length : Int) := by omega
   rcases H.out with h | ⟨b, o, rfl, h2, h3⟩
   ·exfalso; rw [h] at hi; simp at hi; omega
   ·obtain ⟨c0, c1, c2⟩ := (h3 i (by omega)).below hb h2
    have HT : Hid ((cs.take (i + 1)).map valI = (cs.take i).map valI ++ [valI (cAt cs i)]) := take_snoc_map valI (by omega)
    have hone := valI_one (cAt cs i)
    have KI := Lib.hid (fun w => K.out (cAt cs i) w)
    generalize cAt cs i = c at *
    obtain ⟨ck, ct, cn⟩ := c
    dsimp only at c0 c1 c2 KI
    obtain ⟨vt, vx, hv⟩ := valI_form ⟨ck, ct, cn⟩
    rw [hv] at hone HT KI
    clear hv
    have HONE := Lib.hid hone
    clear hb hown hone
    go_wp2_with (first
     | (go_at_call 37; (with_reducible refine (KI.out _).mono ?_); rintro e w1 ⟨rfl, hb⟩; have HB2 := Lib.hid (And.intro (Below.newThen HB.out.1 hb) (own_below (B := 0) (HB.out.2.alloc _) hb)); clear hb)
     | (at_builtin; refine wpList_append_own _ rfl _ _ 74 rfl w.heap.size 20 i0 .nilIface 1 16 Tryz.underlying74 HI.out HZ0.out HZ1.out HZ2.out rfl (by decide) _ _ _ rfl (HB2.out.2.alloc _) ⟨w1.heap.size, 0, none⟩ 1 1 [.iface vt vx] rfl rfl (cell_one_new _ _ _) (by intro u hu; simp at hu; subst hu; exact HONE.out) (by unfold maxLen; omega) (by omega) (by simp; have := HB2.out.1.size; omega) ?_; intro v' w2 hown1 hgr1 hxx; obtain ⟨A4, c4, rfl⟩ := own_form hown1; have HA : Hid (Below w.heap.size w w2 ∧ w2.ownsRow w.heap.size 20 1 (.slice A4 (i + 1) c4) (i + 1) ((cs.take (i + 1)).map valI)) := ⟨(HB2.out.1.alloc HB2.out.1.size _).grown hgr1 (by simp; have := HB2.out.1.size; omega) (fun q hq => (HB2.out.2.lt q hq).1), by rw [HT.out]; exact hown1⟩; clear hown1 hgr1 hxx))
    go_roundg g
    case measure => omega
    case rel => exact ⟨i + 1, by go_num, by omega, HA.out.2, HA.out.1⟩

end Go.Proofs.YtgolhmiocjpohaaGreatDoor

namespace Go.Proofs.YtgolhmiocjpohaaGreatDoor
open Go.RowKit Go.PlainAid

def filtCells (f : FiltD) : List Value := [.string ⟨#[]⟩, .int .i64 f.number, .int .i64 f.op, valI f.value, .bool f.fold, .nilFunc]
def filtAll (fs : List FiltD) : List Value := fs.flatMap filtCells

theorem filt_snoc {fs : List FiltD} {i : Nat} (h : i < fs.length) : filtAll (fs.take (i + 1)) = filtAll (fs.take i) ++ filtCells (fAt fs i) := by
 unfold filtAll
 rw [List.take_succ_eq_append_getElem h, List.flatMap_append]
 unfold fAt
 rw [List.getD_eq_getElem?_getD, List.getElem?_eq_getElem h]
 simp

set_option maxHeartbeats 1600000 in
set_option maxRecDepth 100000 in
theorem impl_filters (hK : ∀ (f : FiltD) (w : World), Calls Tryz.prog 38 #[filtV f] w fun e w' => e = .returned (filtI f) ∧ Below w.heap.size w w') (w : World) (A : Option Addr) (cap : Nat) (fs : List FiltD) (h : FiltsAt w A fs) (hl : fs.length ≤ 2147483647) :
  Calls Tryz.prog 22 #[.slice A fs.length cap] w (OwnOut 100 6 fs.length (filtAll fs) w) := by
 obtain ⟨i0, hi, hz0, hz1, hz2⟩ := info_parts info100
 have HI := Lib.hid hi
 have HZ0 := Lib.hid hz0
 have HZ1 := Lib.hid hz1
 have HZ2 := Lib.hid hz2
 clear hi hz0 hz1 hz2
 have K := Lib.hid hK
 clear hK
 unfold filtV filtI at K
 have H := Lib.hid h
 clear h
 go_enter Tryz.func22, Tryz.ntmps22
 go_wp2_with fail
 go_loopg [3, 8] fs.length (fun g s3 s8 wx => ∃ i : Nat, s8 = .int .i64 i ∧ i + g = fs.length ∧ wx.ownsRow w.heap.size 100 6 s3 i (filtAll (fs.take i)) ∧ Below w.heap.size w wx)
 case atStart => exact ⟨0, rfl, by omega, World.ownsRow_nil _ _ _ _, Below.refl _ _⟩
 case round =>
  obtain ⟨i, rfl, hig, hown, hb⟩ := hrel
  obtain ⟨A3, c3, rfl⟩ := own_form hown
  have HB := Lib.hid (And.intro hb hown)
  cases gk with
  | zero =>
   have hi : ¬ ((i : Int) < (fs.length : Int)) := by omega
   clear hb hown
   go_wp2_with fail
   go_ret
   obtain ⟨q1, q2⟩ := HB.out
   rw [show i = fs.length by omega] at q2 ⊢
   rw [List.take_of_length_le (Nat.le_refl _)] at q2
   exact ⟨_, rfl, q2, q1⟩
  | succ g =>
   have hi : (i : Int) < (fs.length : Int) := by omega
   rcases H.out with h | ⟨b, o, rfl, h2, h3⟩
   ·exfalso; rw [h] at hi; simp at hi; omega
   ·obtain ⟨c0, c1, c2, c3, c4, c5⟩ := (h3 i (by omega)).below hb h2
    have HT : Hid (filtAll (fs.take (i + 1)) = filtAll (fs.take i) ++ filtCells (fAt fs i)) := filt_snoc (by omega)
    unfold filtCells at HT
    have KI := Lib.hid (fun w => K.out (fAt fs i) w)
    generalize fAt fs i = f at *
    obtain ⟨vt, vx, hv⟩ := valI_form f.value
    rw [hv] at HT KI
    clear hv
    obtain ⟨fm, fo, ⟨ck, ct, cn⟩, ff⟩ := f
    dsimp only at c0 c1 c2 c3 c4 c5 KI HT
    have hone : (Value.iface vt vx).oneCell' = true := rfl
    clear hb hown
    go_wp2_with (first
     | (go_at_call 38; (with_reducible refine (KI.out _).mono ?_); rintro e w1 ⟨rfl, hb⟩; have HB2 := Lib.hid (And.intro (Below.newThen HB.out.1 hb) (own_below (B := 0) (HB.out.2.alloc _) hb)); clear hb)
     | (at_builtin; refine wpList_append_own _ rfl _ _ 68 rfl w.heap.size 100 i0 (.agg #[.string ⟨#[]⟩, .int .i64 0, .int .i64 0, .nilIface, .bool false, .nilFunc]) 6 64 Tryz.underlying68 HI.out HZ0.out HZ1.out HZ2.out rfl (by decide) _ _ _ rfl (HB2.out.2.alloc _) ⟨w1.heap.size, 0, none⟩ 1 1 [.string ⟨#[]⟩, .int .i64 fm, .int .i64 fo, .iface vt vx, .bool ff, .nilFunc] rfl rfl (cells_new _ _ _) (by intro u hu; simp only [List.mem_cons, List.mem_nil_iff, or_false] at hu; rcases hu with rfl | rfl | rfl | rfl | rfl | rfl <;> rfl) (by unfold maxLen; omega) (by omega) (by simp; have := HB2.out.1.size; omega) ?_; intro v' w2 hown1 hgr1 hxx; obtain ⟨A4, c4, rfl⟩ := own_form hown1; have HA : Hid (Below w.heap.size w w2 ∧ w2.ownsRow w.heap.size 100 6 (.slice A4 (i + 1) c4) (i + 1) (filtAll (fs.take (i + 1)))) := ⟨(HB2.out.1.alloc HB2.out.1.size _).grown hgr1 (by simp; have := HB2.out.1.size; omega) (fun q hq => (HB2.out.2.lt q hq).1), by rw [HT.out]; exact hown1⟩; clear hown1 hgr1 hxx))
    go_roundg g
    case measure => omega
    case rel => exact ⟨i + 1, by go_num, by omega, HA.out.2, HA.out.1⟩

/-- What comes back of a cell that went through the package: the text of a number's cell is dropped. -/
def stripC (c : CellD) : CellD := if c.kind = 1 then ⟨1, ⟨#[]⟩, c.n⟩ else ⟨0, c.text, 0⟩
def cellCells (c : CellD) : List Value := [.int .i64 c.kind, .string c.text, .int .i64 c.n]
def cellAll (cs : List CellD) : List Value := cs.flatMap cellCells

theorem strip_num {c : CellD} (h : c.kind = 1) : cellCells (stripC c) = [.int .i64 1, .string ⟨#[]⟩, .int .i64 c.n] := by unfold stripC; rw [if_pos h]; rfl
theorem strip_text {c : CellD} (h : ¬ c.kind = 1) : cellCells (stripC c) = [.int .i64 0, .string c.text, .int .i64 0] := by unfold stripC; rw [if_neg h]; rfl

theorem cell_snoc {cs : List CellD} {i : Nat} (h : i < cs.length) : cellAll ((cs.take (i + 1)).map stripC) = cellAll ((cs.take i).map stripC) ++ cellCells (stripC (cAt cs i)) := by
 rw [take_snoc_map stripC h]
 unfold cellAll
 rw [List.flatMap_append]
 simp

/-- Values lie in a row. -/
def ValsAt (w : World) (A : Option Addr) (vs : List Value) : Prop := vs = [] ∨ ∃ b o, A = some ⟨b, o, none⟩ ∧ b < w.heap.size ∧ ∀ i, i < vs.length → w.cell? ⟨b, o + i, none⟩ = some (vs.getD i .nilIface)

theorem ValsAt.below {w w' : World} {A : Option Addr} {vs : List Value} (h : ValsAt w A vs) (hb : Below w.heap.size w w') : ValsAt w' A vs := by
 rcases h with h | ⟨b, o, h1, h2, h3⟩
 ·exact Or.inl h
 ·exact Or.inr ⟨b, o, h1, Nat.lt_of_lt_of_le h2 hb.size, fun i hi => by rw [hb.cell (p := ⟨b, o + i, none⟩) h2]; exact h3 i hi⟩

theorem map_at {cs : List CellD} {i : Nat} (h : i < cs.length) : (cs.map valI).getD i .nilIface = valI (cAt cs i) := by
 unfold cAt
 rw [List.getD_eq_getElem?_getD, List.getElem?_map, List.getElem?_eq_getElem h, List.getD_eq_getElem?_getD, List.getElem?_eq_getElem h]
 rfl

set_option maxHeartbeats 1600000 in
set_option maxRecDepth 100000 in
theorem impl_uncells (w : World) (A : Option Addr) (cap : Nat) (cs : List CellD) (h : ValsAt w A (cs.map valI)) (hl : cs.length ≤ 2147483647) :
  Calls Tryz.prog 24 #[.slice A cs.length cap] w (OwnOut 29 3 cs.length (cellAll (cs.map stripC)) w) := by
 obtain ⟨i0, hi, hz0, hz1, hz2⟩ := info_parts info29
 have HI := Lib.hid hi
 have HZ0 := Lib.hid hz0
 have HZ1 := Lib.hid hz1
 have HZ2 := Lib.hid hz2
 clear hi hz0 hz1 hz2
 have H := Lib.hid h
 clear h
 go_enter Tryz.func24, Tryz.ntmps24
 go_wp2_with fail
 go_loopg [3, 13] cs.length (fun g s3 s13 wx => ∃ i : Nat, s13 = .int .i64 i ∧ i + g = cs.length ∧ wx.ownsRow w.heap.size 29 3 s3 i (cellAll ((cs.take i).map stripC)) ∧ Below w.heap.size w wx)
 case atStart => exact ⟨0, rfl, by omega, World.ownsRow_made w #[] 0 (Nat.le_refl _) (by decide) rfl, (Below.refl _ _).alloc (Nat.le_refl _) _⟩
 case round =>
  obtain ⟨i, rfl, hig, hown, hb⟩ := hrel
  obtain ⟨A3, c3, rfl⟩ := own_form hown
  have HB := Lib.hid (And.intro hb hown)
  cases gk with
  | zero =>
   have hi : ¬ ((i : Int) < (cs.length : Int)) := by omega
   clear hb hown
   go_wp2_with fail
   go_ret
   obtain ⟨q1, q2⟩ := HB.out
   rw [show i = cs.length by omega] at q2 ⊢
   rw [List.take_of_length_le (Nat.le_refl _)] at q2
   exact ⟨_, rfl, q2, q1⟩
  | succ g =>
   have hi : (i : Int) < (cs.length : Int) := by omega
   rcases H.out with h | ⟨b, o, rfl, h2, h3⟩
   ·exfalso
    have h0 := congrArg List.length h
    rw [List.length_map] at h0
    have h1 : cs.length = 0 := h0
    omega
   ·have c0 := (hb.cell (p := ⟨b, o + i, none⟩) h2).trans (h3 i (by rw [List.length_map]; omega))
    rw [map_at (by omega)] at c0
    have HT : Hid (cellAll ((cs.take (i + 1)).map stripC) = cellAll ((cs.take i).map stripC) ++ cellCells (stripC (cAt cs i))) := cell_snoc (by omega)
    unfold valI at c0
    generalize cAt cs i = c at *
    clear hb hown h3
    by_cases hk : c.kind = 1
    ·rw [if_pos hk] at c0
     rw [strip_num hk] at HT
     have a2 := ta33 (.int .i64 c.n)
     obtain ⟨ck, ct, cn⟩ := c
     dsimp only at c0 HT a2
     clear hk
     go_wp2_with (at_builtin; refine wpList_append_own _ rfl _ _ 27 rfl w.heap.size 29 i0 (.agg #[.int .i64 0, .string ⟨#[]⟩, .int .i64 0]) 3 32 Tryz.underlying27 HI.out HZ0.out HZ1.out HZ2.out rfl (by decide) _ _ _ rfl (HB.out.2.alloc _) ⟨wr.heap.size, 0, none⟩ 1 1 [.int .i64 1, .string ⟨#[]⟩, .int .i64 cn] rfl rfl (cells_new _ _ _) (by intro u hu; simp only [List.mem_cons, List.mem_nil_iff, or_false] at hu; rcases hu with rfl | rfl | rfl <;> rfl) (by unfold maxLen; omega) (by omega) (by simp; have := HB.out.1.size; omega) ?_; intro v' w2 hown1 hgr1 hxx; obtain ⟨A4, c4, rfl⟩ := own_form hown1; have HA : Hid (Below w.heap.size w w2 ∧ w2.ownsRow w.heap.size 29 3 (.slice A4 (i + 1) c4) (i + 1) (cellAll ((cs.take (i + 1)).map stripC))) := ⟨(HB.out.1.alloc HB.out.1.size _).grown hgr1 (by simp; have := HB.out.1.size; omega) (fun q hq => (HB.out.2.lt q hq).1), by rw [HT.out]; exact hown1⟩; clear hown1 hgr1 hxx)
     go_roundg g
     case measure => omega
     case rel => exact ⟨i + 1, by go_num, by omega, HA.out.2, HA.out.1⟩
    ·rw [if_neg hk] at c0
     rw [strip_text hk] at HT
     have a2 := ta93 (.string c.text)
     have a3 := ta99 (.string c.text)
     obtain ⟨ck, ct, cn⟩ := c
     dsimp only at c0 HT a2 a3
     clear hk
     go_wp2_with (at_builtin; refine wpList_append_own _ rfl _ _ 27 rfl w.heap.size 29 i0 (.agg #[.int .i64 0, .string ⟨#[]⟩, .int .i64 0]) 3 32 Tryz.underlying27 HI.out HZ0.out HZ1.out HZ2.out rfl (by decide) _ _ _ rfl (HB.out.2.alloc _) ⟨wr.heap.size, 0, none⟩ 1 1 [.int .i64 0, .string ct, .int .i64 0] rfl rfl (cells_new _ _ _) (by intro u hu; simp only [List.mem_cons, List.mem_nil_iff, or_false] at hu; rcases hu with rfl | rfl | rfl <;> rfl) (by unfold maxLen; omega) (by omega) (by simp; have := HB.out.1.size; omega) ?_; intro v' w2 hown1 hgr1 hxx; obtain ⟨A4, c4, rfl⟩ := own_form hown1; have HA : Hid (Below w.heap.size w w2 ∧ w2.ownsRow w.heap.size 29 3 (.slice A4 (i + 1) c4) (i + 1) (cellAll ((cs.take (i + 1)).map stripC))) := ⟨(HB.out.1.alloc HB.out.1.size _).grown hgr1 (by simp; have := HB.out.1.size; omega) (fun q hq => (HB.out.2.lt q hq).1), by rw [HT.out]; exact hown1⟩; clear hown1 hgr1 hxx)
     go_roundg g
     case measure => omega
     case rel => exact ⟨i + 1, by go_num, by omega, HA.out.2, HA.out.1⟩

end Go.Proofs.YtgolhmiocjpohaaGreatDoor

namespace Go.Proofs.YtgolhmiocjpohaaGreatDoor
open Go.RowKit Go.PlainAid

/-- A world behind w: what was is as it was. -/
structure Later (w : World) where
 wd : World
 below : Below w.heap.size w wd
instance (w : World) : Nonempty (Later w) := ⟨⟨w, Below.refl _ _⟩⟩
theorem wp_region_later {P : Program} {id : Nat} {Q : Exit → Act → World → Prop} {a : Act} {w : World} {l : List Oper} (hm : P.follows .mixedOrders = true) (hB : Region.lexB .any l.toArray = true)
  (h : wpQuiet P l.toArray (fun w' => ∃ u : Later w, w' = u.wd) (fun a' => ∀ w', (∃ u : Later w, w' = u.wd) → Q .normal a' w') l a) : (Code.region id l.toArray true).wp P Q a w :=
 wp_region_quiet (C := fun w' => ∃ u : Later w, w' = u.wd) hm hB ⟨⟨{ w with drawn := w.drawn + 1 }, ⟨rfl, rfl, rfl, Nat.le_refl _, fun _ _ => rfl⟩⟩, rfl⟩ (by simpa using h)
theorem Later.call {P : Program} {f : FuncId} {args : Array Value} {w : World} {u : Later w} {v : Value} (hc : Calls P f args u.wd fun e w' => e = .returned v ∧ Below u.wd.heap.size u.wd w') : Calls P f args u.wd fun e w' => e = .returned v ∧ ∃ u : Later w, w' = u.wd :=
 hc.mono fun e w' ⟨he, hb⟩ => ⟨he, ⟨w', u.below.trans (hb.mono u.below.size)⟩, rfl⟩

end Go.Proofs.YtgolhmiocjpohaaGreatDoor

namespace Go.Proofs.YtgolhmiocjpohaaGreatDoor
open Go.RowKit Go.PlainAid

def AlikeCell (x y : CellD) : Prop := x.kind = y.kind ∧ saidOf x = saidOf y

set_option maxHeartbeats 1600000 in
set_option maxRecDepth 100000 in
theorem same_rows (w : World) (A B : Option Addr) (ca cb : Nat) (xs ys : List (List CellD)) (hx : GridAt w A xs) (hy : GridAt w B ys) (hxl : xs.length ≤ 2147483647) (hl : xs.length = ys.length)
  (hr : ∀ i, i < xs.length → (rwAt xs i).length = (rwAt ys i).length ∧ (rwAt xs i).length ≤ 2147483647 ∧ ∀ j, j < (rwAt xs i).length → AlikeCell (cAt (rwAt xs i) j) (cAt (rwAt ys i) j) ∧ CellOkD (cAt (rwAt xs i) j) ∧ CellOkD (cAt (rwAt ys i) j)) :
  Calls Tryz.prog 9 #[.slice A xs.length ca, .slice B ys.length cb] w (BoolOut true w) := by
 have HX := Lib.hid hx
 have HY := Lib.hid hy
 have HR := Lib.hid hr
 have HL := Lib.hid hl
 rw [← hl]
 have K := Lib.hid (fun c w h => spec_said c w h)
 unfold cellV at K
 clear hx hy hr hl
 go_enter Tryz.func9, Tryz.ntmps9
 go_wp2_with fail
 go_loopg [5, 6] xs.length (fun g s5 s6 wx => ∃ i : Nat, s5 = .int .i64 i ∧ i + g = xs.length ∧ Below w.heap.size w wx)
 case atStart => exact ⟨0, rfl, by omega, Below.refl _ _⟩
 case round =>
  obtain ⟨i, rfl, hig, hb⟩ := hrel
  cases gk with
  | zero =>
   have hi : ¬ ((i : Int) < (xs.length : Int)) := by omega
   have HB := Lib.hid hb
   clear hb
   go_wp2_with fail
   go_ret
   exact ⟨rfl, HB.out⟩
  | succ g =>
   have hi : (i : Int) < (xs.length : Int) := by omega
   rcases HX.out with h | ⟨bx, ox, rfl, hx2, hx3⟩
   ·exfalso; rw [h] at hi; simp at hi; omega
   rcases HY.out with h | ⟨by', oy, rfl, hy2, hy3⟩
   ·exfalso; have := HL.out; rw [h] at this; simp at this; rw [this] at hi; simp at hi; omega
   obtain ⟨A1, c1, x0, x1⟩ := hx3 i (by omega)
   obtain ⟨A2, c2, y0, y1⟩ := hy3 i (by rw [← HL.out]; omega)
   have hyi : (i : Int) < (ys.length : Int) := by have := HL.out; omega
   obtain ⟨r1, r2, r3⟩ := HR.out i (by omega)
   rw [← r1] at y0
   have x0' := (hb.cell (p := ⟨bx, ox + i, none⟩) hx2).trans x0
   have y0' := (hb.cell (p := ⟨by', oy + i, none⟩) hy2).trans y0
   have x1b := x1
   have y1b := y1
   generalize rwAt xs i = X at *
   generalize rwAt ys i = Y at *
   have HX0 := Lib.hid x0
   have HY0 := Lib.hid y0
   have HC := Lib.hid (And.intro x1b (And.intro y1b (And.intro r3 r1)))
   have HB := Lib.hid hb
   clear x0 y0 x1 y1 hx3 hy3 x1b y1b r3 hb
   go_upto_region 6 with fail
   go_quiet (fail)
   go_wp2_with fail
   go_loopg [6] Y.length (fun g s6 wy => ∃ j : Nat, s6 = .int .i64 j ∧ j + g = Y.length ∧ Below w.heap.size w wy)
   case atStart => exact ⟨0, rfl, by omega, below_drewN HB.out nq⟩
   case round =>
    obtain ⟨j, rfl, hjg, hb⟩ := hrel
    have x0 := (hb.cell (p := ⟨bx, ox + i, none⟩) hx2).trans (HX0.out)
    have y0 := (hb.cell (p := ⟨by', oy + i, none⟩) hy2).trans (HY0.out)
    rw [HC.out.2.2.2] at x0 y0
    cases gk with
    | zero =>
     have hj : ¬ ((j : Int) < (Y.length : Int)) := by omega
     have HB2 := Lib.hid hb
     clear hb
     go_wp2_with fail
     go_roundg g
     case measure => omega
     case rel => exact ⟨i + 1, by go_num, by omega, HB2.out⟩
    | succ g2 =>
     have hj : (j : Int) < (Y.length : Int) := by omega
     have x1 := HC.out.1
     have y1 := HC.out.2.1
     obtain ⟨ha, hok1, hok2⟩ := HC.out.2.2.1 j (by omega)
     rcases x1 with h | ⟨b1, o1, rfl, z1, xx⟩
     ·exfalso; have h4 := HC.out.2.2.2; rw [h] at h4; simp at h4; omega
     rcases y1 with h | ⟨b2, o2, rfl, z2, yy⟩
     ·exfalso; rw [h] at hj; simp at hj; omega
     have xc := (xx j (by rw [HC.out.2.2.2]; omega)).below hb z1
     have yc := (yy j (by omega)).below hb z2
     have hk1 := Lib.hid hok1
     have KX := Lib.hid (fun w => K.out (cAt X j) w hok1)
     have KY := Lib.hid (fun w => K.out (cAt Y j) w hok2)
     obtain ⟨ha1, ha2⟩ := ha
     obtain ⟨xk, xt, xn⟩ := xc
     obtain ⟨yk, yt, yn⟩ := yc
     rw [ha1] at xk KX
     rw [← ha2] at KY
     generalize saidOf (cAt X j) = S at *
     clear ha1 ha2 xx yy hok1 hok2 hk1
     have hw2 := hb.size
     have F : Hid (∀ u : Later wr, u.wd.cell? ⟨bx, ox + i, none⟩ = some (.slice (some ⟨b1, o1, none⟩) Y.length c1) ∧ u.wd.cell? ⟨by', oy + i, none⟩ = some (.slice (some ⟨b2, o2, none⟩) Y.length c2) ∧
       u.wd.cell? ⟨b1, o1 + j * 3, none⟩ = some (.int .i64 (cAt Y j).kind) ∧ u.wd.cell? ⟨b1, o1 + j * 3 + 1, none⟩ = some (.string (cAt X j).text) ∧ u.wd.cell? ⟨b1, o1 + j * 3 + 2, none⟩ = some (.int .i64 (cAt X j).n) ∧
       u.wd.cell? ⟨b2, o2 + j * 3, none⟩ = some (.int .i64 (cAt Y j).kind) ∧ u.wd.cell? ⟨b2, o2 + j * 3 + 1, none⟩ = some (.string (cAt Y j).text) ∧ u.wd.cell? ⟨b2, o2 + j * 3 + 2, none⟩ = some (.int .i64 (cAt Y j).n)) := by
      intro u
      have hq := u.below
      refine ⟨?_, ?_, ?_, ?_, ?_, ?_, ?_, ?_⟩
      ·rw [Below.cell hq (p := ⟨bx, ox + i, none⟩) (Nat.lt_of_lt_of_le hx2 hw2)]; exact x0
      ·rw [Below.cell hq (p := ⟨by', oy + i, none⟩) (Nat.lt_of_lt_of_le hy2 hw2)]; exact y0
      ·rw [Below.cell hq (p := ⟨b1, o1 + j * 3, none⟩) (Nat.lt_of_lt_of_le z1 hw2)]; exact xk
      ·rw [Below.cell hq (p := ⟨b1, o1 + j * 3 + 1, none⟩) (Nat.lt_of_lt_of_le z1 hw2)]; exact xt
      ·rw [Below.cell hq (p := ⟨b1, o1 + j * 3 + 2, none⟩) (Nat.lt_of_lt_of_le z1 hw2)]; exact xn
      ·rw [Below.cell hq (p := ⟨b2, o2 + j * 3, none⟩) (Nat.lt_of_lt_of_le z2 hw2)]; exact yk
      ·rw [Below.cell hq (p := ⟨b2, o2 + j * 3 + 1, none⟩) (Nat.lt_of_lt_of_le z2 hw2)]; exact yt
      ·rw [Below.cell hq (p := ⟨b2, o2 + j * 3 + 2, none⟩) (Nat.lt_of_lt_of_le z2 hw2)]; exact yn
     have HB2 := Lib.hid hb
     clear hb xk xt xn yk yt yn
     generalize (cAt Y j).kind = ck at *
     generalize (cAt Y j).text = yt at *
     generalize (cAt Y j).n = yn at *
     generalize (cAt X j).text = xt at *
     generalize (cAt X j).n = xn at *
     go_upto_region 11 with fail
     have q0 := fun u => (F.out u).1
     have q1 := fun u => (F.out u).2.1
     have q2 := fun u => (F.out u).2.2.1
     have q3 := fun u => (F.out u).2.2.2.1
     have q4 := fun u => (F.out u).2.2.2.2.1
     have q5 := fun u => (F.out u).2.2.2.2.2.1
     have q6 := fun u => (F.out u).2.2.2.2.2.2.1
     have q7 := fun u => (F.out u).2.2.2.2.2.2.2
     have KXL : Hid (∀ u : Later wr, Calls Tryz.prog 26 #[.agg #[.int .i64 ck, .string xt, .int .i64 xn]] u.wd fun e w' => e = .returned (.string S) ∧ ∃ u : Later wr, w' = u.wd) := fun u => Later.call (KX.out u.wd)
     have KYL : Hid (∀ u : Later wr, Calls Tryz.prog 26 #[.agg #[.int .i64 ck, .string yt, .int .i64 yn]] u.wd fun e w' => e = .returned (.string S) ∧ ∃ u : Later wr, w' = u.wd) := fun u => Later.call (KY.out u.wd)
     refine wp_region_later (by kernel_rfl) (by kernel_rfl) ?_
     repeat (go_big_quiet_step (first | with_reducible exact KXL.out _ | with_reducible exact KYL.out _))
     refine wpQuiet_nil ?_
     intro w3 hw3
     obtain ⟨⟨w4, hb4⟩, hw4⟩ := hw3
     have hw5 : w3 = w4 := hw4
     subst hw5
     have HB3 := Lib.hid (HB2.out.trans (hb4.mono HB2.out.size))
     clear hb4 hw4 q0 q1 q2 q3 q4 q5 q6 q7
     go_wp2_with fail
     go_roundg g2
     case measure => omega
     case rel => exact ⟨j + 1, by go_num, by omega, HB3.out⟩

set_option maxHeartbeats 800000 in
set_option maxRecDepth 100000 in
theorem same_ints (w : World) (A B : Option Addr) (ca cb : Nat) (ns : List Int) (hx : NumsAt w A ns) (hy : NumsAt w B ns) (hl : ns.length ≤ 2147483647) :
  Calls Tryz.prog 10 #[.slice A ns.length ca, .slice B ns.length cb] w (BoolOut true w) := by
 have HX := Lib.hid hx
 have HY := Lib.hid hy
 clear hx hy
 go_enter Tryz.func10, Tryz.ntmps10
 go_wp2_with fail
 go_loopg [5] ns.length (fun g s5 wx => ∃ i : Nat, s5 = .int .i64 i ∧ i + g = ns.length ∧ Below w.heap.size w wx)
 case atStart => exact ⟨0, rfl, by omega, Below.refl _ _⟩
 case round =>
  obtain ⟨i, rfl, hig, hb⟩ := hrel
  have HB := Lib.hid hb
  cases gk with
  | zero =>
   have hi : ¬ ((i : Int) < (ns.length : Int)) := by omega
   clear hb
   go_wp2_with fail
   go_ret
   exact ⟨rfl, HB.out⟩
  | succ g =>
   have hi : (i : Int) < (ns.length : Int) := by omega
   rcases HX.out with h | ⟨bx, ox, rfl, hx2, hx3⟩
   ·exfalso; rw [h] at hi; simp at hi; omega
   rcases HY.out with h | ⟨by', oy, rfl, hy2, hy3⟩
   ·exfalso; rw [h] at hi; simp at hi; omega
   have x0 := (hb.cell (p := ⟨bx, ox + i, none⟩) hx2).trans (hx3 i (by omega))
   have y0 := (hb.cell (p := ⟨by', oy + i, none⟩) hy2).trans (hy3 i (by omega))
   generalize ns.getD i 0 = v at *
   clear hx3 hy3 hb
   go_upto_region 6 with fail
   go_quiet (fail)
   go_wp2_with fail
   go_roundg g
   case measure => omega
   case rel => exact ⟨i + 1, by go_num, by omega, below_drewN HB.out nq⟩

end Go.Proofs.YtgolhmiocjpohaaGreatDoor

namespace Go.Proofs.YtgolhmiocjpohaaGreatDoor
open Go.RowKit Go.PlainAid

set_option maxHeartbeats 1600000 in
set_option maxRecDepth 100000 in
theorem std_prefix_any (s : ByteArray) (w : World) (K : Calls Tryz.prog 131 #[.string s] w (AtofIs s w)) : Calls Tryz.prog 93 #[.string s, .int .i64 64] w (AtofIs s w) := by
 have K1 := Lib.hid K
 clear K
 go_enter Tryz.func93, Tryz.ntmps93
 go_wp2_with (go_at_call 131; (with_reducible refine K1.out.mono ?_); rintro e w1 ⟨x, n, v, rfl, hv, hb⟩; have HV := Lib.hid (And.intro hv hb); clear hv hb)
 go_ret3
 exact ⟨_, _, _, rfl, HV.out.1, HV.out.2⟩

/-- A post of the library's inner ParseFloat. -/
def InnerIs (s : ByteArray) (w : World) (e : Ending) (w' : World) : Prop :=
 ∃ (x : Nat) (v : Value), e = .returned (.tuple #[.float .f64 x, v]) ∧ ((v = .nilIface ∧ fltOf s = some x) ∨ (fltOf s = none ∧ (v = .iface 180 (.int .i64 1) ∨ v = .iface 180 (.int .i64 2)))) ∧ Below w.heap.size w w'

set_option maxHeartbeats 1600000 in
set_option maxRecDepth 100000 in
theorem std_inner_any (s : ByteArray) (w : World) (K : Calls Tryz.prog 131 #[.string s] w (AtofIs s w)) : Calls Tryz.prog 74 #[.string s, .int .i64 64] w (InnerIs s w) := by
 have K1 := Lib.hid (std_prefix_any s w K)
 clear K
 go_enter Tryz.func74, Tryz.ntmps74
 go_wp2_with (go_at_call 93; (with_reducible refine K1.out.mono ?_); rintro e w1 ⟨x, n, v, rfl, hv, hb⟩; have HV := Lib.hid (And.intro hv hb); clear hv hb)
 all_goals
  go_ret2
  obtain ⟨hv, hb⟩ := HV.out
  first
   | (refine ⟨_, _, rfl, ?_, hb⟩
      rcases hv with ⟨h1, h2, h3⟩ | ⟨h1, h2⟩
      ·exfalso; simp_all; done
      ·exact Or.inr ⟨h1, Or.inr rfl⟩)
   | (refine ⟨_, _, rfl, ?_, hb⟩
      rcases hv with ⟨h1, h2, h3⟩ | ⟨h1, ⟨_, h2⟩ | h2⟩
      ·exact Or.inl ⟨h1, h3⟩
      ·exfalso; simp_all; done
      ·exact Or.inr ⟨h1, h2⟩)

set_option maxHeartbeats 1600000 in
set_option maxRecDepth 100000 in
theorem std_range (a s : ByteArray) (w : World) (B : Nat) (hs : s.size ≤ 2147483647) (hE : Env B w) : Calls Tryz.prog 95 #[.string a, .string s] w fun e w' => (∃ p, e = .returned (.pointer p)) ∧ Below w.heap.size w w' := by
 obtain ⟨t, x, hx⟩ := hE.er
 have hz := hE.glob.sz
 have C : ∀ wx, wx.heap = w.heap → Hid (Calls Tryz.prog 132 #[.string s] wx fun e w' => e = .returned (.string s) ∧ Below wx.heap.size wx w') := fun wx _ => std_clone s wx (by omega)
 have h6 : ∀ wx w', wx.heap = w.heap → Below wx.heap.size wx w' → w'.cell? ⟨7, 0, none⟩ = some (.iface t x) := fun wx w' e hb => by
  rw [hb.cell (p := ⟨7, 0, none⟩) (by rw [e]; show 7 < _; omega), cell_heap_eq e]; exact hx
 clear hE
 go_enter Tryz.func95, Tryz.ntmps95
 go_wp2_with fail
 go_region_with (go_at_call 132; refine (C w.drew rfl).out.mono ?_; rintro e w2 ⟨rfl, hb2⟩; have h6' := h6 w.drew w2 rfl hb2; have HB2 := Lib.hid hb2; clear hb2)
 all_goals
  go_wp2_with fail
  go_ret
  exact ⟨⟨_, rfl⟩, ((Below.refl _ _).drew.trans HB2.out).alloc (((Below.refl _ _).drew.trans HB2.out).size) _⟩

theorem err_eql12 (W : World) : (binOp .eql 127 (.iface 180 (.int .i64 1)) (.iface 180 (.int .i64 2))).run Tryz.prog W = .ok (.bool false) W :=
 Lib.run_eql_iface_int W 1 2 Tryz.underlying127 comp180 Tryz.underlying180
theorem err_eql11 (W : World) : (binOp .eql 127 (.iface 180 (.int .i64 1)) (.iface 180 (.int .i64 1))).run Tryz.prog W = .ok (.bool true) W :=
 Lib.run_eql_iface_int W 1 1 Tryz.underlying127 comp180 Tryz.underlying180

set_option maxHeartbeats 1600000 in
set_option maxRecDepth 100000 in
theorem std_toError1 (a s : ByteArray) (b c : Int) (w : World) (B : Nat) (hs : s.size ≤ 2147483647) (hE : Env B w) :
  Calls Tryz.prog 75 #[.string a, .string s, .int .i64 b, .int .i64 c, .iface 180 (.int .i64 1)] w fun e w' => (∃ t v, e = .returned (.iface t v)) ∧ Below w.heap.size w w' := by
 have K := Lib.hid (std_range a s w B hs hE)
 have heq := err_eql12
 have heq2 := err_eql11
 clear hE
 go_enter Tryz.func75, Tryz.ntmps75
 go_wp2_with (go_at_call 95; (with_reducible refine K.out.mono ?_); rintro e w1 ⟨⟨p, rfl⟩, hb⟩; have HB := Lib.hid hb; clear hb)
 go_ret
 exact ⟨⟨_, _, rfl⟩, HB.out⟩

set_option maxHeartbeats 1600000 in
set_option maxRecDepth 100000 in
theorem std_float (s : ByteArray) (w : World) (B : Nat) (hs : s.size ≤ 400) (hE : Env B w) : Calls Tryz.prog 59 #[.string s, .int .i64 64] w (NumIs (fltOf s) w) := by
 have K := std_inner_any s w (atof_any s w B hs hE)
 cases hf : fltOf s with
 | some x =>
  have K1 : Hid (Calls Tryz.prog 74 #[.string s, .int .i64 64] w fun e w' => e = .returned (.tuple #[.float .f64 x, .nilIface]) ∧ Below w.heap.size w w') := K.mono fun e w' ⟨y, v, he, hv, hb⟩ => by
   rcases hv with ⟨h1, h2⟩ | ⟨h1, _⟩
   ·rw [hf] at h2
    simp only [Option.some.injEq] at h2
    subst h2
    subst h1
    exact ⟨he, hb⟩
   ·rw [hf] at h1; simp at h1
  clear K hf hE
  go_enter Tryz.func59, Tryz.ntmps59
  go_wp2_with (go_at_call 74; (with_reducible refine K1.out.mono ?_); rintro e w1 ⟨rfl, hb⟩; have HB := Lib.hid hb; clear hb)
  go_ret2
  exact ⟨rfl, HB.out⟩
 | none =>
  have K1 : Hid (Calls Tryz.prog 74 #[.string s, .int .i64 64] w fun e w' => (∃ (y : Nat) (c : Int), e = .returned (.tuple #[.float .f64 y, .iface 180 (.int .i64 c)]) ∧ (c = 1 ∨ c = 2)) ∧ Below w.heap.size w w') := K.mono fun e w' ⟨y, v, he, hv, hb⟩ => by
   rcases hv with ⟨h1, h2⟩ | ⟨h1, h2 | h2⟩
   ·rw [hf] at h2; simp at h2
   ·subst h2; exact ⟨⟨y, 1, he, Or.inl rfl⟩, hb⟩
   ·subst h2; exact ⟨⟨y, 2, he, Or.inr rfl⟩, hb⟩
  have K2 : Hid (∀ (w1 : World) (a : ByteArray) (b d c : Int), Below w.heap.size w w1 → (c = 1 ∨ c = 2) → Calls Tryz.prog 75 #[.string a, .string s, .int .i64 b, .int .i64 d, .iface 180 (.int .i64 c)] w1 fun e w' => (∃ t v, e = .returned (.iface t v)) ∧ Below w1.heap.size w1 w') := fun w1 a b d c hb hc => by
   have hE1 := hE.below (hb.mono hE.le.2)
   rcases hc with rfl | rfl
   ·exact std_toError1 a s b d w1 B (by omega) hE1
   ·exact std_toError a s b d w1 (by omega) hE1.glob
  clear K hf hE
  go_enter Tryz.func59, Tryz.ntmps59
  go_wp2_with (first
   | (go_at_call 74; (with_reducible refine K1.out.mono ?_); rintro e w1 ⟨⟨y, c, rfl, hc⟩, hb⟩; have HB := Lib.hid hb; have HC := Lib.hid hc; clear hb hc)
   | (go_at_call 75; (with_reducible refine (K2.out _ _ _ _ _ HB.out HC.out).mono ?_); rintro e w2 ⟨⟨t, v, rfl⟩, hb⟩; have HB2 := Lib.hid hb; clear hb))
  go_ret2
  exact ⟨⟨_, _, _, rfl⟩, HB.out.trans (HB2.out.mono HB.out.size)⟩

end Go.Proofs.YtgolhmiocjpohaaGreatDoor
