/- A set of numbers as a map in memory (nil, too), and its laws. No condition. A separator is appended to the table (20). No condition beyond sizes. -/
import Derived.Maps.RangeWalk
import Derived.Maps.Ext
import Derived.Maps.OwnOps
import Derived.Laws.IdiomRangeMap
import Derived.Test.YtgolhmiocjpohaaGreatDoorPk0
import Derived.Test.YtgolhmiocjpohaaGreatDoorKi5
set_option linter.unusedVariables false
set_option linter.unusedSimpArgs false
namespace Go.Proofs.YtgolhmiocjpohaaGreatDoor
open Go.RowKit Go.PlainAid

theorem lawM : Maps.Keyed Tryz.prog 3 := Maps.int_keyed Tryz.underlying3
theorem zeroM (w : World) : (zeroValue 4).run Tryz.prog w = .ok (.bool false) w := by kernel_rfl

set_option maxRecDepth 100000 in
theorem bel_inv {v : Value} {z : DataW Unit × List MemPlace} (h : plainElem Tryz.prog 4 v = some z) : ∃ x, v = .bool x ∧ z = (.lit (.bool x), []) := by
 unfold plainElem at h
 rw [Tryz.underlying4] at h
 cases v <;> simp at h
 exact ⟨_, rfl, h.symm⟩

def MapIs (w : World) (base : Nat) (m : Value) (n : Nat) (D : DataW Unit) : Prop :=
 (m = .map none ∧ D = .map []) ∨ ∃ b, m = .map (some b) ∧ base ≤ b ∧ w.ownsMap Tryz.prog 3 (plainElem Tryz.prog 4) b n D

variable {w w' : World} {base n r cnt : Nat} {m : Value} {D : DataW Unit} {left : Lit → Bool}

theorem MapIs.block (h : MapIs w base m n D) (hk : ∀ b, m = .map (some b) → b < w.heap.size → w'.heap[b]? = w.heap[b]?) : MapIs w' base m n D := by
 rcases h with h | ⟨b, hm, hb, h⟩
 ·exact Or.inl h
 ·refine Or.inr ⟨b, hm, hb, ?_⟩
  have hlt := h.lt
  obtain ⟨es, clock, he, r⟩ := h
  exact ⟨es, clock, (hk b hm hlt).trans he, r⟩

theorem MapIs.obj (h : MapIs w base m n D) : ∀ b, m = .map (some b) → base ≤ b ∧ ∃ es clock, w.heap[b]? = some (.map es clock) := by
 rcases h with ⟨h, _⟩ | ⟨b, hm, hb, es, clock, he, _⟩
 ·intro b hb; rw [h] at hb; cases hb
 ·intro b' hb'; rw [hm] at hb'; cases hb'; exact ⟨hb, es, clock, he⟩

theorem MapIs.canon (h : MapIs w base m n D) : Maps.Canon D := by
 rcases h with ⟨_, rfl⟩ | ⟨b, hm, hb, h⟩
 ·exact Maps.canon_empty
 ·exact h.canon lawM

theorem MapIs.size_le (h : MapIs w base m n D) : Maps.size D ≤ n := by
 rcases h with ⟨_, rfl⟩ | ⟨b, hm, hb, h⟩
 ·exact Nat.zero_le _
 ·exact h.size_le

theorem MapIs.look (h : MapIs w base m n D) {i : Int} (hw : (Lit.int .i64 i).wf = true) : ∃ x, (Instr.lookup 66 m (.int .i64 i) false).run Tryz.prog w = .ok (.bool x) w ∧ D.atKey (.int .i64 i) (.lit (.bool false)) = .lit (.bool x) := by
 rcases h with ⟨rfl, rfl⟩ | ⟨b, rfl, hb, h⟩
 ·exact ⟨false, Maps.look_nil false lawM Tryz.underlying66 (zeroM w) (Maps.keyOf_int_mk Tryz.underlying3 hw), rfl⟩
 ·obtain ⟨v, ps, hrun, hv⟩ := h.lookup lawM Tryz.underlying66 (zeroM w) (plainElem_bool Tryz.underlying4 false) (Maps.keyOf_int_mk Tryz.underlying3 hw)
  obtain ⟨x, rfl, hx⟩ := bel_inv hv
  simp only [Prod.mk.injEq] at hx
  exact ⟨x, hrun, hx.1⟩

/-- A loop over it under way. -/
def RangesM (w : World) (base : Nat) (m : Value) (r n : Nat) (D : DataW Unit) (left : Lit → Bool) (cnt : Nat) : Prop :=
 (m = .map none ∧ D = .map [] ∧ (∀ k, left k = false) ∧ cnt = 0 ∧ ∃ s seen c, w.heap[r]? = some (.mapIter none s seen c)) ∨ ∃ b, m = .map (some b) ∧ base ≤ b ∧ w.ranges Tryz.prog 3 (plainElem Tryz.prog 4) b r n D left cnt

def leftM (w : World) (m : Value) (r : Nat) : Nat := match m with | .map (some b) => w.rangeLeft b r | _ => 0

theorem RangesM.left_eq (h : RangesM w base m r n D left cnt) : leftM w m r = cnt := by
 rcases h with ⟨rfl, _, _, rfl, _⟩ | ⟨b, rfl, _, h⟩
 ·rfl
 ·exact h.left_eq

theorem RangesM.iter (h : RangesM w base m r n D left cnt) : ∃ b s seen c, w.heap[r]? = some (.mapIter b s seen c) := by
 rcases h with ⟨_, _, _, _, s, seen, c, h⟩ | ⟨b, rfl, hb, es, clock, since, seen, c0, _, _, _, _, h, _⟩
 ·exact ⟨_, _, _, _, h⟩
 ·exact ⟨_, _, _, _, h⟩

theorem RangesM.lt (h : RangesM w base m r n D left cnt) : r < w.heap.size := by
 obtain ⟨_, _, _, _, h⟩ := h.iter
 exact (Array.getElem?_eq_some_iff.1 h).1

theorem RangesM.block (h : RangesM w base m r n D left cnt) (hr : w'.heap[r]? = w.heap[r]?) (hk : ∀ b, m = .map (some b) → b < w.heap.size → w'.heap[b]? = w.heap[b]?) : RangesM w' base m r n D left cnt := by
 rcases h with ⟨h1, h2, h3, h4, s, seen, c, h5⟩ | ⟨b, hm, hb, h⟩
 ·exact Or.inl ⟨h1, h2, h3, h4, s, seen, c, hr.trans h5⟩
 ·refine Or.inr ⟨b, hm, hb, ?_⟩
  have h1 := h.owns.lt
  obtain ⟨es, clock, since, seen, c0, hb1, F, hs, hD, hr1, rest⟩ := h
  exact ⟨es, clock, since, seen, c0, (hk b hm h1).trans hb1, F, hs, hD, hr.trans hr1, rest⟩

theorem run_next_nil {s c : Nat} {seen : Array Nat} (h : w.heap[r]? = some (.mapIter none s seen c)) (ty : TypeId) : (Instr.next (.pointer (some ⟨r, 0, none⟩)) false ty).run Tryz.prog w = .ok (.tuple #[.bool false]) w := by
 simp only [Instr.next, getObj, Sem.run_bind, Sem.run, h, Result.andThen]
 rfl

section
variable (w : World) {ops : Array Oper} {rest : List Oper} {o : Oper} {a : Act} {Q : Exit → Act → World → Prop}

theorem wpList_range_m (hg : o.guard = none) (mo : Operand) (hop : o.op = Op.range 66 mo) (base : Nat) (m : Value) (n : Nat) (D : DataW Unit) (hm : a.eval mo = m) (h : MapIs w base m n D)
  (hK : ∀ w', RangesM w' base m w.heap.size n D (Maps.has D) (Maps.size D) → w.grownBy w' none → w'.heap.size = w.heap.size + 1 → wpList Tryz.prog ops Q rest (a.put o.dst (.pointer (some ⟨w.heap.size, 0, none⟩))) w') :
  wpList Tryz.prog ops Q (o :: rest) a w := by
 rcases h with ⟨rfl, rfl⟩ | ⟨b, rfl, hb, h⟩
 ·refine wpList_plain hg fun K' hK' => ?_
  unfold Oper.wp
  simp [execOp, hop, hm, run_range_nilMap w 66 3 4 Tryz.underlying66, Result.andThen]
  exact hK' _ _ (hK _ (Or.inl ⟨rfl, rfl, fun _ => rfl, rfl, 0, #[], 0, heap_alloc_new w _⟩) (World.grownBy_alloc w _ none) (by simp))
 ·exact wpList_range_own w hg mo 66 hop 3 4 lawM Tryz.underlying66 _ b n D hm h fun w' h1 h2 h3 => hK w' (Or.inr ⟨b, rfl, hb, h1⟩) h2 h3

theorem wpList_next_m (hg : o.guard = none) (it : Operand) (hop : o.op = Op.next it false) (base : Nat) (m : Value) (r n : Nat) (D : DataW Unit) (left : Lit → Bool) (cnt : Nat) (hit : a.eval it = .pointer (some ⟨r, 0, none⟩)) (h : RangesM w base m r n D left cnt)
  (hDone : cnt = 0 → (∀ kl, left kl = false) → wpList Tryz.prog ops Q rest (a.put o.dst (.tuple #[.bool false])) w)
  (hMore : ∀ (x : Int) (c : Bool) (w' : World) (cnt' : Nat), (Lit.int .i64 x).wf = true → (∀ zd, D.atKey (.int .i64 x) zd = .lit (.bool c)) → RangesM w' base m r n D (fun z => left z && !z.sameKey (.int .i64 x)) cnt' → cnt' < cnt →
   w.grownBy w' (some r) → w'.heap.size = w.heap.size → (Instr.entry (.pointer (some ⟨r, 0, none⟩))).run Tryz.prog w' = .ok (.tuple #[.int .i64 x, .bool c]) w' → wpList Tryz.prog ops Q rest (a.put o.dst (.tuple #[.bool true, .int .i64 x, .bool c])) w') :
  wpList Tryz.prog ops Q (o :: rest) a w := by
 rcases h with ⟨h1, h2, h3, h4, s, seen, c, h5⟩ | ⟨b, hm, hb, h⟩
 ·refine wpList_plain hg fun K' hK' => ?_
  unfold Oper.wp
  simp [execOp, hop, hit, run_next_nil h5, Result.andThen]
  exact hK' _ _ (hDone h4 h3)
 ·exact wpList_next_ranges w hg it hop 3 lawM (plainElem Tryz.prog 4) (Value.int .i64) Value.bool (fun key kl hkey => by obtain ⟨x, rfl, _⟩ := Maps.keyOf_int_inv Tryz.underlying3 hkey; exact ⟨x, rfl⟩) (fun v y hv => by obtain ⟨c, rfl, _⟩ := bel_inv hv; exact ⟨c, rfl⟩)
   b r n D left cnt hit h hDone (fun x c kl y w' cnt' hkey hlk hv hat hrg hlt hgr hsz hen => by
    obtain ⟨x', ex, rfl, hwx⟩ := Maps.keyOf_int_inv Tryz.underlying3 hkey
    cases ex
    obtain ⟨c', ec, rfl⟩ := bel_inv hv
    cases ec
    exact hMore x c w' cnt' hwx hat (Or.inr ⟨b, hm, hb, hrg⟩) hlt hgr hsz hen)

theorem wpList_mapUpdate_m (hg : o.guard = none) (mo x v : Operand) (hop : o.op = Op.mapUpdate 66 mo x v) (b n : Nat) (D : DataW Unit) (hm : a.eval mo = .map (some b)) (hown : w.ownsMap Tryz.prog 3 (plainElem Tryz.prog 4) b n D) (hn : n < 1000000)
  (i : Int) (c : Bool) (hx : a.eval x = .int .i64 i) (hv : a.eval v = .bool c) (hw : (Lit.int .i64 i).wf = true)
  (hK : ∀ w', w'.ownsMap Tryz.prog 3 (plainElem Tryz.prog 4) b (n + 1) (D.put (.int .i64 i) (.lit (.bool c))) → w.grownBy w' (some b) → wpList Tryz.prog ops Q rest (a.put o.dst undef) w') :
  wpList Tryz.prog ops Q (o :: rest) a w :=
 wpList_mapUpdate_own w hg mo x v 66 hop 3 4 lawM Tryz.underlying66 _ b n D hm hown (by unfold maxLen; omega) _ _ _ hx hv (Maps.keyOf_int_mk Tryz.underlying3 hw) _ [] (plainElem_bool Tryz.underlying4 c) hK
end

/-- The numbers at which it holds 'true'. -/
def Marks (D : DataW Unit) (S : Nat → Bool) : Prop := ∀ i : Nat, D.atKey (.int .i64 i) (.lit (.bool false)) = .lit (.bool (S i))

theorem Marks.start : Marks (.map []) fun _ => false := fun _ => rfl
theorem Marks.put {S : Nat → Bool} (h : Marks D S) (hD : Maps.IsMap D) (k : Nat) : Marks (D.put (.int .i64 k) (.lit (.bool true))) fun i => S i || i == k := by
 intro i
 by_cases e : i = k
 ·subst e
  rw [Maps.atKey_put_same hD (show WideAt.IsKeyLit (.int .i64 (i : Int)) from trivial)]
  simp
 ·rw [Maps.atKey_put_other (by intro h1; simp at h1; exact e (by omega)), h i]
  simp [e]
theorem Marks.empty {S : Nat → Bool} (h : Marks D S) (hD : Maps.Canon D) (h0 : Maps.size D = 0) (i : Nat) : S i = false := by
 obtain ⟨es, rfl, _⟩ := hD
 have : es = [] := List.eq_nil_of_length_eq_zero h0
 subst this
 have := h i
 simpa [DataW.atKey] using this.symm
end Go.Proofs.YtgolhmiocjpohaaGreatDoor

namespace Go.Proofs.YtgolhmiocjpohaaGreatDoor
open Go.RowKit Go.PlainAid

theorem map_put {w : World} {b n : Nat} {D : DataW Unit} (hown : w.ownsMap Tryz.prog 3 (plainElem Tryz.prog 4) b n D) (hn : n < 1000000) (i : Int) (hw : (Lit.int .i64 i).wf = true) (c : Bool) :
  ∃ w', (Instr.mapUpdate 66 (.map (some b)) (.int .i64 i) (.bool c)).run Tryz.prog w.drew = .ok () w' ∧ w'.ownsMap Tryz.prog 3 (plainElem Tryz.prog 4) b (n + 1) (D.put (.int .i64 i) (.lit (.bool c))) ∧ w.grownBy w' (some b) := by
 have hown2 : w.drew.ownsMap Tryz.prog 3 (plainElem Tryz.prog 4) b n D := hown
 obtain ⟨w', hrun, r1, r2⟩ := hown2.update lawM Tryz.underlying66 (by unfold maxLen; omega) (Maps.keyOf_int_mk Tryz.underlying3 hw) (plainElem_bool Tryz.underlying4 c)
 exact ⟨w', hrun, r1, r2.os, r2.tape, r2.output, r2.size, r2.block⟩

theorem eql_map_none (w : World) : (binOp BinOp.eql 66 (.map none) (.map none)).run Tryz.prog w = .ok (.bool true) w := by kernel_rfl
theorem eql_map_some (w : World) (b : Nat) : (binOp BinOp.eql 66 (.map (some b)) (.map none)).run Tryz.prog w = .ok (.bool false) w := by kernel_rfl
theorem wf_small {k : Nat} (h : k ≤ 2147483647) : (Lit.int .i64 (k : Int)).wf = true := by
 have e1 : IntKind.i64.min = -9223372036854775808 := by decide
 have e2 : IntKind.i64.max = 9223372036854775807 := by decide
 simp [Lit.wf]
 omega

/-- A separator has been appended behind the last row. -/
def AppSep (tb base : Nat) (c a b m f : Value) (nn k : Nat) (D : DataW Unit) (w : World) (e : Ending) (w' : World) : Prop :=
 e = .returned (.tuple #[]) ∧ ∃ m', TbAt w' tb c a b m' f ∧ MapIs w' base m' (nn + 1) (D.put (.int .i64 (k : Nat)) (.lit (.bool true))) ∧ Fr (fun j => j = tb ∨ m = .map (some j)) w w' ∧ ∀ j, m' = .map (some j) → j < w.heap.size → m = .map (some j)

set_option maxHeartbeats 1600000 in
set_option maxRecDepth 100000 in
theorem append_sep (w : World) (tb base : Nat) (c a m f : Value) (B : Option Addr) (k cb nn : Nat) (D : DataW Unit) (ht : TbAt w tb c a (.slice B (k + 1) cb) m f) (hm : MapIs w base m nn D) (hk : k ≤ 60) (hn : nn < 1000000) (htb : tb < base) (hbs : base ≤ w.heap.size) :
  Calls Tryz.prog 20 #[.pointer (some ⟨tb, 0, none⟩)] w (AppSep tb base c a (.slice B (k + 1) cb) m f nn k D w) := by
 have HT := Lib.hid ht
 have HM := Lib.hid hm
 have hmm := @run_makeMap Tryz.prog
 obtain ⟨t14, t23, t24, t35, t38, t27, t30, tf⟩ := ht.cells
 have f35 := tf 35
 have htl := ht.lt
 have hkw : (Lit.int .i64 ((k : Nat) : Int)).wf = true := wf_small (by omega)
 have hwr : IntKind.i64.wrap ((k : Nat) : Int) = (k : Nat) := by rw [IntKind.wrap_i64]; omega
 have HWR := Lib.hid hwr
 have HWF : Hid ((Lit.int .i64 (IntKind.i64.wrap ((k : Nat) : Int))).wf = true) := by show _ = _; rw [hwr]; exact hkw
 clear ht tf hwr
 rcases hm with ⟨rfl, rfl⟩ | ⟨b, rfl, hb, hown⟩
 ·have T1 := (HT.out.setM (.map (some w.heap.size))).below ((Below.refl _ _).alloc (Nat.le_refl _) (.map #[] 0))
  have M0 : ((w.setCell ⟨tb, 35, none⟩ (.map (some w.heap.size))).alloc (.map #[] 0)).ownsMap Tryz.prog 3 (plainElem Tryz.prog 4) w.heap.size 0 (.map [] : DataW Unit) := by
   have h := World.ownsMap_made (H := Unit) (w.setCell ⟨tb, 35, none⟩ (.map (some w.heap.size))) Tryz.prog 3 (plainElem Tryz.prog 4)
   rwa [show (w.setCell ⟨tb, 35, none⟩ (.map (some w.heap.size))).heap.size = w.heap.size from by unfold World.setCell; simp] at h
  have O1 := M0.mono (Nat.zero_le nn)
  have F1 : Fr (fun j => j = tb ∨ Value.map none = .map (some j)) w ((w.setCell ⟨tb, 35, none⟩ (.map (some w.heap.size))).alloc (.map #[] 0)) := ((Fr.refl _ _).set tb 35 _ (Or.inl rfl)).then ((Below.refl _ _).alloc (Nat.le_refl _) _)
  have HX := Lib.hid (And.intro T1 (And.intro O1 F1))
  clear T1 O1 F1 M0
  have hq := eql_map_none w
  go_enter Tryz.func20, Tryz.ntmps20
  go_upto_region 2 with fail
  obtain ⟨u14, u23, u24, u35, u38, u27, u30, uf⟩ := HX.out.1.cells
  generalize (w.setCell ⟨tb, 35, none⟩ (.map (some w.heap.size))).alloc (.map #[] 0) = W1 at *
  clear uf
  obtain ⟨w2, hrun, ho, hg⟩ := map_put HX.out.2.1 hn _ HWF.out true
  rw [HWR.out] at ho
  have HO := Lib.hid (And.intro ho hg)
  clear ho hg
  go_upto_region 3 with fail
  go_region
  all_goals (
   go_end0
   obtain ⟨T1, O1, F1⟩ := HX.out
   obtain ⟨ho, hg⟩ := HO.out
   refine ⟨rfl, .map (some w.heap.size), (hg.block tb T1.lt (by simp; omega)).trans T1, Or.inr ⟨_, rfl, hbs, ho⟩, F1.grown hg (fun j hj e => by simp at e; omega), fun j hj hl => by simp at hj; omega⟩)
 ·have hq := eql_map_some w b
  obtain ⟨w2, hrun, ho, hg⟩ := map_put hown hn _ HWF.out true
  rw [HWR.out] at ho
  have HO := Lib.hid (And.intro ho hg)
  clear ho hg
  go_enter Tryz.func20, Tryz.ntmps20
  go_upto_region 3 with fail
  go_region
  all_goals (
   go_end0
   obtain ⟨ho, hg⟩ := HO.out
   refine ⟨rfl, .map (some b), (hg.block tb htl (by simp; omega)).trans HT.out, Or.inr ⟨_, rfl, hb, ho⟩, (Fr.refl _ _).grown hg (fun j hj e => Or.inr (by simp at e; rw [e])), fun j hj hl => hj⟩)

end Go.Proofs.YtgolhmiocjpohaaGreatDoor
