/- A filter's operator on a text: the package's (88) and the reference's (25) compute one plain function. No condition beyond sizes. -/
import Derived.Test.YtgolhmiocjpohaaGreatDoorKp3
set_option linter.unusedVariables false
set_option linter.unusedSimpArgs false
namespace Go.Proofs.YtgolhmiocjpohaaGreatDoor
open Go.RowKit Go.PlainAid

/-- Whether a text matches what is looked for. -/
noncomputable def matchB (low : ByteArray → ByteArray) (eqf : ByteArray → ByteArray → Bool) (op : Int) (fold : Bool) (a v : ByteArray) : Bool :=
 if op = 0 then sameB eqf a v fold
 else if op = 1 then !sameB eqf a v fold
 else if op = 2 then numsB (fCmp 2) (fltOf a) (fltOf v)
 else if op = 3 then numsB (fCmp 3) (fltOf a) (fltOf v)
 else if op = 4 then numsB (fCmp 4) (fltOf a) (fltOf v)
 else if op = 5 then numsB (fCmp 5) (fltOf a) (fltOf v)
 else if op = 6 then hasB (folded low a fold) (folded low v fold)
 else if op = 7 then !hasB (folded low a fold) (folded low v fold)
 else if op = 8 then preB (folded low a fold) (folded low v fold)
 else if op = 9 then sufB (folded low a fold) (folded low v fold)
 else false

/-- A filter as the package has it, and as the reference has it. -/
def filtI (f : FiltD) : Value := .agg #[.string ⟨#[]⟩, .int .i64 f.number, .int .i64 f.op, valI f.value, .bool f.fold, .nilFunc]
def filtV (f : FiltD) : Value := .agg #[.int .i64 f.number, .int .i64 f.op, .int .i64 f.value.kind, .string f.value.text, .int .i64 f.value.n, .bool f.fold]

section
variable {B : Nat} {EC : World → Prop} {low : ByteArray → ByteArray} {eqf : ByteArray → ByteArray → Bool}

set_option maxHeartbeats 800000 in
set_option maxRecDepth 100000 in
theorem pkg_op_0 (L : LibC B EC low eqf) (tv : Value) (a : ByteArray) (m : Int) (c : CellD) (fold : Bool) (w : World) (ha : a.size ≤ 400) (hc : CellOkD c) (hE : EC w) :
  Calls Tryz.prog 88 #[tv, .string a, .agg #[.string ⟨#[]⟩, .int .i64 m, .int .i64 0, valI c, .bool fold, .nilFunc]] w (BoolOut (sameB eqf a (saidOf c) fold) w) := by
 have K := Lib.hid (fun w1 (hb : Below w.heap.size w w1) => cmp_equal L tv a c fold w1 ha hc (L.after hE hb))
 generalize sameB eqf a (saidOf c) fold = r at *
 generalize valI c = iv at *
 clear hE L hc ha
 go_enter Tryz.func88, Tryz.ntmps88
 go_wp2_with (go_at_call 120; (with_reducible refine (K.out _ ?_).mono ?_); exact (Below.refl _ _).alloc (Nat.le_refl _) _; rintro e w1 ⟨rfl, hb⟩; have HB := Lib.hid hb; clear hb)
 go_ret
 exact ⟨rfl, ((Below.refl _ _).alloc (Nat.le_refl _) _).trans (HB.out.mono (by simp))⟩

set_option maxHeartbeats 800000 in
set_option maxRecDepth 100000 in
theorem pkg_op_1 (L : LibC B EC low eqf) (tv : Value) (a : ByteArray) (m : Int) (c : CellD) (fold : Bool) (w : World) (ha : a.size ≤ 400) (hc : CellOkD c) (hE : EC w) :
  Calls Tryz.prog 88 #[tv, .string a, .agg #[.string ⟨#[]⟩, .int .i64 m, .int .i64 1, valI c, .bool fold, .nilFunc]] w (BoolOut (!sameB eqf a (saidOf c) fold) w) := by
 have K := Lib.hid (fun w1 (hb : Below w.heap.size w w1) => cmp_equal L tv a c fold w1 ha hc (L.after hE hb))
 generalize sameB eqf a (saidOf c) fold = r at *
 generalize valI c = iv at *
 clear hE L hc ha
 go_enter Tryz.func88, Tryz.ntmps88
 go_wp2_with (go_at_call 120; (with_reducible refine (K.out _ ?_).mono ?_); exact (Below.refl _ _).alloc (Nat.le_refl _) _; rintro e w1 ⟨rfl, hb⟩; have HB := Lib.hid hb; clear hb)
 go_ret
 exact ⟨rfl, ((Below.refl _ _).alloc (Nat.le_refl _) _).trans (HB.out.mono (by simp))⟩

set_option maxHeartbeats 800000 in
set_option maxRecDepth 100000 in
theorem pkg_op_2 (L : LibC B EC low eqf) (tv : Value) (a : ByteArray) (m : Int) (c : CellD) (fold : Bool) (w : World) (ha : a.size ≤ 400) (hc : CellOkD c) (hE : EC w) :
  Calls Tryz.prog 88 #[tv, .string a, .agg #[.string ⟨#[]⟩, .int .i64 m, .int .i64 2, valI c, .bool fold, .nilFunc]] w (BoolOut (numsB (fCmp 2) (fltOf a) (fltOf (saidOf c))) w) := by
 have K := Lib.hid (fun w1 (hb : Below w.heap.size w w1) => cmp_num_2 tv a c w1 ha hc)
 generalize numsB (fCmp 2) (fltOf a) (fltOf (saidOf c)) = r at *
 generalize valI c = iv at *
 clear hE L hc ha
 go_enter Tryz.func88, Tryz.ntmps88
 go_wp2_with (go_at_call 121; (with_reducible refine (K.out _ ?_).mono ?_); exact (Below.refl _ _).alloc (Nat.le_refl _) _; rintro e w1 ⟨rfl, hb⟩; have HB := Lib.hid hb; clear hb)
 go_ret
 exact ⟨rfl, ((Below.refl _ _).alloc (Nat.le_refl _) _).trans (HB.out.mono (by simp))⟩

set_option maxHeartbeats 800000 in
set_option maxRecDepth 100000 in
theorem pkg_op_3 (L : LibC B EC low eqf) (tv : Value) (a : ByteArray) (m : Int) (c : CellD) (fold : Bool) (w : World) (ha : a.size ≤ 400) (hc : CellOkD c) (hE : EC w) :
  Calls Tryz.prog 88 #[tv, .string a, .agg #[.string ⟨#[]⟩, .int .i64 m, .int .i64 3, valI c, .bool fold, .nilFunc]] w (BoolOut (numsB (fCmp 3) (fltOf a) (fltOf (saidOf c))) w) := by
 have K := Lib.hid (fun w1 (hb : Below w.heap.size w w1) => cmp_num_3 tv a c w1 ha hc)
 generalize numsB (fCmp 3) (fltOf a) (fltOf (saidOf c)) = r at *
 generalize valI c = iv at *
 clear hE L hc ha
 go_enter Tryz.func88, Tryz.ntmps88
 go_wp2_with (go_at_call 121; (with_reducible refine (K.out _ ?_).mono ?_); exact (Below.refl _ _).alloc (Nat.le_refl _) _; rintro e w1 ⟨rfl, hb⟩; have HB := Lib.hid hb; clear hb)
 go_ret
 exact ⟨rfl, ((Below.refl _ _).alloc (Nat.le_refl _) _).trans (HB.out.mono (by simp))⟩

set_option maxHeartbeats 800000 in
set_option maxRecDepth 100000 in
theorem pkg_op_4 (L : LibC B EC low eqf) (tv : Value) (a : ByteArray) (m : Int) (c : CellD) (fold : Bool) (w : World) (ha : a.size ≤ 400) (hc : CellOkD c) (hE : EC w) :
  Calls Tryz.prog 88 #[tv, .string a, .agg #[.string ⟨#[]⟩, .int .i64 m, .int .i64 4, valI c, .bool fold, .nilFunc]] w (BoolOut (numsB (fCmp 4) (fltOf a) (fltOf (saidOf c))) w) := by
 have K := Lib.hid (fun w1 (hb : Below w.heap.size w w1) => cmp_num_4 tv a c w1 ha hc)
 generalize numsB (fCmp 4) (fltOf a) (fltOf (saidOf c)) = r at *
 generalize valI c = iv at *
 clear hE L hc ha
 go_enter Tryz.func88, Tryz.ntmps88
 go_wp2_with (go_at_call 121; (with_reducible refine (K.out _ ?_).mono ?_); exact (Below.refl _ _).alloc (Nat.le_refl _) _; rintro e w1 ⟨rfl, hb⟩; have HB := Lib.hid hb; clear hb)
 go_ret
 exact ⟨rfl, ((Below.refl _ _).alloc (Nat.le_refl _) _).trans (HB.out.mono (by simp))⟩

set_option maxHeartbeats 800000 in
set_option maxRecDepth 100000 in
theorem pkg_op_5 (L : LibC B EC low eqf) (tv : Value) (a : ByteArray) (m : Int) (c : CellD) (fold : Bool) (w : World) (ha : a.size ≤ 400) (hc : CellOkD c) (hE : EC w) :
  Calls Tryz.prog 88 #[tv, .string a, .agg #[.string ⟨#[]⟩, .int .i64 m, .int .i64 5, valI c, .bool fold, .nilFunc]] w (BoolOut (numsB (fCmp 5) (fltOf a) (fltOf (saidOf c))) w) := by
 have K := Lib.hid (fun w1 (hb : Below w.heap.size w w1) => cmp_num_5 tv a c w1 ha hc)
 generalize numsB (fCmp 5) (fltOf a) (fltOf (saidOf c)) = r at *
 generalize valI c = iv at *
 clear hE L hc ha
 go_enter Tryz.func88, Tryz.ntmps88
 go_wp2_with (go_at_call 121; (with_reducible refine (K.out _ ?_).mono ?_); exact (Below.refl _ _).alloc (Nat.le_refl _) _; rintro e w1 ⟨rfl, hb⟩; have HB := Lib.hid hb; clear hb)
 go_ret
 exact ⟨rfl, ((Below.refl _ _).alloc (Nat.le_refl _) _).trans (HB.out.mono (by simp))⟩

set_option maxHeartbeats 800000 in
set_option maxRecDepth 100000 in
theorem pkg_op_6 (L : LibC B EC low eqf) (tv : Value) (a : ByteArray) (m : Int) (c : CellD) (fold : Bool) (w : World) (ha : a.size ≤ 400) (hc : CellOkD c) (hE : EC w) :
  Calls Tryz.prog 88 #[tv, .string a, .agg #[.string ⟨#[]⟩, .int .i64 m, .int .i64 6, valI c, .bool fold, .nilFunc]] w (BoolOut (hasB (folded low a fold) (folded low (saidOf c) fold)) w) := by
 have K := Lib.hid (fun w1 (hb : Below w.heap.size w w1) => cmp_contains L tv a c fold w1 ha hc (L.after hE hb))
 generalize hasB (folded low a fold) (folded low (saidOf c) fold) = r at *
 generalize valI c = iv at *
 clear hE L hc ha
 go_enter Tryz.func88, Tryz.ntmps88
 go_wp2_with (go_at_call 126; (with_reducible refine (K.out _ ?_).mono ?_); exact (Below.refl _ _).alloc (Nat.le_refl _) _; rintro e w1 ⟨rfl, hb⟩; have HB := Lib.hid hb; clear hb)
 go_ret
 exact ⟨rfl, ((Below.refl _ _).alloc (Nat.le_refl _) _).trans (HB.out.mono (by simp))⟩

set_option maxHeartbeats 800000 in
set_option maxRecDepth 100000 in
theorem pkg_op_7 (L : LibC B EC low eqf) (tv : Value) (a : ByteArray) (m : Int) (c : CellD) (fold : Bool) (w : World) (ha : a.size ≤ 400) (hc : CellOkD c) (hE : EC w) :
  Calls Tryz.prog 88 #[tv, .string a, .agg #[.string ⟨#[]⟩, .int .i64 m, .int .i64 7, valI c, .bool fold, .nilFunc]] w (BoolOut (!hasB (folded low a fold) (folded low (saidOf c) fold)) w) := by
 have K := Lib.hid (fun w1 (hb : Below w.heap.size w w1) => cmp_contains L tv a c fold w1 ha hc (L.after hE hb))
 generalize hasB (folded low a fold) (folded low (saidOf c) fold) = r at *
 generalize valI c = iv at *
 clear hE L hc ha
 go_enter Tryz.func88, Tryz.ntmps88
 go_wp2_with (go_at_call 126; (with_reducible refine (K.out _ ?_).mono ?_); exact (Below.refl _ _).alloc (Nat.le_refl _) _; rintro e w1 ⟨rfl, hb⟩; have HB := Lib.hid hb; clear hb)
 go_ret
 exact ⟨rfl, ((Below.refl _ _).alloc (Nat.le_refl _) _).trans (HB.out.mono (by simp))⟩

set_option maxHeartbeats 800000 in
set_option maxRecDepth 100000 in
theorem pkg_op_8 (L : LibC B EC low eqf) (tv : Value) (a : ByteArray) (m : Int) (c : CellD) (fold : Bool) (w : World) (ha : a.size ≤ 400) (hc : CellOkD c) (hE : EC w) :
  Calls Tryz.prog 88 #[tv, .string a, .agg #[.string ⟨#[]⟩, .int .i64 m, .int .i64 8, valI c, .bool fold, .nilFunc]] w (BoolOut (preB (folded low a fold) (folded low (saidOf c) fold)) w) := by
 have K := Lib.hid (fun w1 (hb : Below w.heap.size w w1) => cmp_starts L tv a c fold w1 ha hc (L.after hE hb))
 generalize preB (folded low a fold) (folded low (saidOf c) fold) = r at *
 generalize valI c = iv at *
 clear hE L hc ha
 go_enter Tryz.func88, Tryz.ntmps88
 go_wp2_with (go_at_call 127; (with_reducible refine (K.out _ ?_).mono ?_); exact (Below.refl _ _).alloc (Nat.le_refl _) _; rintro e w1 ⟨rfl, hb⟩; have HB := Lib.hid hb; clear hb)
 go_ret
 exact ⟨rfl, ((Below.refl _ _).alloc (Nat.le_refl _) _).trans (HB.out.mono (by simp))⟩

set_option maxHeartbeats 800000 in
set_option maxRecDepth 100000 in
theorem pkg_op_9 (L : LibC B EC low eqf) (tv : Value) (a : ByteArray) (m : Int) (c : CellD) (fold : Bool) (w : World) (ha : a.size ≤ 400) (hc : CellOkD c) (hE : EC w) :
  Calls Tryz.prog 88 #[tv, .string a, .agg #[.string ⟨#[]⟩, .int .i64 m, .int .i64 9, valI c, .bool fold, .nilFunc]] w (BoolOut (sufB (folded low a fold) (folded low (saidOf c) fold)) w) := by
 have K := Lib.hid (fun w1 (hb : Below w.heap.size w w1) => cmp_ends L tv a c fold w1 ha hc (L.after hE hb))
 generalize sufB (folded low a fold) (folded low (saidOf c) fold) = r at *
 generalize valI c = iv at *
 clear hE L hc ha
 go_enter Tryz.func88, Tryz.ntmps88
 go_wp2_with (go_at_call 128; (with_reducible refine (K.out _ ?_).mono ?_); exact (Below.refl _ _).alloc (Nat.le_refl _) _; rintro e w1 ⟨rfl, hb⟩; have HB := Lib.hid hb; clear hb)
 go_ret
 exact ⟨rfl, ((Below.refl _ _).alloc (Nat.le_refl _) _).trans (HB.out.mono (by simp))⟩

set_option maxHeartbeats 800000 in
set_option maxRecDepth 100000 in
theorem pkg_op_other (tv : Value) (a : ByteArray) (m op : Int) (c : CellD) (fold : Bool) (w : World) (h : op < 0 ∨ 9 < op) :
  Calls Tryz.prog 88 #[tv, .string a, .agg #[.string ⟨#[]⟩, .int .i64 m, .int .i64 op, valI c, .bool fold, .nilFunc]] w (BoolOut false w) := by

 have k0 : (op == 0) = false := beq_eq_false_iff_ne.2 (by omega)
 have k1 : (op == 1) = false := beq_eq_false_iff_ne.2 (by omega)
 have k2 : (op == 2) = false := beq_eq_false_iff_ne.2 (by omega)
 have k3 : (op == 3) = false := beq_eq_false_iff_ne.2 (by omega)
 have k4 : (op == 4) = false := beq_eq_false_iff_ne.2 (by omega)
 have k5 : (op == 5) = false := beq_eq_false_iff_ne.2 (by omega)
 have k6 : (op == 6) = false := beq_eq_false_iff_ne.2 (by omega)
 have k7 : (op == 7) = false := beq_eq_false_iff_ne.2 (by omega)
 have k8 : (op == 8) = false := beq_eq_false_iff_ne.2 (by omega)
 have k9 : (op == 9) = false := beq_eq_false_iff_ne.2 (by omega)
 generalize valI c = iv at *
 clear h
 go_enter Tryz.func88, Tryz.ntmps88
 go_wp2_with fail
 go_ret
 exact ⟨rfl, (Below.refl _ _).alloc (Nat.le_refl _) _⟩

theorem pkg_match (L : LibC B EC low eqf) (tv : Value) (a : ByteArray) (f : FiltD) (w : World) (ha : a.size ≤ 400) (hc : CellOkD f.value) (hE : EC w) :
  Calls Tryz.prog 88 #[tv, .string a, filtI f] w (BoolOut (matchB low eqf f.op f.fold a (saidOf f.value)) w) := by
 obtain ⟨m, op, c, fold⟩ := f
 unfold filtI matchB
 dsimp only at hc ⊢
 by_cases h : op < 0 ∨ 9 < op
 ·have e : ∀ k : Int, 0 ≤ k → k ≤ 9 → ¬ op = k := by intro k h0 h9 hk; omega
  rw [if_neg (e 0 (by decide) (by decide)), if_neg (e 1 (by decide) (by decide)), if_neg (e 2 (by decide) (by decide)), if_neg (e 3 (by decide) (by decide)), if_neg (e 4 (by decide) (by decide)),
   if_neg (e 5 (by decide) (by decide)), if_neg (e 6 (by decide) (by decide)), if_neg (e 7 (by decide) (by decide)), if_neg (e 8 (by decide) (by decide)), if_neg (e 9 (by decide) (by decide))]
  exact pkg_op_other tv a m op c fold w h
 ·have h2 : op = 0 ∨ op = 1 ∨ op = 2 ∨ op = 3 ∨ op = 4 ∨ op = 5 ∨ op = 6 ∨ op = 7 ∨ op = 8 ∨ op = 9 := by omega
  rcases h2 with rfl | rfl | rfl | rfl | rfl | rfl | rfl | rfl | rfl | rfl
  ·exact pkg_op_0 L tv a m c fold w ha hc hE
  ·exact pkg_op_1 L tv a m c fold w ha hc hE
  ·exact pkg_op_2 L tv a m c fold w ha hc hE
  ·exact pkg_op_3 L tv a m c fold w ha hc hE
  ·exact pkg_op_4 L tv a m c fold w ha hc hE
  ·exact pkg_op_5 L tv a m c fold w ha hc hE
  ·exact pkg_op_6 L tv a m c fold w ha hc hE
  ·exact pkg_op_7 L tv a m c fold w ha hc hE
  ·exact pkg_op_8 L tv a m c fold w ha hc hE
  ·exact pkg_op_9 L tv a m c fold w ha hc hE

/-- A number and whether it is one. -/
def NumOk (o : Option Nat) (w : World) (e : Ending) (w' : World) : Prop := ∃ x b, e = .returned (.tuple #[.float .f64 x, .bool b]) ∧ (o = if b then some x else none) ∧ Below w.heap.size w w'

set_option maxHeartbeats 400000 in
theorem spec_number (L : LibC B EC low eqf) (s : ByteArray) (hs : s.size ≤ 400) (w : World) (hE : EC w) : Calls Tryz.prog 41 #[.string s] w (NumOk (fltOf s) w) := by
 have HA := Lib.hid (L.stdC s w hs hE)
 clear L hs hE
 cases hn : fltOf s with
 | some x =>
  rw [hn] at HA
  clear hn
  go_enter Tryz.func41, Tryz.ntmps41
  go_wp2_with fail
  refine HA.out.mono ?_
  rintro e w1 ⟨rfl, hb1⟩
  have H1 := Lib.hid hb1
  clear hb1
  go_wp2_with fail
  go_quiet (fail)
  go_wp2_with fail
  go_ret2
  exact ⟨x, true, rfl, rfl, below_drewN H1.out _⟩
 | none =>
  rw [hn] at HA
  clear hn
  go_enter Tryz.func41, Tryz.ntmps41
  go_wp2_with fail
  refine HA.out.mono ?_
  intro e w1 h
  obtain ⟨x, t, v, rfl, hb1⟩ := NumIs.none h
  have H1 := Lib.hid hb1
  clear hb1 h
  go_wp2_with fail
  go_quiet (fail)
  go_wp2_with fail
  go_ret2
  exact ⟨x, false, rfl, rfl, below_drewN H1.out _⟩

/-- What stays of the boxed filter while the callees run. -/
structure Held (w w1 : World) (op : Int) (F : Bool) : Prop where
 below : Below w.heap.size w w1
 size : w.heap.size < w1.heap.size
 opC : w1.cell? ⟨w.heap.size, 1, none⟩ = some (.int .i64 op)
 foldC : w1.cell? ⟨w.heap.size, 5, none⟩ = some (.bool F)

theorem Held.next {w w1 w2 : World} {op : Int} {F : Bool} (h : Held w w1 op F) (hb : Below w1.heap.size w1 w2) : Held w w2 op F :=
 ⟨h.below.trans (hb.mono h.below.size), by have := hb.size; have := h.size; omega, by rw [hb.cell (p := ⟨w.heap.size, 1, none⟩) h.size]; exact h.opC, by rw [hb.cell (p := ⟨w.heap.size, 5, none⟩) h.size]; exact h.foldC⟩
theorem Held.first {w w1 : World} {m op ck cn : Int} {ct : ByteArray} {F : Bool} {t : TypeId} (hb : Below (w.alloc (.cells #[.int .i64 m, .int .i64 op, .int .i64 ck, .string ct, .int .i64 cn, .bool F] t)).heap.size (w.alloc (.cells #[.int .i64 m, .int .i64 op, .int .i64 ck, .string ct, .int .i64 cn, .bool F] t)) w1) : Held w w1 op F :=
 Held.next ⟨(Below.refl _ _).alloc (Nat.le_refl _) _, by simp, by rw [World.cell?_alloc_at _ _ _ _ rfl]; rfl, by rw [World.cell?_alloc_at _ _ _ _ rfl]; rfl⟩ hb

set_option maxHeartbeats 1600000 in
set_option maxRecDepth 100000 in
theorem spec_op_0_true (L : LibC B EC low eqf) (a : ByteArray) (m : Int) (c : CellD) (w : World) (ha : a.size ≤ 400) (hc : CellOkD c) (hE : EC w) :
  Calls Tryz.prog 25 #[.string a, .agg #[.int .i64 m, .int .i64 0, .int .i64 c.kind, .string c.text, .int .i64 c.n, .bool true]] w (BoolOut ((eqf a (saidOf c))) w) := by
 have K26 := Lib.hid (fun w => spec_said c w hc)
 have NA := Lib.hid (fun w1 (hb : Below w.heap.size w w1) => spec_number L a ha w1 (L.after hE hb))
 have NV := Lib.hid (fun w1 (hb : Below w.heap.size w w1) => spec_number L (saidOf c) hc.said w1 (L.after hE hb))
 have KA := Lib.hid (fun w1 (hb : Below w.heap.size w w1) => L.lowC a w1 ha (L.after hE hb))
 have KV := Lib.hid (fun w1 (hb : Below w.heap.size w w1) => L.lowC (saidOf c) w1 hc.said (L.after hE hb))
 have KE := Lib.hid (fun w1 (hb : Below w.heap.size w w1) => L.eqfC a (saidOf c) w1 ha hc.said (L.after hE hb))
 have zA := L.lowSize a ha
 have zV := L.lowSize _ hc.said
 unfold cellV at K26
 obtain ⟨ck, ct, cn⟩ := c
 dsimp only at K26
 generalize saidOf ⟨ck, ct, cn⟩ = v at *
 clear hE hc ha L
 clear zA zV
 generalize eqf a v = q at *
 go_enter Tryz.func25, Tryz.ntmps25
 go_wp2_with (first
  | (go_at_call 26; (with_reducible refine (K26.out _).mono ?_); rintro e w1 ⟨rfl, hb⟩; have HB := Lib.hid (Held.first hb); clear hb; have oHB := HB.out.opC; have fHB := HB.out.foldC)
  | (go_at_call 40; (with_reducible refine (KA.out _ HB.out.below).mono ?_); rintro e w2 ⟨rfl, hb⟩; have HB2 := Lib.hid (HB.out.next hb); clear hb; have oHB2 := HB2.out.opC; have fHB2 := HB2.out.foldC)
  | (go_at_call 40; (with_reducible refine (KV.out _ HB2.out.below).mono ?_); rintro e w3 ⟨rfl, hb⟩; have HB3 := Lib.hid (HB2.out.next hb); clear hb; have oHB3 := HB3.out.opC; have fHB3 := HB3.out.foldC)
  | (go_at_call 41; (with_reducible refine (NA.out _ HB3.out.below).mono ?_); rintro e w4 ⟨x, bx, rfl, hx, hb⟩; clear hx; have HB4 := Lib.hid (HB3.out.next hb); clear hb; have oHB4 := HB4.out.opC; have fHB4 := HB4.out.foldC)
  | (go_at_call 41; (with_reducible refine (NV.out _ HB4.out.below).mono ?_); rintro e w5 ⟨y, yy, rfl, hy, hb⟩; clear hy; have HB5 := Lib.hid (HB4.out.next hb); clear hb; have oHB5 := HB5.out.opC; have fHB5 := HB5.out.foldC)
  | (go_at_call 42; (with_reducible refine (KE.out _ HB5.out.below).mono ?_); rintro e w6 ⟨rfl, hb⟩; have HB6 := Lib.hid (HB5.out.next hb); clear hb; have oHB6 := HB6.out.opC; have fHB6 := HB6.out.foldC))
 go_ret
 exact ⟨rfl, HB6.out.below⟩

set_option maxHeartbeats 1600000 in
set_option maxRecDepth 100000 in
theorem spec_op_0_false (L : LibC B EC low eqf) (a : ByteArray) (m : Int) (c : CellD) (w : World) (ha : a.size ≤ 400) (hc : CellOkD c) (hE : EC w) :
  Calls Tryz.prog 25 #[.string a, .agg #[.int .i64 m, .int .i64 0, .int .i64 c.kind, .string c.text, .int .i64 c.n, .bool false]] w (BoolOut ((sEq a (saidOf c))) w) := by
 have K26 := Lib.hid (fun w => spec_said c w hc)
 have NA := Lib.hid (fun w1 (hb : Below w.heap.size w w1) => spec_number L a ha w1 (L.after hE hb))
 have NV := Lib.hid (fun w1 (hb : Below w.heap.size w w1) => spec_number L (saidOf c) hc.said w1 (L.after hE hb))
 have zA : a.size ≤ 2147483647 := by omega
 have zV : (saidOf c).size ≤ 2147483647 := by have := hc.said; omega
 unfold cellV at K26
 obtain ⟨ck, ct, cn⟩ := c
 dsimp only at K26
 generalize saidOf ⟨ck, ct, cn⟩ = v at *
 clear hE hc ha L
 clear zA zV
 cases hq : sEq a v
 all_goals
  have hq2 := hq
  unfold sEq at hq2
  have HQ := Lib.hid hq
  clear hq
  go_enter Tryz.func25, Tryz.ntmps25
  go_wp2_with (first
   | (go_at_call 26; (with_reducible refine (K26.out _).mono ?_); rintro e w1 ⟨rfl, hb⟩; have HB := Lib.hid (Held.first hb); clear hb; have oHB := HB.out.opC; have fHB := HB.out.foldC)
   | (go_at_call 41; (with_reducible refine (NA.out _ HB.out.below).mono ?_); rintro e w4 ⟨x, bx, rfl, hx, hb⟩; clear hx; have HB4 := Lib.hid (HB.out.next hb); clear hb; have oHB4 := HB4.out.opC; have fHB4 := HB4.out.foldC)
   | (go_at_call 41; (with_reducible refine (NV.out _ HB4.out.below).mono ?_); rintro e w5 ⟨y, yy, rfl, hy, hb⟩; clear hy; have HB5 := Lib.hid (HB4.out.next hb); clear hb; have oHB5 := HB5.out.opC; have fHB5 := HB5.out.foldC))
  go_ret
  exact ⟨by first | rfl | (rw [HQ.out]; rfl), HB5.out.below⟩

set_option maxHeartbeats 1600000 in
set_option maxRecDepth 100000 in
theorem spec_op_1_true (L : LibC B EC low eqf) (a : ByteArray) (m : Int) (c : CellD) (w : World) (ha : a.size ≤ 400) (hc : CellOkD c) (hE : EC w) :
  Calls Tryz.prog 25 #[.string a, .agg #[.int .i64 m, .int .i64 1, .int .i64 c.kind, .string c.text, .int .i64 c.n, .bool true]] w (BoolOut (!(eqf a (saidOf c))) w) := by
 have K26 := Lib.hid (fun w => spec_said c w hc)
 have NA := Lib.hid (fun w1 (hb : Below w.heap.size w w1) => spec_number L a ha w1 (L.after hE hb))
 have NV := Lib.hid (fun w1 (hb : Below w.heap.size w w1) => spec_number L (saidOf c) hc.said w1 (L.after hE hb))
 have KA := Lib.hid (fun w1 (hb : Below w.heap.size w w1) => L.lowC a w1 ha (L.after hE hb))
 have KV := Lib.hid (fun w1 (hb : Below w.heap.size w w1) => L.lowC (saidOf c) w1 hc.said (L.after hE hb))
 have KE := Lib.hid (fun w1 (hb : Below w.heap.size w w1) => L.eqfC a (saidOf c) w1 ha hc.said (L.after hE hb))
 have zA := L.lowSize a ha
 have zV := L.lowSize _ hc.said
 unfold cellV at K26
 obtain ⟨ck, ct, cn⟩ := c
 dsimp only at K26
 generalize saidOf ⟨ck, ct, cn⟩ = v at *
 clear hE hc ha L
 clear zA zV
 generalize eqf a v = q at *
 go_enter Tryz.func25, Tryz.ntmps25
 go_wp2_with (first
  | (go_at_call 26; (with_reducible refine (K26.out _).mono ?_); rintro e w1 ⟨rfl, hb⟩; have HB := Lib.hid (Held.first hb); clear hb; have oHB := HB.out.opC; have fHB := HB.out.foldC)
  | (go_at_call 40; (with_reducible refine (KA.out _ HB.out.below).mono ?_); rintro e w2 ⟨rfl, hb⟩; have HB2 := Lib.hid (HB.out.next hb); clear hb; have oHB2 := HB2.out.opC; have fHB2 := HB2.out.foldC)
  | (go_at_call 40; (with_reducible refine (KV.out _ HB2.out.below).mono ?_); rintro e w3 ⟨rfl, hb⟩; have HB3 := Lib.hid (HB2.out.next hb); clear hb; have oHB3 := HB3.out.opC; have fHB3 := HB3.out.foldC)
  | (go_at_call 41; (with_reducible refine (NA.out _ HB3.out.below).mono ?_); rintro e w4 ⟨x, bx, rfl, hx, hb⟩; clear hx; have HB4 := Lib.hid (HB3.out.next hb); clear hb; have oHB4 := HB4.out.opC; have fHB4 := HB4.out.foldC)
  | (go_at_call 41; (with_reducible refine (NV.out _ HB4.out.below).mono ?_); rintro e w5 ⟨y, yy, rfl, hy, hb⟩; clear hy; have HB5 := Lib.hid (HB4.out.next hb); clear hb; have oHB5 := HB5.out.opC; have fHB5 := HB5.out.foldC)
  | (go_at_call 42; (with_reducible refine (KE.out _ HB5.out.below).mono ?_); rintro e w6 ⟨rfl, hb⟩; have HB6 := Lib.hid (HB5.out.next hb); clear hb; have oHB6 := HB6.out.opC; have fHB6 := HB6.out.foldC))
 go_ret
 exact ⟨rfl, HB6.out.below⟩

set_option maxHeartbeats 1600000 in
set_option maxRecDepth 100000 in
theorem spec_op_1_false (L : LibC B EC low eqf) (a : ByteArray) (m : Int) (c : CellD) (w : World) (ha : a.size ≤ 400) (hc : CellOkD c) (hE : EC w) :
  Calls Tryz.prog 25 #[.string a, .agg #[.int .i64 m, .int .i64 1, .int .i64 c.kind, .string c.text, .int .i64 c.n, .bool false]] w (BoolOut (!(sEq a (saidOf c))) w) := by
 have K26 := Lib.hid (fun w => spec_said c w hc)
 have NA := Lib.hid (fun w1 (hb : Below w.heap.size w w1) => spec_number L a ha w1 (L.after hE hb))
 have NV := Lib.hid (fun w1 (hb : Below w.heap.size w w1) => spec_number L (saidOf c) hc.said w1 (L.after hE hb))
 have zA : a.size ≤ 2147483647 := by omega
 have zV : (saidOf c).size ≤ 2147483647 := by have := hc.said; omega
 unfold cellV at K26
 obtain ⟨ck, ct, cn⟩ := c
 dsimp only at K26
 generalize saidOf ⟨ck, ct, cn⟩ = v at *
 clear hE hc ha L
 clear zA zV
 cases hq : sEq a v
 all_goals
  have hq2 := hq
  unfold sEq at hq2
  have HQ := Lib.hid hq
  clear hq
  go_enter Tryz.func25, Tryz.ntmps25
  go_wp2_with (first
   | (go_at_call 26; (with_reducible refine (K26.out _).mono ?_); rintro e w1 ⟨rfl, hb⟩; have HB := Lib.hid (Held.first hb); clear hb; have oHB := HB.out.opC; have fHB := HB.out.foldC)
   | (go_at_call 41; (with_reducible refine (NA.out _ HB.out.below).mono ?_); rintro e w4 ⟨x, bx, rfl, hx, hb⟩; clear hx; have HB4 := Lib.hid (HB.out.next hb); clear hb; have oHB4 := HB4.out.opC; have fHB4 := HB4.out.foldC)
   | (go_at_call 41; (with_reducible refine (NV.out _ HB4.out.below).mono ?_); rintro e w5 ⟨y, yy, rfl, hy, hb⟩; clear hy; have HB5 := Lib.hid (HB4.out.next hb); clear hb; have oHB5 := HB5.out.opC; have fHB5 := HB5.out.foldC))
  go_ret
  exact ⟨by first | rfl | (rw [HQ.out]; rfl), HB5.out.below⟩

set_option maxHeartbeats 6400000 in
set_option maxRecDepth 100000 in
theorem spec_op_num_true (L : LibC B EC low eqf) (a : ByteArray) (m op : Int) (c : CellD) (w : World) (ha : a.size ≤ 400) (hc : CellOkD c) (hE : EC w) (h : op = 2 ∨ op = 3 ∨ op = 4 ∨ op = 5) :
  Calls Tryz.prog 25 #[.string a, .agg #[.int .i64 m, .int .i64 op, .int .i64 c.kind, .string c.text, .int .i64 c.n, .bool true]] w (BoolOut (numsB (fCmp op) (fltOf a) (fltOf (saidOf c))) w) := by
 have K26 := Lib.hid (fun w => spec_said c w hc)
 have NA := Lib.hid (fun w1 (hb : Below w.heap.size w w1) => spec_number L a ha w1 (L.after hE hb))
 have NV := Lib.hid (fun w1 (hb : Below w.heap.size w w1) => spec_number L (saidOf c) hc.said w1 (L.after hE hb))
 have KA := Lib.hid (fun w1 (hb : Below w.heap.size w w1) => L.lowC a w1 ha (L.after hE hb))
 have KV := Lib.hid (fun w1 (hb : Below w.heap.size w w1) => L.lowC (saidOf c) w1 hc.said (L.after hE hb))
 have KE := Lib.hid (fun w1 (hb : Below w.heap.size w w1) => L.eqfC a (saidOf c) w1 ha hc.said (L.after hE hb))
 have zA := L.lowSize a ha
 have zV := L.lowSize _ hc.said
 unfold cellV at K26
 obtain ⟨ck, ct, cn⟩ := c
 dsimp only at K26
 generalize saidOf ⟨ck, ct, cn⟩ = v at *
 clear hE hc ha L
 clear zA zV
 rcases h with rfl | rfl | rfl | rfl
 all_goals (
 cases hfa : fltOf a with
 | none =>
  rw [hfa] at NA
  rw [numsB_none]
  have NA2 : Hid (∀ w1, Below w.heap.size w w1 → Calls Tryz.prog 41 #[.string a] w1 fun e w' => ∃ x, e = .returned (.tuple #[.float .f64 x, .bool false]) ∧ Below w1.heap.size w1 w') := Lib.hid fun w1 hb => (NA.out w1 hb).mono fun e w' ⟨x, b, he, hb2, hbl⟩ => by
   cases b
   ·exact ⟨x, he, hbl⟩
   ·exact absurd hb2 (by simp)
  clear NA hfa
  go_enter Tryz.func25, Tryz.ntmps25
  go_wp2_with (first
   | (go_at_call 26; (with_reducible refine (K26.out _).mono ?_); rintro e w1 ⟨rfl, hb⟩; have HB := Lib.hid (Held.first hb); clear hb; have oHB := HB.out.opC; have fHB := HB.out.foldC)
   | (go_at_call 40; (with_reducible refine (KA.out _ HB.out.below).mono ?_); rintro e w2 ⟨rfl, hb⟩; have HB2 := Lib.hid (HB.out.next hb); clear hb; have oHB2 := HB2.out.opC; have fHB2 := HB2.out.foldC)
   | (go_at_call 40; (with_reducible refine (KV.out _ HB2.out.below).mono ?_); rintro e w3 ⟨rfl, hb⟩; have HB3 := Lib.hid (HB2.out.next hb); clear hb; have oHB3 := HB3.out.opC; have fHB3 := HB3.out.foldC)
   | (go_at_call 41; (with_reducible refine (NA2.out _ HB3.out.below).mono ?_); rintro e w4 ⟨x, rfl, hb⟩; have HB4 := Lib.hid (HB3.out.next hb); clear hb; have oHB4 := HB4.out.opC; have fHB4 := HB4.out.foldC)
   | (go_at_call 41; (with_reducible refine (NV.out _ HB4.out.below).mono ?_); rintro e w5 ⟨y, yy, rfl, hy, hb⟩; clear hy; have HB5 := Lib.hid (HB4.out.next hb); clear hb; have oHB5 := HB5.out.opC; have fHB5 := HB5.out.foldC)
   | (go_at_call 42; (with_reducible refine (KE.out _ HB5.out.below).mono ?_); rintro e w6 ⟨rfl, hb⟩; have HB6 := Lib.hid (HB5.out.next hb); clear hb; have oHB6 := HB6.out.opC; have fHB6 := HB6.out.foldC))
  go_ret
  exact ⟨rfl, HB6.out.below⟩
 | some x =>
  rw [hfa] at NA
  have NA2 : Hid (∀ w1, Below w.heap.size w w1 → Calls Tryz.prog 41 #[.string a] w1 fun e w' => e = .returned (.tuple #[.float .f64 x, .bool true]) ∧ Below w1.heap.size w1 w') := Lib.hid fun w1 hb => (NA.out w1 hb).mono fun e w' ⟨x2, b, he, hb2, hbl⟩ => by
   cases b
   ·exact absurd hb2 (by simp)
   ·have hxx : x = x2 := by simpa using hb2
    exact ⟨by rw [he, hxx], hbl⟩
  clear NA hfa
  cases hfv : fltOf v with
  | none =>
   rw [hfv] at NV
   rw [numsB_none']
   have NV2 : Hid (∀ w1, Below w.heap.size w w1 → Calls Tryz.prog 41 #[.string v] w1 fun e w' => ∃ x, e = .returned (.tuple #[.float .f64 x, .bool false]) ∧ Below w1.heap.size w1 w') := Lib.hid fun w1 hb => (NV.out w1 hb).mono fun e w' ⟨x, b, he, hb2, hbl⟩ => by
    cases b
    ·exact ⟨x, he, hbl⟩
    ·exact absurd hb2 (by simp)
   clear NV hfv
   go_enter Tryz.func25, Tryz.ntmps25
   go_wp2_with (first
    | (go_at_call 26; (with_reducible refine (K26.out _).mono ?_); rintro e w1 ⟨rfl, hb⟩; have HB := Lib.hid (Held.first hb); clear hb; have oHB := HB.out.opC; have fHB := HB.out.foldC)
    | (go_at_call 40; (with_reducible refine (KA.out _ HB.out.below).mono ?_); rintro e w2 ⟨rfl, hb⟩; have HB2 := Lib.hid (HB.out.next hb); clear hb; have oHB2 := HB2.out.opC; have fHB2 := HB2.out.foldC)
    | (go_at_call 40; (with_reducible refine (KV.out _ HB2.out.below).mono ?_); rintro e w3 ⟨rfl, hb⟩; have HB3 := Lib.hid (HB2.out.next hb); clear hb; have oHB3 := HB3.out.opC; have fHB3 := HB3.out.foldC)
    | (go_at_call 41; (with_reducible refine (NA2.out _ HB3.out.below).mono ?_); rintro e w4 ⟨rfl, hb⟩; have HB4 := Lib.hid (HB3.out.next hb); clear hb; have oHB4 := HB4.out.opC; have fHB4 := HB4.out.foldC)
    | (go_at_call 41; (with_reducible refine (NV2.out _ HB4.out.below).mono ?_); rintro e w5 ⟨y, rfl, hb⟩; have HB5 := Lib.hid (HB4.out.next hb); clear hb; have oHB5 := HB5.out.opC; have fHB5 := HB5.out.foldC)
    | (go_at_call 42; (with_reducible refine (KE.out _ HB5.out.below).mono ?_); rintro e w6 ⟨rfl, hb⟩; have HB6 := Lib.hid (HB5.out.next hb); clear hb; have oHB6 := HB6.out.opC; have fHB6 := HB6.out.foldC))
   go_ret
   exact ⟨rfl, HB6.out.below⟩
  | some y =>
   rw [hfv] at NV
   rw [numsB_some]
   have NV2 : Hid (∀ w1, Below w.heap.size w w1 → Calls Tryz.prog 41 #[.string v] w1 fun e w' => e = .returned (.tuple #[.float .f64 y, .bool true]) ∧ Below w1.heap.size w1 w') := Lib.hid fun w1 hb => (NV.out w1 hb).mono fun e w' ⟨x2, b, he, hb2, hbl⟩ => by
    cases b
    ·exact absurd hb2 (by simp)
    ·have hxx : y = x2 := by simpa using hb2
     exact ⟨by rw [he, hxx], hbl⟩
   clear NV hfv
   go_enter Tryz.func25, Tryz.ntmps25
   go_wp2_with (first
    | (go_at_call 26; (with_reducible refine (K26.out _).mono ?_); rintro e w1 ⟨rfl, hb⟩; have HB := Lib.hid (Held.first hb); clear hb; have oHB := HB.out.opC; have fHB := HB.out.foldC)
    | (go_at_call 40; (with_reducible refine (KA.out _ HB.out.below).mono ?_); rintro e w2 ⟨rfl, hb⟩; have HB2 := Lib.hid (HB.out.next hb); clear hb; have oHB2 := HB2.out.opC; have fHB2 := HB2.out.foldC)
    | (go_at_call 40; (with_reducible refine (KV.out _ HB2.out.below).mono ?_); rintro e w3 ⟨rfl, hb⟩; have HB3 := Lib.hid (HB2.out.next hb); clear hb; have oHB3 := HB3.out.opC; have fHB3 := HB3.out.foldC)
    | (go_at_call 41; (with_reducible refine (NA2.out _ HB3.out.below).mono ?_); rintro e w4 ⟨rfl, hb⟩; have HB4 := Lib.hid (HB3.out.next hb); clear hb; have oHB4 := HB4.out.opC; have fHB4 := HB4.out.foldC)
    | (go_at_call 41; (with_reducible refine (NV2.out _ HB4.out.below).mono ?_); rintro e w5 ⟨rfl, hb⟩; have HB5 := Lib.hid (HB4.out.next hb); clear hb; have oHB5 := HB5.out.opC; have fHB5 := HB5.out.foldC)
    | (go_at_call 42; (with_reducible refine (KE.out _ HB5.out.below).mono ?_); rintro e w6 ⟨rfl, hb⟩; have HB6 := Lib.hid (HB5.out.next hb); clear hb; have oHB6 := HB6.out.opC; have fHB6 := HB6.out.foldC))
   go_ret
   exact ⟨rfl, HB6.out.below⟩)

set_option maxHeartbeats 6400000 in
set_option maxRecDepth 100000 in
theorem spec_op_num_false (L : LibC B EC low eqf) (a : ByteArray) (m op : Int) (c : CellD) (w : World) (ha : a.size ≤ 400) (hc : CellOkD c) (hE : EC w) (h : op = 2 ∨ op = 3 ∨ op = 4 ∨ op = 5) :
  Calls Tryz.prog 25 #[.string a, .agg #[.int .i64 m, .int .i64 op, .int .i64 c.kind, .string c.text, .int .i64 c.n, .bool false]] w (BoolOut (numsB (fCmp op) (fltOf a) (fltOf (saidOf c))) w) := by
 have K26 := Lib.hid (fun w => spec_said c w hc)
 have NA := Lib.hid (fun w1 (hb : Below w.heap.size w w1) => spec_number L a ha w1 (L.after hE hb))
 have NV := Lib.hid (fun w1 (hb : Below w.heap.size w w1) => spec_number L (saidOf c) hc.said w1 (L.after hE hb))
 have zA : a.size ≤ 2147483647 := by omega
 have zV : (saidOf c).size ≤ 2147483647 := by have := hc.said; omega
 unfold cellV at K26
 obtain ⟨ck, ct, cn⟩ := c
 dsimp only at K26
 generalize saidOf ⟨ck, ct, cn⟩ = v at *
 clear hE hc ha L
 clear zA zV
 rcases h with rfl | rfl | rfl | rfl
 all_goals (
 cases hfa : fltOf a with
 | none =>
  rw [hfa] at NA
  rw [numsB_none]
  have NA2 : Hid (∀ w1, Below w.heap.size w w1 → Calls Tryz.prog 41 #[.string a] w1 fun e w' => ∃ x, e = .returned (.tuple #[.float .f64 x, .bool false]) ∧ Below w1.heap.size w1 w') := Lib.hid fun w1 hb => (NA.out w1 hb).mono fun e w' ⟨x, b, he, hb2, hbl⟩ => by
   cases b
   ·exact ⟨x, he, hbl⟩
   ·exact absurd hb2 (by simp)
  clear NA hfa
  go_enter Tryz.func25, Tryz.ntmps25
  go_wp2_with (first
   | (go_at_call 26; (with_reducible refine (K26.out _).mono ?_); rintro e w1 ⟨rfl, hb⟩; have HB := Lib.hid (Held.first hb); clear hb; have oHB := HB.out.opC; have fHB := HB.out.foldC)
   | (go_at_call 41; (with_reducible refine (NA2.out _ HB.out.below).mono ?_); rintro e w4 ⟨x, rfl, hb⟩; have HB4 := Lib.hid (HB.out.next hb); clear hb; have oHB4 := HB4.out.opC; have fHB4 := HB4.out.foldC)
   | (go_at_call 41; (with_reducible refine (NV.out _ HB4.out.below).mono ?_); rintro e w5 ⟨y, yy, rfl, hy, hb⟩; clear hy; have HB5 := Lib.hid (HB4.out.next hb); clear hb; have oHB5 := HB5.out.opC; have fHB5 := HB5.out.foldC))
  go_ret
  exact ⟨rfl, HB5.out.below⟩
 | some x =>
  rw [hfa] at NA
  have NA2 : Hid (∀ w1, Below w.heap.size w w1 → Calls Tryz.prog 41 #[.string a] w1 fun e w' => e = .returned (.tuple #[.float .f64 x, .bool true]) ∧ Below w1.heap.size w1 w') := Lib.hid fun w1 hb => (NA.out w1 hb).mono fun e w' ⟨x2, b, he, hb2, hbl⟩ => by
   cases b
   ·exact absurd hb2 (by simp)
   ·have hxx : x = x2 := by simpa using hb2
    exact ⟨by rw [he, hxx], hbl⟩
  clear NA hfa
  cases hfv : fltOf v with
  | none =>
   rw [hfv] at NV
   rw [numsB_none']
   have NV2 : Hid (∀ w1, Below w.heap.size w w1 → Calls Tryz.prog 41 #[.string v] w1 fun e w' => ∃ x, e = .returned (.tuple #[.float .f64 x, .bool false]) ∧ Below w1.heap.size w1 w') := Lib.hid fun w1 hb => (NV.out w1 hb).mono fun e w' ⟨x, b, he, hb2, hbl⟩ => by
    cases b
    ·exact ⟨x, he, hbl⟩
    ·exact absurd hb2 (by simp)
   clear NV hfv
   go_enter Tryz.func25, Tryz.ntmps25
   go_wp2_with (first
    | (go_at_call 26; (with_reducible refine (K26.out _).mono ?_); rintro e w1 ⟨rfl, hb⟩; have HB := Lib.hid (Held.first hb); clear hb; have oHB := HB.out.opC; have fHB := HB.out.foldC)
    | (go_at_call 41; (with_reducible refine (NA2.out _ HB.out.below).mono ?_); rintro e w4 ⟨rfl, hb⟩; have HB4 := Lib.hid (HB.out.next hb); clear hb; have oHB4 := HB4.out.opC; have fHB4 := HB4.out.foldC)
    | (go_at_call 41; (with_reducible refine (NV2.out _ HB4.out.below).mono ?_); rintro e w5 ⟨y, rfl, hb⟩; have HB5 := Lib.hid (HB4.out.next hb); clear hb; have oHB5 := HB5.out.opC; have fHB5 := HB5.out.foldC))
   go_ret
   exact ⟨rfl, HB5.out.below⟩
  | some y =>
   rw [hfv] at NV
   rw [numsB_some]
   have NV2 : Hid (∀ w1, Below w.heap.size w w1 → Calls Tryz.prog 41 #[.string v] w1 fun e w' => e = .returned (.tuple #[.float .f64 y, .bool true]) ∧ Below w1.heap.size w1 w') := Lib.hid fun w1 hb => (NV.out w1 hb).mono fun e w' ⟨x2, b, he, hb2, hbl⟩ => by
    cases b
    ·exact absurd hb2 (by simp)
    ·have hxx : y = x2 := by simpa using hb2
     exact ⟨by rw [he, hxx], hbl⟩
   clear NV hfv
   go_enter Tryz.func25, Tryz.ntmps25
   go_wp2_with (first
    | (go_at_call 26; (with_reducible refine (K26.out _).mono ?_); rintro e w1 ⟨rfl, hb⟩; have HB := Lib.hid (Held.first hb); clear hb; have oHB := HB.out.opC; have fHB := HB.out.foldC)
    | (go_at_call 41; (with_reducible refine (NA2.out _ HB.out.below).mono ?_); rintro e w4 ⟨rfl, hb⟩; have HB4 := Lib.hid (HB.out.next hb); clear hb; have oHB4 := HB4.out.opC; have fHB4 := HB4.out.foldC)
    | (go_at_call 41; (with_reducible refine (NV2.out _ HB4.out.below).mono ?_); rintro e w5 ⟨rfl, hb⟩; have HB5 := Lib.hid (HB4.out.next hb); clear hb; have oHB5 := HB5.out.opC; have fHB5 := HB5.out.foldC))
   go_ret
   exact ⟨rfl, HB5.out.below⟩)

set_option maxHeartbeats 1600000 in
set_option maxRecDepth 100000 in
theorem spec_op_6_true (L : LibC B EC low eqf) (a : ByteArray) (m : Int) (c : CellD) (w : World) (ha : a.size ≤ 400) (hc : CellOkD c) (hE : EC w) :
  Calls Tryz.prog 25 #[.string a, .agg #[.int .i64 m, .int .i64 6, .int .i64 c.kind, .string c.text, .int .i64 c.n, .bool true]] w (BoolOut (hasB (low a) (low (saidOf c))) w) := by
 have K26 := Lib.hid (fun w => spec_said c w hc)
 have NA := Lib.hid (fun w1 (hb : Below w.heap.size w w1) => spec_number L a ha w1 (L.after hE hb))
 have NV := Lib.hid (fun w1 (hb : Below w.heap.size w w1) => spec_number L (saidOf c) hc.said w1 (L.after hE hb))
 have KA := Lib.hid (fun w1 (hb : Below w.heap.size w w1) => L.lowC a w1 ha (L.after hE hb))
 have KV := Lib.hid (fun w1 (hb : Below w.heap.size w w1) => L.lowC (saidOf c) w1 hc.said (L.after hE hb))
 have KE := Lib.hid (fun w1 (hb : Below w.heap.size w w1) => L.eqfC a (saidOf c) w1 ha hc.said (L.after hE hb))
 have zA := L.lowSize a ha
 have zV := L.lowSize _ hc.said
 unfold cellV at K26
 obtain ⟨ck, ct, cn⟩ := c
 dsimp only at K26
 generalize saidOf ⟨ck, ct, cn⟩ = v at *
 clear hE hc ha L
 have K43 := Lib.hid (fun w => spec_has (low a) (low v) w zA zV)
 clear zA zV
 generalize hasB (low a) (low v) = q at *
 go_enter Tryz.func25, Tryz.ntmps25
 go_wp2_with (first
  | (go_at_call 26; (with_reducible refine (K26.out _).mono ?_); rintro e w1 ⟨rfl, hb⟩; have HB := Lib.hid (Held.first hb); clear hb; have oHB := HB.out.opC; have fHB := HB.out.foldC)
  | (go_at_call 40; (with_reducible refine (KA.out _ HB.out.below).mono ?_); rintro e w2 ⟨rfl, hb⟩; have HB2 := Lib.hid (HB.out.next hb); clear hb; have oHB2 := HB2.out.opC; have fHB2 := HB2.out.foldC)
  | (go_at_call 40; (with_reducible refine (KV.out _ HB2.out.below).mono ?_); rintro e w3 ⟨rfl, hb⟩; have HB3 := Lib.hid (HB2.out.next hb); clear hb; have oHB3 := HB3.out.opC; have fHB3 := HB3.out.foldC)
  | (go_at_call 41; (with_reducible refine (NA.out _ HB3.out.below).mono ?_); rintro e w4 ⟨x, bx, rfl, hx, hb⟩; clear hx; have HB4 := Lib.hid (HB3.out.next hb); clear hb; have oHB4 := HB4.out.opC; have fHB4 := HB4.out.foldC)
  | (go_at_call 41; (with_reducible refine (NV.out _ HB4.out.below).mono ?_); rintro e w5 ⟨y, yy, rfl, hy, hb⟩; clear hy; have HB5 := Lib.hid (HB4.out.next hb); clear hb; have oHB5 := HB5.out.opC; have fHB5 := HB5.out.foldC)
  | (go_at_call 42; (with_reducible refine (KE.out _ HB5.out.below).mono ?_); rintro e w6 ⟨rfl, hb⟩; have HB6 := Lib.hid (HB5.out.next hb); clear hb; have oHB6 := HB6.out.opC; have fHB6 := HB6.out.foldC)
  | (go_at_call 43; (with_reducible refine (K43.out _).mono ?_); rintro e w7 ⟨rfl, rfl⟩))
 go_ret
 exact ⟨rfl, HB6.out.below⟩

set_option maxHeartbeats 1600000 in
set_option maxRecDepth 100000 in
theorem spec_op_6_false (L : LibC B EC low eqf) (a : ByteArray) (m : Int) (c : CellD) (w : World) (ha : a.size ≤ 400) (hc : CellOkD c) (hE : EC w) :
  Calls Tryz.prog 25 #[.string a, .agg #[.int .i64 m, .int .i64 6, .int .i64 c.kind, .string c.text, .int .i64 c.n, .bool false]] w (BoolOut (hasB (a) ((saidOf c))) w) := by
 have K26 := Lib.hid (fun w => spec_said c w hc)
 have NA := Lib.hid (fun w1 (hb : Below w.heap.size w w1) => spec_number L a ha w1 (L.after hE hb))
 have NV := Lib.hid (fun w1 (hb : Below w.heap.size w w1) => spec_number L (saidOf c) hc.said w1 (L.after hE hb))
 have zA : a.size ≤ 2147483647 := by omega
 have zV : (saidOf c).size ≤ 2147483647 := by have := hc.said; omega
 unfold cellV at K26
 obtain ⟨ck, ct, cn⟩ := c
 dsimp only at K26
 generalize saidOf ⟨ck, ct, cn⟩ = v at *
 clear hE hc ha L
 have K43 := Lib.hid (fun w => spec_has a v w zA zV)
 clear zA zV
 generalize hasB a v = q at *
 go_enter Tryz.func25, Tryz.ntmps25
 go_wp2_with (first
  | (go_at_call 26; (with_reducible refine (K26.out _).mono ?_); rintro e w1 ⟨rfl, hb⟩; have HB := Lib.hid (Held.first hb); clear hb; have oHB := HB.out.opC; have fHB := HB.out.foldC)
  | (go_at_call 41; (with_reducible refine (NA.out _ HB.out.below).mono ?_); rintro e w4 ⟨x, bx, rfl, hx, hb⟩; clear hx; have HB4 := Lib.hid (HB.out.next hb); clear hb; have oHB4 := HB4.out.opC; have fHB4 := HB4.out.foldC)
  | (go_at_call 41; (with_reducible refine (NV.out _ HB4.out.below).mono ?_); rintro e w5 ⟨y, yy, rfl, hy, hb⟩; clear hy; have HB5 := Lib.hid (HB4.out.next hb); clear hb; have oHB5 := HB5.out.opC; have fHB5 := HB5.out.foldC)
  | (go_at_call 43; (with_reducible refine (K43.out _).mono ?_); rintro e w7 ⟨rfl, rfl⟩))
 go_ret
 exact ⟨rfl, HB5.out.below⟩

set_option maxHeartbeats 1600000 in
set_option maxRecDepth 100000 in
theorem spec_op_7_true (L : LibC B EC low eqf) (a : ByteArray) (m : Int) (c : CellD) (w : World) (ha : a.size ≤ 400) (hc : CellOkD c) (hE : EC w) :
  Calls Tryz.prog 25 #[.string a, .agg #[.int .i64 m, .int .i64 7, .int .i64 c.kind, .string c.text, .int .i64 c.n, .bool true]] w (BoolOut (!hasB (low a) (low (saidOf c))) w) := by
 have K26 := Lib.hid (fun w => spec_said c w hc)
 have NA := Lib.hid (fun w1 (hb : Below w.heap.size w w1) => spec_number L a ha w1 (L.after hE hb))
 have NV := Lib.hid (fun w1 (hb : Below w.heap.size w w1) => spec_number L (saidOf c) hc.said w1 (L.after hE hb))
 have KA := Lib.hid (fun w1 (hb : Below w.heap.size w w1) => L.lowC a w1 ha (L.after hE hb))
 have KV := Lib.hid (fun w1 (hb : Below w.heap.size w w1) => L.lowC (saidOf c) w1 hc.said (L.after hE hb))
 have KE := Lib.hid (fun w1 (hb : Below w.heap.size w w1) => L.eqfC a (saidOf c) w1 ha hc.said (L.after hE hb))
 have zA := L.lowSize a ha
 have zV := L.lowSize _ hc.said
 unfold cellV at K26
 obtain ⟨ck, ct, cn⟩ := c
 dsimp only at K26
 generalize saidOf ⟨ck, ct, cn⟩ = v at *
 clear hE hc ha L
 have K43 := Lib.hid (fun w => spec_has (low a) (low v) w zA zV)
 clear zA zV
 generalize hasB (low a) (low v) = q at *
 go_enter Tryz.func25, Tryz.ntmps25
 go_wp2_with (first
  | (go_at_call 26; (with_reducible refine (K26.out _).mono ?_); rintro e w1 ⟨rfl, hb⟩; have HB := Lib.hid (Held.first hb); clear hb; have oHB := HB.out.opC; have fHB := HB.out.foldC)
  | (go_at_call 40; (with_reducible refine (KA.out _ HB.out.below).mono ?_); rintro e w2 ⟨rfl, hb⟩; have HB2 := Lib.hid (HB.out.next hb); clear hb; have oHB2 := HB2.out.opC; have fHB2 := HB2.out.foldC)
  | (go_at_call 40; (with_reducible refine (KV.out _ HB2.out.below).mono ?_); rintro e w3 ⟨rfl, hb⟩; have HB3 := Lib.hid (HB2.out.next hb); clear hb; have oHB3 := HB3.out.opC; have fHB3 := HB3.out.foldC)
  | (go_at_call 41; (with_reducible refine (NA.out _ HB3.out.below).mono ?_); rintro e w4 ⟨x, bx, rfl, hx, hb⟩; clear hx; have HB4 := Lib.hid (HB3.out.next hb); clear hb; have oHB4 := HB4.out.opC; have fHB4 := HB4.out.foldC)
  | (go_at_call 41; (with_reducible refine (NV.out _ HB4.out.below).mono ?_); rintro e w5 ⟨y, yy, rfl, hy, hb⟩; clear hy; have HB5 := Lib.hid (HB4.out.next hb); clear hb; have oHB5 := HB5.out.opC; have fHB5 := HB5.out.foldC)
  | (go_at_call 42; (with_reducible refine (KE.out _ HB5.out.below).mono ?_); rintro e w6 ⟨rfl, hb⟩; have HB6 := Lib.hid (HB5.out.next hb); clear hb; have oHB6 := HB6.out.opC; have fHB6 := HB6.out.foldC)
  | (go_at_call 43; (with_reducible refine (K43.out _).mono ?_); rintro e w7 ⟨rfl, rfl⟩))
 go_ret
 exact ⟨rfl, HB6.out.below⟩

set_option maxHeartbeats 1600000 in
set_option maxRecDepth 100000 in
theorem spec_op_7_false (L : LibC B EC low eqf) (a : ByteArray) (m : Int) (c : CellD) (w : World) (ha : a.size ≤ 400) (hc : CellOkD c) (hE : EC w) :
  Calls Tryz.prog 25 #[.string a, .agg #[.int .i64 m, .int .i64 7, .int .i64 c.kind, .string c.text, .int .i64 c.n, .bool false]] w (BoolOut (!hasB (a) ((saidOf c))) w) := by
 have K26 := Lib.hid (fun w => spec_said c w hc)
 have NA := Lib.hid (fun w1 (hb : Below w.heap.size w w1) => spec_number L a ha w1 (L.after hE hb))
 have NV := Lib.hid (fun w1 (hb : Below w.heap.size w w1) => spec_number L (saidOf c) hc.said w1 (L.after hE hb))
 have zA : a.size ≤ 2147483647 := by omega
 have zV : (saidOf c).size ≤ 2147483647 := by have := hc.said; omega
 unfold cellV at K26
 obtain ⟨ck, ct, cn⟩ := c
 dsimp only at K26
 generalize saidOf ⟨ck, ct, cn⟩ = v at *
 clear hE hc ha L
 have K43 := Lib.hid (fun w => spec_has a v w zA zV)
 clear zA zV
 generalize hasB a v = q at *
 go_enter Tryz.func25, Tryz.ntmps25
 go_wp2_with (first
  | (go_at_call 26; (with_reducible refine (K26.out _).mono ?_); rintro e w1 ⟨rfl, hb⟩; have HB := Lib.hid (Held.first hb); clear hb; have oHB := HB.out.opC; have fHB := HB.out.foldC)
  | (go_at_call 41; (with_reducible refine (NA.out _ HB.out.below).mono ?_); rintro e w4 ⟨x, bx, rfl, hx, hb⟩; clear hx; have HB4 := Lib.hid (HB.out.next hb); clear hb; have oHB4 := HB4.out.opC; have fHB4 := HB4.out.foldC)
  | (go_at_call 41; (with_reducible refine (NV.out _ HB4.out.below).mono ?_); rintro e w5 ⟨y, yy, rfl, hy, hb⟩; clear hy; have HB5 := Lib.hid (HB4.out.next hb); clear hb; have oHB5 := HB5.out.opC; have fHB5 := HB5.out.foldC)
  | (go_at_call 43; (with_reducible refine (K43.out _).mono ?_); rintro e w7 ⟨rfl, rfl⟩))
 go_ret
 exact ⟨rfl, HB5.out.below⟩

set_option maxHeartbeats 1600000 in
set_option maxRecDepth 100000 in
theorem spec_op_8_true (L : LibC B EC low eqf) (a : ByteArray) (m : Int) (c : CellD) (w : World) (ha : a.size ≤ 400) (hc : CellOkD c) (hE : EC w) :
  Calls Tryz.prog 25 #[.string a, .agg #[.int .i64 m, .int .i64 8, .int .i64 c.kind, .string c.text, .int .i64 c.n, .bool true]] w (BoolOut (preB (low a) (low (saidOf c))) w) := by
 have K26 := Lib.hid (fun w => spec_said c w hc)
 have NA := Lib.hid (fun w1 (hb : Below w.heap.size w w1) => spec_number L a ha w1 (L.after hE hb))
 have NV := Lib.hid (fun w1 (hb : Below w.heap.size w w1) => spec_number L (saidOf c) hc.said w1 (L.after hE hb))
 have KA := Lib.hid (fun w1 (hb : Below w.heap.size w w1) => L.lowC a w1 ha (L.after hE hb))
 have KV := Lib.hid (fun w1 (hb : Below w.heap.size w w1) => L.lowC (saidOf c) w1 hc.said (L.after hE hb))
 have KE := Lib.hid (fun w1 (hb : Below w.heap.size w w1) => L.eqfC a (saidOf c) w1 ha hc.said (L.after hE hb))
 have zA := L.lowSize a ha
 have zV := L.lowSize _ hc.said
 unfold cellV at K26
 obtain ⟨ck, ct, cn⟩ := c
 dsimp only at K26
 generalize saidOf ⟨ck, ct, cn⟩ = v at *
 clear hE hc ha L
 generalize low a = A at *
 generalize low v = V at *
 by_cases h : V.size ≤ A.size
 ·by_cases c : A.extract 0 V.size = V
  ·have HC : Hid (preB A V = true) := decide_eq_true ⟨h, c⟩
   have k : decide ((V.size : Int) ≤ (A.size : Int)) = true := decide_eq_true (by omega)
   go_enter Tryz.func25, Tryz.ntmps25
   go_wp2_with (first
    | (go_at_call 26; (with_reducible refine (K26.out _).mono ?_); rintro e w1 ⟨rfl, hb⟩; have HB := Lib.hid (Held.first hb); clear hb; have oHB := HB.out.opC; have fHB := HB.out.foldC)
    | (go_at_call 40; (with_reducible refine (KA.out _ HB.out.below).mono ?_); rintro e w2 ⟨rfl, hb⟩; have HB2 := Lib.hid (HB.out.next hb); clear hb; have oHB2 := HB2.out.opC; have fHB2 := HB2.out.foldC)
    | (go_at_call 40; (with_reducible refine (KV.out _ HB2.out.below).mono ?_); rintro e w3 ⟨rfl, hb⟩; have HB3 := Lib.hid (HB2.out.next hb); clear hb; have oHB3 := HB3.out.opC; have fHB3 := HB3.out.foldC)
    | (go_at_call 41; (with_reducible refine (NA.out _ HB3.out.below).mono ?_); rintro e w4 ⟨x, bx, rfl, hx, hb⟩; clear hx; have HB4 := Lib.hid (HB3.out.next hb); clear hb; have oHB4 := HB4.out.opC; have fHB4 := HB4.out.foldC)
    | (go_at_call 41; (with_reducible refine (NV.out _ HB4.out.below).mono ?_); rintro e w5 ⟨y, yy, rfl, hy, hb⟩; clear hy; have HB5 := Lib.hid (HB4.out.next hb); clear hb; have oHB5 := HB5.out.opC; have fHB5 := HB5.out.foldC)
    | (go_at_call 42; (with_reducible refine (KE.out _ HB5.out.below).mono ?_); rintro e w6 ⟨rfl, hb⟩; have HB6 := Lib.hid (HB5.out.next hb); clear hb; have oHB6 := HB6.out.opC; have fHB6 := HB6.out.foldC))
   go_ret
   exact ⟨by rw [HC.out]; rfl, HB6.out.below⟩
  ·have HC : Hid (preB A V = false) := decide_eq_false fun h => c h.2
   have k : decide ((V.size : Int) ≤ (A.size : Int)) = true := decide_eq_true (by omega)
   have kc := text_ne c
   clear c
   go_enter Tryz.func25, Tryz.ntmps25
   go_wp2_with (first
    | (go_at_call 26; (with_reducible refine (K26.out _).mono ?_); rintro e w1 ⟨rfl, hb⟩; have HB := Lib.hid (Held.first hb); clear hb; have oHB := HB.out.opC; have fHB := HB.out.foldC)
    | (go_at_call 40; (with_reducible refine (KA.out _ HB.out.below).mono ?_); rintro e w2 ⟨rfl, hb⟩; have HB2 := Lib.hid (HB.out.next hb); clear hb; have oHB2 := HB2.out.opC; have fHB2 := HB2.out.foldC)
    | (go_at_call 40; (with_reducible refine (KV.out _ HB2.out.below).mono ?_); rintro e w3 ⟨rfl, hb⟩; have HB3 := Lib.hid (HB2.out.next hb); clear hb; have oHB3 := HB3.out.opC; have fHB3 := HB3.out.foldC)
    | (go_at_call 41; (with_reducible refine (NA.out _ HB3.out.below).mono ?_); rintro e w4 ⟨x, bx, rfl, hx, hb⟩; clear hx; have HB4 := Lib.hid (HB3.out.next hb); clear hb; have oHB4 := HB4.out.opC; have fHB4 := HB4.out.foldC)
    | (go_at_call 41; (with_reducible refine (NV.out _ HB4.out.below).mono ?_); rintro e w5 ⟨y, yy, rfl, hy, hb⟩; clear hy; have HB5 := Lib.hid (HB4.out.next hb); clear hb; have oHB5 := HB5.out.opC; have fHB5 := HB5.out.foldC)
    | (go_at_call 42; (with_reducible refine (KE.out _ HB5.out.below).mono ?_); rintro e w6 ⟨rfl, hb⟩; have HB6 := Lib.hid (HB5.out.next hb); clear hb; have oHB6 := HB6.out.opC; have fHB6 := HB6.out.foldC))
   go_ret
   exact ⟨by rw [HC.out]; rfl, HB6.out.below⟩
 ·have HC : Hid (preB A V = false) := decide_eq_false fun h2 => h h2.1
  have k : decide ((V.size : Int) ≤ (A.size : Int)) = false := decide_eq_false (by omega)
  go_enter Tryz.func25, Tryz.ntmps25
  go_wp2_with (first
   | (go_at_call 26; (with_reducible refine (K26.out _).mono ?_); rintro e w1 ⟨rfl, hb⟩; have HB := Lib.hid (Held.first hb); clear hb; have oHB := HB.out.opC; have fHB := HB.out.foldC)
   | (go_at_call 40; (with_reducible refine (KA.out _ HB.out.below).mono ?_); rintro e w2 ⟨rfl, hb⟩; have HB2 := Lib.hid (HB.out.next hb); clear hb; have oHB2 := HB2.out.opC; have fHB2 := HB2.out.foldC)
   | (go_at_call 40; (with_reducible refine (KV.out _ HB2.out.below).mono ?_); rintro e w3 ⟨rfl, hb⟩; have HB3 := Lib.hid (HB2.out.next hb); clear hb; have oHB3 := HB3.out.opC; have fHB3 := HB3.out.foldC)
   | (go_at_call 41; (with_reducible refine (NA.out _ HB3.out.below).mono ?_); rintro e w4 ⟨x, bx, rfl, hx, hb⟩; clear hx; have HB4 := Lib.hid (HB3.out.next hb); clear hb; have oHB4 := HB4.out.opC; have fHB4 := HB4.out.foldC)
   | (go_at_call 41; (with_reducible refine (NV.out _ HB4.out.below).mono ?_); rintro e w5 ⟨y, yy, rfl, hy, hb⟩; clear hy; have HB5 := Lib.hid (HB4.out.next hb); clear hb; have oHB5 := HB5.out.opC; have fHB5 := HB5.out.foldC)
   | (go_at_call 42; (with_reducible refine (KE.out _ HB5.out.below).mono ?_); rintro e w6 ⟨rfl, hb⟩; have HB6 := Lib.hid (HB5.out.next hb); clear hb; have oHB6 := HB6.out.opC; have fHB6 := HB6.out.foldC))
  go_ret
  exact ⟨by rw [HC.out]; rfl, HB6.out.below⟩

set_option maxHeartbeats 1600000 in
set_option maxRecDepth 100000 in
theorem spec_op_8_false (L : LibC B EC low eqf) (a : ByteArray) (m : Int) (c : CellD) (w : World) (ha : a.size ≤ 400) (hc : CellOkD c) (hE : EC w) :
  Calls Tryz.prog 25 #[.string a, .agg #[.int .i64 m, .int .i64 8, .int .i64 c.kind, .string c.text, .int .i64 c.n, .bool false]] w (BoolOut (preB (a) ((saidOf c))) w) := by
 have K26 := Lib.hid (fun w => spec_said c w hc)
 have NA := Lib.hid (fun w1 (hb : Below w.heap.size w w1) => spec_number L a ha w1 (L.after hE hb))
 have NV := Lib.hid (fun w1 (hb : Below w.heap.size w w1) => spec_number L (saidOf c) hc.said w1 (L.after hE hb))
 have zA : a.size ≤ 2147483647 := by omega
 have zV : (saidOf c).size ≤ 2147483647 := by have := hc.said; omega
 unfold cellV at K26
 obtain ⟨ck, ct, cn⟩ := c
 dsimp only at K26
 generalize saidOf ⟨ck, ct, cn⟩ = v at *
 clear hE hc ha L
 by_cases h : v.size ≤ a.size
 ·by_cases c : a.extract 0 v.size = v
  ·have HC : Hid (preB a v = true) := decide_eq_true ⟨h, c⟩
   have k : decide ((v.size : Int) ≤ (a.size : Int)) = true := decide_eq_true (by omega)
   go_enter Tryz.func25, Tryz.ntmps25
   go_wp2_with (first
    | (go_at_call 26; (with_reducible refine (K26.out _).mono ?_); rintro e w1 ⟨rfl, hb⟩; have HB := Lib.hid (Held.first hb); clear hb; have oHB := HB.out.opC; have fHB := HB.out.foldC)
    | (go_at_call 41; (with_reducible refine (NA.out _ HB.out.below).mono ?_); rintro e w4 ⟨x, bx, rfl, hx, hb⟩; clear hx; have HB4 := Lib.hid (HB.out.next hb); clear hb; have oHB4 := HB4.out.opC; have fHB4 := HB4.out.foldC)
    | (go_at_call 41; (with_reducible refine (NV.out _ HB4.out.below).mono ?_); rintro e w5 ⟨y, yy, rfl, hy, hb⟩; clear hy; have HB5 := Lib.hid (HB4.out.next hb); clear hb; have oHB5 := HB5.out.opC; have fHB5 := HB5.out.foldC))
   go_ret
   exact ⟨by rw [HC.out]; rfl, HB5.out.below⟩
  ·have HC : Hid (preB a v = false) := decide_eq_false fun h => c h.2
   have k : decide ((v.size : Int) ≤ (a.size : Int)) = true := decide_eq_true (by omega)
   have kc := text_ne c
   clear c
   go_enter Tryz.func25, Tryz.ntmps25
   go_wp2_with (first
    | (go_at_call 26; (with_reducible refine (K26.out _).mono ?_); rintro e w1 ⟨rfl, hb⟩; have HB := Lib.hid (Held.first hb); clear hb; have oHB := HB.out.opC; have fHB := HB.out.foldC)
    | (go_at_call 41; (with_reducible refine (NA.out _ HB.out.below).mono ?_); rintro e w4 ⟨x, bx, rfl, hx, hb⟩; clear hx; have HB4 := Lib.hid (HB.out.next hb); clear hb; have oHB4 := HB4.out.opC; have fHB4 := HB4.out.foldC)
    | (go_at_call 41; (with_reducible refine (NV.out _ HB4.out.below).mono ?_); rintro e w5 ⟨y, yy, rfl, hy, hb⟩; clear hy; have HB5 := Lib.hid (HB4.out.next hb); clear hb; have oHB5 := HB5.out.opC; have fHB5 := HB5.out.foldC))
   go_ret
   exact ⟨by rw [HC.out]; rfl, HB5.out.below⟩
 ·have HC : Hid (preB a v = false) := decide_eq_false fun h2 => h h2.1
  have k : decide ((v.size : Int) ≤ (a.size : Int)) = false := decide_eq_false (by omega)
  go_enter Tryz.func25, Tryz.ntmps25
  go_wp2_with (first
   | (go_at_call 26; (with_reducible refine (K26.out _).mono ?_); rintro e w1 ⟨rfl, hb⟩; have HB := Lib.hid (Held.first hb); clear hb; have oHB := HB.out.opC; have fHB := HB.out.foldC)
   | (go_at_call 41; (with_reducible refine (NA.out _ HB.out.below).mono ?_); rintro e w4 ⟨x, bx, rfl, hx, hb⟩; clear hx; have HB4 := Lib.hid (HB.out.next hb); clear hb; have oHB4 := HB4.out.opC; have fHB4 := HB4.out.foldC)
   | (go_at_call 41; (with_reducible refine (NV.out _ HB4.out.below).mono ?_); rintro e w5 ⟨y, yy, rfl, hy, hb⟩; clear hy; have HB5 := Lib.hid (HB4.out.next hb); clear hb; have oHB5 := HB5.out.opC; have fHB5 := HB5.out.foldC))
  go_ret
  exact ⟨by rw [HC.out]; rfl, HB5.out.below⟩

set_option maxHeartbeats 1600000 in
set_option maxRecDepth 100000 in
theorem spec_op_9_true (L : LibC B EC low eqf) (a : ByteArray) (m : Int) (c : CellD) (w : World) (ha : a.size ≤ 400) (hc : CellOkD c) (hE : EC w) :
  Calls Tryz.prog 25 #[.string a, .agg #[.int .i64 m, .int .i64 9, .int .i64 c.kind, .string c.text, .int .i64 c.n, .bool true]] w (BoolOut (sufB (low a) (low (saidOf c))) w) := by
 have K26 := Lib.hid (fun w => spec_said c w hc)
 have NA := Lib.hid (fun w1 (hb : Below w.heap.size w w1) => spec_number L a ha w1 (L.after hE hb))
 have NV := Lib.hid (fun w1 (hb : Below w.heap.size w w1) => spec_number L (saidOf c) hc.said w1 (L.after hE hb))
 have KA := Lib.hid (fun w1 (hb : Below w.heap.size w w1) => L.lowC a w1 ha (L.after hE hb))
 have KV := Lib.hid (fun w1 (hb : Below w.heap.size w w1) => L.lowC (saidOf c) w1 hc.said (L.after hE hb))
 have KE := Lib.hid (fun w1 (hb : Below w.heap.size w w1) => L.eqfC a (saidOf c) w1 ha hc.said (L.after hE hb))
 have zA := L.lowSize a ha
 have zV := L.lowSize _ hc.said
 unfold cellV at K26
 obtain ⟨ck, ct, cn⟩ := c
 dsimp only at K26
 generalize saidOf ⟨ck, ct, cn⟩ = v at *
 clear hE hc ha L
 generalize low a = A at *
 generalize low v = V at *
 by_cases h : V.size ≤ A.size
 ·obtain ⟨d, hd⟩ : ∃ d, d = A.size - V.size := ⟨_, rfl⟩
  have e1 : (A.size : Int) - (V.size : Int) = (d : Int) := by omega
  have hdl : d ≤ A.size := by omega
  by_cases c : A.extract d A.size = V
  ·have HC : Hid (sufB A V = true) := decide_eq_true ⟨h, by rw [← hd]; exact c⟩
   have k : decide ((V.size : Int) ≤ (A.size : Int)) = true := decide_eq_true (by omega)
   clear hd
   go_enter Tryz.func25, Tryz.ntmps25
   go_wp2_with (first
    | (go_at_call 26; (with_reducible refine (K26.out _).mono ?_); rintro e w1 ⟨rfl, hb⟩; have HB := Lib.hid (Held.first hb); clear hb; have oHB := HB.out.opC; have fHB := HB.out.foldC)
    | (go_at_call 40; (with_reducible refine (KA.out _ HB.out.below).mono ?_); rintro e w2 ⟨rfl, hb⟩; have HB2 := Lib.hid (HB.out.next hb); clear hb; have oHB2 := HB2.out.opC; have fHB2 := HB2.out.foldC)
    | (go_at_call 40; (with_reducible refine (KV.out _ HB2.out.below).mono ?_); rintro e w3 ⟨rfl, hb⟩; have HB3 := Lib.hid (HB2.out.next hb); clear hb; have oHB3 := HB3.out.opC; have fHB3 := HB3.out.foldC)
    | (go_at_call 41; (with_reducible refine (NA.out _ HB3.out.below).mono ?_); rintro e w4 ⟨x, bx, rfl, hx, hb⟩; clear hx; have HB4 := Lib.hid (HB3.out.next hb); clear hb; have oHB4 := HB4.out.opC; have fHB4 := HB4.out.foldC)
    | (go_at_call 41; (with_reducible refine (NV.out _ HB4.out.below).mono ?_); rintro e w5 ⟨y, yy, rfl, hy, hb⟩; clear hy; have HB5 := Lib.hid (HB4.out.next hb); clear hb; have oHB5 := HB5.out.opC; have fHB5 := HB5.out.foldC)
    | (go_at_call 42; (with_reducible refine (KE.out _ HB5.out.below).mono ?_); rintro e w6 ⟨rfl, hb⟩; have HB6 := Lib.hid (HB5.out.next hb); clear hb; have oHB6 := HB6.out.opC; have fHB6 := HB6.out.foldC))
   go_ret
   exact ⟨by rw [HC.out]; rfl, HB6.out.below⟩
  ·have HC : Hid (sufB A V = false) := decide_eq_false fun h2 => c (by rw [hd]; exact h2.2)
   have k : decide ((V.size : Int) ≤ (A.size : Int)) = true := decide_eq_true (by omega)
   have kc := text_ne c
   clear hd c
   go_enter Tryz.func25, Tryz.ntmps25
   go_wp2_with (first
    | (go_at_call 26; (with_reducible refine (K26.out _).mono ?_); rintro e w1 ⟨rfl, hb⟩; have HB := Lib.hid (Held.first hb); clear hb; have oHB := HB.out.opC; have fHB := HB.out.foldC)
    | (go_at_call 40; (with_reducible refine (KA.out _ HB.out.below).mono ?_); rintro e w2 ⟨rfl, hb⟩; have HB2 := Lib.hid (HB.out.next hb); clear hb; have oHB2 := HB2.out.opC; have fHB2 := HB2.out.foldC)
    | (go_at_call 40; (with_reducible refine (KV.out _ HB2.out.below).mono ?_); rintro e w3 ⟨rfl, hb⟩; have HB3 := Lib.hid (HB2.out.next hb); clear hb; have oHB3 := HB3.out.opC; have fHB3 := HB3.out.foldC)
    | (go_at_call 41; (with_reducible refine (NA.out _ HB3.out.below).mono ?_); rintro e w4 ⟨x, bx, rfl, hx, hb⟩; clear hx; have HB4 := Lib.hid (HB3.out.next hb); clear hb; have oHB4 := HB4.out.opC; have fHB4 := HB4.out.foldC)
    | (go_at_call 41; (with_reducible refine (NV.out _ HB4.out.below).mono ?_); rintro e w5 ⟨y, yy, rfl, hy, hb⟩; clear hy; have HB5 := Lib.hid (HB4.out.next hb); clear hb; have oHB5 := HB5.out.opC; have fHB5 := HB5.out.foldC)
    | (go_at_call 42; (with_reducible refine (KE.out _ HB5.out.below).mono ?_); rintro e w6 ⟨rfl, hb⟩; have HB6 := Lib.hid (HB5.out.next hb); clear hb; have oHB6 := HB6.out.opC; have fHB6 := HB6.out.foldC))
   go_ret
   exact ⟨by rw [HC.out]; rfl, HB6.out.below⟩
 ·have HC : Hid (sufB A V = false) := decide_eq_false fun h2 => h h2.1
  have k : decide ((V.size : Int) ≤ (A.size : Int)) = false := decide_eq_false (by omega)
  go_enter Tryz.func25, Tryz.ntmps25
  go_wp2_with (first
   | (go_at_call 26; (with_reducible refine (K26.out _).mono ?_); rintro e w1 ⟨rfl, hb⟩; have HB := Lib.hid (Held.first hb); clear hb; have oHB := HB.out.opC; have fHB := HB.out.foldC)
   | (go_at_call 40; (with_reducible refine (KA.out _ HB.out.below).mono ?_); rintro e w2 ⟨rfl, hb⟩; have HB2 := Lib.hid (HB.out.next hb); clear hb; have oHB2 := HB2.out.opC; have fHB2 := HB2.out.foldC)
   | (go_at_call 40; (with_reducible refine (KV.out _ HB2.out.below).mono ?_); rintro e w3 ⟨rfl, hb⟩; have HB3 := Lib.hid (HB2.out.next hb); clear hb; have oHB3 := HB3.out.opC; have fHB3 := HB3.out.foldC)
   | (go_at_call 41; (with_reducible refine (NA.out _ HB3.out.below).mono ?_); rintro e w4 ⟨x, bx, rfl, hx, hb⟩; clear hx; have HB4 := Lib.hid (HB3.out.next hb); clear hb; have oHB4 := HB4.out.opC; have fHB4 := HB4.out.foldC)
   | (go_at_call 41; (with_reducible refine (NV.out _ HB4.out.below).mono ?_); rintro e w5 ⟨y, yy, rfl, hy, hb⟩; clear hy; have HB5 := Lib.hid (HB4.out.next hb); clear hb; have oHB5 := HB5.out.opC; have fHB5 := HB5.out.foldC)
   | (go_at_call 42; (with_reducible refine (KE.out _ HB5.out.below).mono ?_); rintro e w6 ⟨rfl, hb⟩; have HB6 := Lib.hid (HB5.out.next hb); clear hb; have oHB6 := HB6.out.opC; have fHB6 := HB6.out.foldC))
  go_ret
  exact ⟨by rw [HC.out]; rfl, HB6.out.below⟩

set_option maxHeartbeats 1600000 in
set_option maxRecDepth 100000 in
theorem spec_op_9_false (L : LibC B EC low eqf) (a : ByteArray) (m : Int) (c : CellD) (w : World) (ha : a.size ≤ 400) (hc : CellOkD c) (hE : EC w) :
  Calls Tryz.prog 25 #[.string a, .agg #[.int .i64 m, .int .i64 9, .int .i64 c.kind, .string c.text, .int .i64 c.n, .bool false]] w (BoolOut (sufB (a) ((saidOf c))) w) := by
 have K26 := Lib.hid (fun w => spec_said c w hc)
 have NA := Lib.hid (fun w1 (hb : Below w.heap.size w w1) => spec_number L a ha w1 (L.after hE hb))
 have NV := Lib.hid (fun w1 (hb : Below w.heap.size w w1) => spec_number L (saidOf c) hc.said w1 (L.after hE hb))
 have zA : a.size ≤ 2147483647 := by omega
 have zV : (saidOf c).size ≤ 2147483647 := by have := hc.said; omega
 unfold cellV at K26
 obtain ⟨ck, ct, cn⟩ := c
 dsimp only at K26
 generalize saidOf ⟨ck, ct, cn⟩ = v at *
 clear hE hc ha L
 by_cases h : v.size ≤ a.size
 ·obtain ⟨d, hd⟩ : ∃ d, d = a.size - v.size := ⟨_, rfl⟩
  have e1 : (a.size : Int) - (v.size : Int) = (d : Int) := by omega
  have hdl : d ≤ a.size := by omega
  by_cases c : a.extract d a.size = v
  ·have HC : Hid (sufB a v = true) := decide_eq_true ⟨h, by rw [← hd]; exact c⟩
   have k : decide ((v.size : Int) ≤ (a.size : Int)) = true := decide_eq_true (by omega)
   clear hd
   go_enter Tryz.func25, Tryz.ntmps25
   go_wp2_with (first
    | (go_at_call 26; (with_reducible refine (K26.out _).mono ?_); rintro e w1 ⟨rfl, hb⟩; have HB := Lib.hid (Held.first hb); clear hb; have oHB := HB.out.opC; have fHB := HB.out.foldC)
    | (go_at_call 41; (with_reducible refine (NA.out _ HB.out.below).mono ?_); rintro e w4 ⟨x, bx, rfl, hx, hb⟩; clear hx; have HB4 := Lib.hid (HB.out.next hb); clear hb; have oHB4 := HB4.out.opC; have fHB4 := HB4.out.foldC)
    | (go_at_call 41; (with_reducible refine (NV.out _ HB4.out.below).mono ?_); rintro e w5 ⟨y, yy, rfl, hy, hb⟩; clear hy; have HB5 := Lib.hid (HB4.out.next hb); clear hb; have oHB5 := HB5.out.opC; have fHB5 := HB5.out.foldC))
   go_ret
   exact ⟨by rw [HC.out]; rfl, HB5.out.below⟩
  ·have HC : Hid (sufB a v = false) := decide_eq_false fun h2 => c (by rw [hd]; exact h2.2)
   have k : decide ((v.size : Int) ≤ (a.size : Int)) = true := decide_eq_true (by omega)
   have kc := text_ne c
   clear hd c
   go_enter Tryz.func25, Tryz.ntmps25
   go_wp2_with (first
    | (go_at_call 26; (with_reducible refine (K26.out _).mono ?_); rintro e w1 ⟨rfl, hb⟩; have HB := Lib.hid (Held.first hb); clear hb; have oHB := HB.out.opC; have fHB := HB.out.foldC)
    | (go_at_call 41; (with_reducible refine (NA.out _ HB.out.below).mono ?_); rintro e w4 ⟨x, bx, rfl, hx, hb⟩; clear hx; have HB4 := Lib.hid (HB.out.next hb); clear hb; have oHB4 := HB4.out.opC; have fHB4 := HB4.out.foldC)
    | (go_at_call 41; (with_reducible refine (NV.out _ HB4.out.below).mono ?_); rintro e w5 ⟨y, yy, rfl, hy, hb⟩; clear hy; have HB5 := Lib.hid (HB4.out.next hb); clear hb; have oHB5 := HB5.out.opC; have fHB5 := HB5.out.foldC))
   go_ret
   exact ⟨by rw [HC.out]; rfl, HB5.out.below⟩
 ·have HC : Hid (sufB a v = false) := decide_eq_false fun h2 => h h2.1
  have k : decide ((v.size : Int) ≤ (a.size : Int)) = false := decide_eq_false (by omega)
  go_enter Tryz.func25, Tryz.ntmps25
  go_wp2_with (first
   | (go_at_call 26; (with_reducible refine (K26.out _).mono ?_); rintro e w1 ⟨rfl, hb⟩; have HB := Lib.hid (Held.first hb); clear hb; have oHB := HB.out.opC; have fHB := HB.out.foldC)
   | (go_at_call 41; (with_reducible refine (NA.out _ HB.out.below).mono ?_); rintro e w4 ⟨x, bx, rfl, hx, hb⟩; clear hx; have HB4 := Lib.hid (HB.out.next hb); clear hb; have oHB4 := HB4.out.opC; have fHB4 := HB4.out.foldC)
   | (go_at_call 41; (with_reducible refine (NV.out _ HB4.out.below).mono ?_); rintro e w5 ⟨y, yy, rfl, hy, hb⟩; clear hy; have HB5 := Lib.hid (HB4.out.next hb); clear hb; have oHB5 := HB5.out.opC; have fHB5 := HB5.out.foldC))
  go_ret
  exact ⟨by rw [HC.out]; rfl, HB5.out.below⟩

set_option maxHeartbeats 1600000 in
set_option maxRecDepth 100000 in
theorem spec_op_other_true (L : LibC B EC low eqf) (a : ByteArray) (m op : Int) (c : CellD) (w : World) (ha : a.size ≤ 400) (hc : CellOkD c) (hE : EC w) (h : op < 0 ∨ 9 < op) :
  Calls Tryz.prog 25 #[.string a, .agg #[.int .i64 m, .int .i64 op, .int .i64 c.kind, .string c.text, .int .i64 c.n, .bool true]] w (BoolOut (false) w) := by
 have K26 := Lib.hid (fun w => spec_said c w hc)
 have NA := Lib.hid (fun w1 (hb : Below w.heap.size w w1) => spec_number L a ha w1 (L.after hE hb))
 have NV := Lib.hid (fun w1 (hb : Below w.heap.size w w1) => spec_number L (saidOf c) hc.said w1 (L.after hE hb))
 have KA := Lib.hid (fun w1 (hb : Below w.heap.size w w1) => L.lowC a w1 ha (L.after hE hb))
 have KV := Lib.hid (fun w1 (hb : Below w.heap.size w w1) => L.lowC (saidOf c) w1 hc.said (L.after hE hb))
 have KE := Lib.hid (fun w1 (hb : Below w.heap.size w w1) => L.eqfC a (saidOf c) w1 ha hc.said (L.after hE hb))
 have zA := L.lowSize a ha
 have zV := L.lowSize _ hc.said
 unfold cellV at K26
 obtain ⟨ck, ct, cn⟩ := c
 dsimp only at K26
 generalize saidOf ⟨ck, ct, cn⟩ = v at *
 clear hE hc ha L
 clear zA zV
 have k0 : (op == 0) = false := beq_eq_false_iff_ne.2 (by omega)
 have k1 : (op == 1) = false := beq_eq_false_iff_ne.2 (by omega)
 have k2 : (op == 2) = false := beq_eq_false_iff_ne.2 (by omega)
 have k3 : (op == 3) = false := beq_eq_false_iff_ne.2 (by omega)
 have k4 : (op == 4) = false := beq_eq_false_iff_ne.2 (by omega)
 have k5 : (op == 5) = false := beq_eq_false_iff_ne.2 (by omega)
 have k6 : (op == 6) = false := beq_eq_false_iff_ne.2 (by omega)
 have k7 : (op == 7) = false := beq_eq_false_iff_ne.2 (by omega)
 have k8 : (op == 8) = false := beq_eq_false_iff_ne.2 (by omega)
 have k9 : (op == 9) = false := beq_eq_false_iff_ne.2 (by omega)
 clear h
 go_enter Tryz.func25, Tryz.ntmps25
 go_wp2_with (first
  | (go_at_call 26; (with_reducible refine (K26.out _).mono ?_); rintro e w1 ⟨rfl, hb⟩; have HB := Lib.hid (Held.first hb); clear hb; have oHB := HB.out.opC; have fHB := HB.out.foldC)
  | (go_at_call 40; (with_reducible refine (KA.out _ HB.out.below).mono ?_); rintro e w2 ⟨rfl, hb⟩; have HB2 := Lib.hid (HB.out.next hb); clear hb; have oHB2 := HB2.out.opC; have fHB2 := HB2.out.foldC)
  | (go_at_call 40; (with_reducible refine (KV.out _ HB2.out.below).mono ?_); rintro e w3 ⟨rfl, hb⟩; have HB3 := Lib.hid (HB2.out.next hb); clear hb; have oHB3 := HB3.out.opC; have fHB3 := HB3.out.foldC)
  | (go_at_call 41; (with_reducible refine (NA.out _ HB3.out.below).mono ?_); rintro e w4 ⟨x, bx, rfl, hx, hb⟩; clear hx; have HB4 := Lib.hid (HB3.out.next hb); clear hb; have oHB4 := HB4.out.opC; have fHB4 := HB4.out.foldC)
  | (go_at_call 41; (with_reducible refine (NV.out _ HB4.out.below).mono ?_); rintro e w5 ⟨y, yy, rfl, hy, hb⟩; clear hy; have HB5 := Lib.hid (HB4.out.next hb); clear hb; have oHB5 := HB5.out.opC; have fHB5 := HB5.out.foldC)
  | (go_at_call 42; (with_reducible refine (KE.out _ HB5.out.below).mono ?_); rintro e w6 ⟨rfl, hb⟩; have HB6 := Lib.hid (HB5.out.next hb); clear hb; have oHB6 := HB6.out.opC; have fHB6 := HB6.out.foldC))
 go_ret
 exact ⟨rfl, HB6.out.below⟩

set_option maxHeartbeats 1600000 in
set_option maxRecDepth 100000 in
theorem spec_op_other_false (L : LibC B EC low eqf) (a : ByteArray) (m op : Int) (c : CellD) (w : World) (ha : a.size ≤ 400) (hc : CellOkD c) (hE : EC w) (h : op < 0 ∨ 9 < op) :
  Calls Tryz.prog 25 #[.string a, .agg #[.int .i64 m, .int .i64 op, .int .i64 c.kind, .string c.text, .int .i64 c.n, .bool false]] w (BoolOut (false) w) := by
 have K26 := Lib.hid (fun w => spec_said c w hc)
 have NA := Lib.hid (fun w1 (hb : Below w.heap.size w w1) => spec_number L a ha w1 (L.after hE hb))
 have NV := Lib.hid (fun w1 (hb : Below w.heap.size w w1) => spec_number L (saidOf c) hc.said w1 (L.after hE hb))
 have zA : a.size ≤ 2147483647 := by omega
 have zV : (saidOf c).size ≤ 2147483647 := by have := hc.said; omega
 unfold cellV at K26
 obtain ⟨ck, ct, cn⟩ := c
 dsimp only at K26
 generalize saidOf ⟨ck, ct, cn⟩ = v at *
 clear hE hc ha L
 clear zA zV
 have k0 : (op == 0) = false := beq_eq_false_iff_ne.2 (by omega)
 have k1 : (op == 1) = false := beq_eq_false_iff_ne.2 (by omega)
 have k2 : (op == 2) = false := beq_eq_false_iff_ne.2 (by omega)
 have k3 : (op == 3) = false := beq_eq_false_iff_ne.2 (by omega)
 have k4 : (op == 4) = false := beq_eq_false_iff_ne.2 (by omega)
 have k5 : (op == 5) = false := beq_eq_false_iff_ne.2 (by omega)
 have k6 : (op == 6) = false := beq_eq_false_iff_ne.2 (by omega)
 have k7 : (op == 7) = false := beq_eq_false_iff_ne.2 (by omega)
 have k8 : (op == 8) = false := beq_eq_false_iff_ne.2 (by omega)
 have k9 : (op == 9) = false := beq_eq_false_iff_ne.2 (by omega)
 clear h
 go_enter Tryz.func25, Tryz.ntmps25
 go_wp2_with (first
  | (go_at_call 26; (with_reducible refine (K26.out _).mono ?_); rintro e w1 ⟨rfl, hb⟩; have HB := Lib.hid (Held.first hb); clear hb; have oHB := HB.out.opC; have fHB := HB.out.foldC)
  | (go_at_call 41; (with_reducible refine (NA.out _ HB.out.below).mono ?_); rintro e w4 ⟨x, bx, rfl, hx, hb⟩; clear hx; have HB4 := Lib.hid (HB.out.next hb); clear hb; have oHB4 := HB4.out.opC; have fHB4 := HB4.out.foldC)
  | (go_at_call 41; (with_reducible refine (NV.out _ HB4.out.below).mono ?_); rintro e w5 ⟨y, yy, rfl, hy, hb⟩; clear hy; have HB5 := Lib.hid (HB4.out.next hb); clear hb; have oHB5 := HB5.out.opC; have fHB5 := HB5.out.foldC))
 go_ret
 exact ⟨rfl, HB5.out.below⟩

theorem spec_match (L : LibC B EC low eqf) (a : ByteArray) (f : FiltD) (w : World) (ha : a.size ≤ 400) (hc : CellOkD f.value) (hE : EC w) :
  Calls Tryz.prog 25 #[.string a, filtV f] w (BoolOut (matchB low eqf f.op f.fold a (saidOf f.value)) w) := by
 obtain ⟨m, op, c, fold⟩ := f
 unfold filtV matchB sameB folded
 dsimp only at hc ⊢
 by_cases h : op < 0 ∨ 9 < op
 ·have e : ∀ k : Int, 0 ≤ k → k ≤ 9 → ¬ op = k := by intro k h0 h9 hk; omega
  rw [if_neg (e 0 (by decide) (by decide)), if_neg (e 1 (by decide) (by decide)), if_neg (e 2 (by decide) (by decide)), if_neg (e 3 (by decide) (by decide)), if_neg (e 4 (by decide) (by decide)),
   if_neg (e 5 (by decide) (by decide)), if_neg (e 6 (by decide) (by decide)), if_neg (e 7 (by decide) (by decide)), if_neg (e 8 (by decide) (by decide)), if_neg (e 9 (by decide) (by decide))]
  cases fold
  ·exact spec_op_other_false L a m op c w ha hc hE h
  ·exact spec_op_other_true L a m op c w ha hc hE h
 ·have h2 : op = 0 ∨ op = 1 ∨ op = 2 ∨ op = 3 ∨ op = 4 ∨ op = 5 ∨ op = 6 ∨ op = 7 ∨ op = 8 ∨ op = 9 := by omega
  rcases h2 with rfl | rfl | rfl | rfl | rfl | rfl | rfl | rfl | rfl | rfl
  all_goals cases fold
  ·exact spec_op_0_false L a m c w ha hc hE
  ·exact spec_op_0_true L a m c w ha hc hE
  ·exact spec_op_1_false L a m c w ha hc hE
  ·exact spec_op_1_true L a m c w ha hc hE
  ·exact spec_op_num_false L a m _ c w ha hc hE (by simp)
  ·exact spec_op_num_true L a m _ c w ha hc hE (by simp)
  ·exact spec_op_num_false L a m _ c w ha hc hE (by simp)
  ·exact spec_op_num_true L a m _ c w ha hc hE (by simp)
  ·exact spec_op_num_false L a m _ c w ha hc hE (by simp)
  ·exact spec_op_num_true L a m _ c w ha hc hE (by simp)
  ·exact spec_op_num_false L a m _ c w ha hc hE (by simp)
  ·exact spec_op_num_true L a m _ c w ha hc hE (by simp)
  ·exact spec_op_6_false L a m c w ha hc hE
  ·exact spec_op_6_true L a m c w ha hc hE
  ·exact spec_op_7_false L a m c w ha hc hE
  ·exact spec_op_7_true L a m c w ha hc hE
  ·exact spec_op_8_false L a m c w ha hc hE
  ·exact spec_op_8_true L a m c w ha hc hE
  ·exact spec_op_9_false L a m c w ha hc hE
  ·exact spec_op_9_true L a m c w ha hc hE

end

end Go.Proofs.YtgolhmiocjpohaaGreatDoor
