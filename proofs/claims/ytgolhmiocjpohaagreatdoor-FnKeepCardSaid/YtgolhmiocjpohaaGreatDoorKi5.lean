/- What stays of memory while a table grows: plain. No condition. A row is appended to the table (18). No condition beyond sizes. -/
import Derived.Laws.CopyOwn
import Derived.Test.YtgolhmiocjpohaaGreatDoorPk0
set_option linter.unusedVariables false
set_option linter.unusedSimpArgs false
namespace Go.Proofs.YtgolhmiocjpohaaGreatDoor
open Go.RowKit Go.PlainAid

/-- All stays but the blocks that Z names. -/
structure Fr (Z : Nat → Prop) (w w' : World) : Prop where
 os : w'.os = w.os
 tape : w'.tape = w.tape
 output : w'.output = w.output
 size : w.heap.size ≤ w'.heap.size
 block : ∀ k, k < w.heap.size → ¬ Z k → w'.heap[k]? = w.heap[k]?

theorem Fr.refl (Z : Nat → Prop) (w : World) : Fr Z w w := ⟨rfl, rfl, rfl, Nat.le_refl _, fun _ _ _ => rfl⟩
theorem Fr.trans {Z Z' : Nat → Prop} {w w1 w2 : World} (h : Fr Z w w1) (h2 : Fr Z' w1 w2) (hZ : ∀ k, k < w.heap.size → Z' k → Z k) : Fr Z w w2 :=
 ⟨h2.os.trans h.os, h2.tape.trans h.tape, h2.output.trans h.output, Nat.le_trans h.size h2.size, fun k hk hn => (h2.block k (Nat.lt_of_lt_of_le hk h.size) fun hz => hn (hZ k hk hz)).trans (h.block k hk hn)⟩
theorem Fr.then {Z : Nat → Prop} {w w1 w2 : World} (h : Fr Z w w1) (h2 : Below w1.heap.size w1 w2) : Fr Z w w2 :=
 ⟨h2.os.trans h.os, h2.tape.trans h.tape, h2.output.trans h.output, Nat.le_trans h.size h2.size, fun k hk hn => (h2.block k (Nat.lt_of_lt_of_le hk h.size)).trans (h.block k hk hn)⟩
theorem Fr.of {Z : Nat → Prop} {w w' : World} (h : Below w.heap.size w w') : Fr Z w w' := ⟨h.os, h.tape, h.output, h.size, fun k hk _ => h.block k hk⟩
theorem Fr.grown {Z : Nat → Prop} {w w1 w2 : World} {row : Option Nat} (h : Fr Z w w1) (hg : w1.grownBy w2 row) (hZ : ∀ k, k < w.heap.size → row = some k → Z k) : Fr Z w w2 :=
 ⟨hg.os.trans h.os, hg.tape.trans h.tape, hg.output.trans h.output, Nat.le_trans h.size hg.size, fun k hk hn => (hg.block k (Nat.lt_of_lt_of_le hk h.size) fun e => hn (hZ k hk e.symm)).trans (h.block k hk hn)⟩
theorem Fr.set {Z : Nat → Prop} {w w1 : World} (h : Fr Z w w1) (b i : Nat) (v : Value) (hZ : Z b) : Fr Z w (w1.setCell ⟨b, i, none⟩ v) :=
 ⟨h.os, h.tape, h.output, by have := h.size; simpa [World.setCell] using this, fun k hk hn => (set_other (fun e => hn (by rw [← e]; exact hZ)) i v).trans (h.block k hk hn)⟩
theorem Fr.setNew {Z : Nat → Prop} {w w1 : World} (h : Fr Z w w1) (b i : Nat) (v : Value) (hb : w.heap.size ≤ b) : Fr Z w (w1.setCell ⟨b, i, none⟩ v) :=
 ⟨h.os, h.tape, h.output, by have := h.size; simpa [World.setCell] using this, fun k hk hn => (set_other (by omega) i v).trans (h.block k hk hn)⟩
theorem Fr.below {Z : Nat → Prop} {w w' : World} {B : Nat} (h : Fr Z w w') (hB : B ≤ w.heap.size) (hZ : ∀ k, Z k → B ≤ k) : Below B w w' :=
 ⟨h.os, h.tape, h.output, h.size, fun k hk => h.block k (by omega) fun hz => by have := hZ k hz; omega⟩
theorem Only.fr {tb : Nat} {w w' : World} (h : Only tb w w') : Fr (fun k => k = tb) w w' := ⟨h.os, h.tape, h.output, h.size, fun k hk hn => h.block k hk hn⟩

theorem own_same {w w' : World} {base size n : Nat} {e : TypeId} {v : Value} {xs : List Value} (h : w.ownsRow base e size v n xs) (hk : ∀ g, v.ownBlock = some g → g < w.heap.size → w'.heap[g]? = w.heap[g]?) : w'.ownsRow base e size v n xs := by
 obtain ⟨h1, h2 | ⟨g, cap, cur, rfl, hb, hg, r⟩⟩ := h
 ·exact ⟨h1, Or.inl h2⟩
 ·exact ⟨h1, Or.inr ⟨g, cap, cur, rfl, hb, (hk g rfl (Array.getElem?_eq_some_iff.1 hg).1).trans hg, r⟩⟩
theorem own_obj {w : World} {base size n g : Nat} {e : TypeId} {v : Value} {xs : List Value} (h : w.ownsRow base e size v n xs) (hv : v.ownBlock = some g) : ∃ cur, w.heap[g]? = some (.cells cur e (0, 0)) := by
 obtain ⟨h1, ⟨rfl, _⟩ | ⟨g', cap, cur, rfl, hb, hg, r⟩⟩ := h
 ·cases hv
 ·cases hv; exact ⟨cur, hg⟩

/-- A row laid anew, in a block of its own. -/
def CopyIs (w : World) (v : Value) (vals : List Value) : Prop := ∃ g, v = .slice (some ⟨g, 0, none⟩) vals.length vals.length ∧ w.heap[g]? = some (.cells vals.toArray 20 (0, 0))
theorem CopyIs.fr {Z : Nat → Prop} {w w' : World} {v : Value} {vals : List Value} (h : CopyIs w v vals) (hf : Fr Z w w') (hZ : ∀ k cs, w.heap[k]? = some (.cells cs 20 (0, 0)) → ¬ Z k) : CopyIs w' v vals := by
 obtain ⟨g, h1, h2⟩ := h
 exact ⟨g, h1, (hf.block g (Array.getElem?_eq_some_iff.1 h2).1 (hZ g _ h2)).trans h2⟩
theorem CopyIs.vals {w : World} {v : Value} {vals : List Value} (h : CopyIs w v vals) : ∃ R, v = .slice R vals.length vals.length ∧ ValsAt w R vals := by
 obtain ⟨g, h1, h2⟩ := h
 refine ⟨_, h1, Or.inr ⟨g, 0, rfl, (Array.getElem?_eq_some_iff.1 h2).1, fun i hi => ?_⟩⟩
 rw [cell_of_row w g (0 + i) _ _ _ h2, List.getD_eq_getElem?_getD, Nat.zero_add, List.getElem?_eq_getElem hi]
 simp [hi]
theorem CopyIs.below {w w' : World} {v : Value} {vals : List Value} (h : CopyIs w v vals) (hb : Below w.heap.size w w') : CopyIs w' v vals := h.fr (Z := fun _ => False) (Fr.of hb) fun _ _ _ => id

/-- The blocks that an appended row may turn. -/
def Zrow (tb : Nat) (vA vB : Value) (k : Nat) : Prop := k = tb ∨ vA.ownBlock = some k ∨ vB.ownBlock = some k
theorem not_zrow {w : World} {tb base n1 n2 k : Nat} {c a b m f vA vB : Value} {xa xb : List Value} (ht : TbAt w tb c a b m f) (ha : w.ownsRow base 74 1 vA n1 xa) (hb : w.ownsRow base 74 1 vB n2 xb)
  (hk : ∀ cs fr, w.heap[k]? ≠ some (.cells cs 71 fr) ∧ w.heap[k]? ≠ some (.cells cs 74 fr)) : ¬ Zrow tb vA vB k := by
 rintro (rfl | h | h)
 ·exact (hk _ _).1 ht
 ·obtain ⟨cur, hc⟩ := own_obj ha h
  exact (hk _ _).2 hc
 ·obtain ⟨cur, hc⟩ := own_obj hb h
  exact (hk _ _).2 hc

end Go.Proofs.YtgolhmiocjpohaaGreatDoor

namespace Go.Proofs.YtgolhmiocjpohaaGreatDoor
open Go.RowKit Go.PlainAid

theorem Fr.thenB {Z : Nat → Prop} {w w1 w2 : World} {B : Nat} (h : Fr Z w w1) (h2 : Below B w1 w2) (hB : w.heap.size ≤ B) : Fr Z w w2 :=
 ⟨h2.os.trans h.os, h2.tape.trans h.tape, h2.output.trans h.output, Nat.le_trans h.size h2.size, fun k hk hn => (h2.block k (by omega)).trans (h.block k hk hn)⟩
theorem Fr.weak {Z Z' : Nat → Prop} {w w' : World} (h : Fr Z w w') (hZ : ∀ k, Z k → Z' k) : Fr Z' w w' := ⟨h.os, h.tape, h.output, h.size, fun k hk hn => h.block k hk fun hz => hn (hZ k hz)⟩

theorem splice_all {zs vals : List Value} (h : zs.length = vals.length) : splice zs 0 vals = vals := by
 unfold splice
 rw [Nat.zero_add, List.drop_eq_nil_of_le (by omega)]
 simp

/-- A row has been appended: both slices are longer by one; what lies in the second is a copy. -/
def AppRow (tb base : Nat) (c m f : Value) (n : Nat) (xa xb vals : List Value) (row vA vB : Value) (w : World) (e : Ending) (w' : World) : Prop :=
 e = .returned (.tuple #[]) ∧ ∃ A' ca' B' cb' v, TbAt w' tb c (.slice A' (n + 1) ca') (.slice B' (n + 1) cb') m f ∧ w'.ownsRow base 74 1 (.slice A' (n + 1) ca') (n + 1) (xa ++ [v]) ∧ w'.ownsRow base 74 1 (.slice B' (n + 1) cb') (n + 1) (xb ++ [row]) ∧
  (∀ g, (Value.slice A' (n + 1) ca').ownBlock = some g → (Value.slice B' (n + 1) cb').ownBlock ≠ some g) ∧ CopyIs w' v vals ∧ Fr (Zrow tb vA vB) w w'

theorem row_whole {w : World} {base g n : Nat} {e : TypeId} {xs : List Value} (h : w.ownsRow base e 1 (.slice (some ⟨g, 0, none⟩) n n) n xs) : w.heap[g]? = some (.cells xs.toArray e (0, 0)) := by
 rcases h.2 with ⟨h1, _⟩ | ⟨g', cap, cur, h1, _, hg, _, _, hcs, htake⟩
 ·cases h1
 ·cases h1
  rw [hg]
  rw [List.take_of_length_le (by rw [Array.length_toList, hcs]; exact Nat.le_refl _)] at htake
  rw [← htake]

theorem src_kept {w w4 : World} {R : Option Addr} {vals : List Value} (hv : ValsAt w R vals) (hk : ∀ b o, R = some ⟨b, o, none⟩ → b < w.heap.size → w4.heap[b]? = w.heap[b]?) (h : 0 < vals.length) : ∃ ad, R = some ad ∧ ∀ j v, vals[j]? = some v → w4.cell? (ad.add j) = some v := by
 rcases hv with rfl | ⟨b, o, rfl, hb, h3⟩
 ·simp at h
 ·refine ⟨_, rfl, fun j v hj => ?_⟩
  have hlt := (List.getElem?_eq_some_iff.1 hj).1
  have e : (⟨b, o, none⟩ : Addr).add j = ⟨b, o + j, none⟩ := by unfold Addr.add; split <;> simp_all
  rw [e, cell_block (hk b o rfl hb), h3 j hlt, List.getD_eq_getElem?_getD, hj]
  rfl

set_option maxHeartbeats 1600000 in
set_option maxRecDepth 100000 in
theorem append_row (w : World) (tb base : Nat) (c m f : Value) (A B R : Option Addr) (n ca cb cr : Nat) (vals xa xb : List Value) (ht : TbAt w tb c (.slice A n ca) (.slice B n cb) m f) (ha : w.ownsRow base 74 1 (.slice A n ca) n xa) (hb : w.ownsRow base 74 1 (.slice B n cb) n xb)
  (hap : ∀ g, (Value.slice A n ca).ownBlock = some g → (Value.slice B n cb).ownBlock ≠ some g) (htb : tb < base) (hbs : base ≤ w.heap.size) (hn : n ≤ 60) (hk : vals.length ≤ 2147483647) (hv : ValsAt w R vals) (hR : ∀ b o, R = some ⟨b, o, none⟩ → b ≠ tb ∧ (Value.slice A n ca).ownBlock ≠ some b ∧ (Value.slice B n cb).ownBlock ≠ some b) (h1c : ∀ v ∈ vals, v.oneCell' = true) :
  Calls Tryz.prog 18 #[.pointer (some ⟨tb, 0, none⟩), .slice R vals.length cr, .slice none 0 0] w (AppRow tb base c m f n xa xb vals (.slice R vals.length cr) (.slice A n ca) (.slice B n cb) w) := by
 obtain ⟨i0, hi, hz0, hz1, hz2⟩ := info_parts info74
 have HI := Lib.hid hi
 have HZ0 := Lib.hid hz0
 have HZ1 := Lib.hid hz1
 have HZ2 := Lib.hid hz2
 clear hi hz0 hz1 hz2
 have HT := Lib.hid ht
 have HA := Lib.hid ha
 have HB := Lib.hid hb
 have HV := Lib.hid hv
 have HR := Lib.hid hR
 have H1C := Lib.hid h1c
 have HAP := Lib.hid hap
 clear hv hR h1c hap
 obtain ⟨t14, t23, t24, t35, t38, t27, t30, tf⟩ := ht.cells
 have f23 := tf 23
 have f24 := tf 24
 have htl := ht.lt
 clear ht tf ha hb
 obtain ⟨i20, hi, hz0, hz1, hz2⟩ := info_parts info20
 have HI20 := Lib.hid hi
 have HY0 := Lib.hid hz0
 have HY1 := Lib.hid hz1
 have HY2 := Lib.hid hz2
 clear hi hz0 hz1 hz2
 have hbz : (16 : Nat) * vals.length ≤ 281474976710656 := by omega
 go_enter Tryz.func18, Tryz.ntmps18
 go_upto_region 2 with (first
  | (at_make; refine wpList_make_full _ rfl _ _ 74 rfl base 20 i20 .nilIface 1 Tryz.underlying74 HI20.out HY0.out HY1.out .i64 .i64 _ _ vals.length rfl rfl rfl rfl (by rw [HY2.out]; exact hbz) (by unfold maxLen; omega) (by have := HT2.out.2.size; simp [World.setCell]; omega) ?_; intro w4 ho hg; have hz9 : (w2.setCell ⟨tb, 24, none⟩ (.slice B4 (n + 1) c4)).heap.size = w2.heap.size := (by simp [World.setCell]); obtain ⟨zs, hzs⟩ : ∃ zs, (madeCells Value.nilIface.cells (vals.length * 1)).toList = zs := ⟨_, rfl⟩; rw [hz9, hzs] at ho; have HM := Lib.hid (And.intro ho hg); have HROW := Lib.hid (row_whole ho); have HZL := Lib.hid ho.1; have HSRC : Hid (0 < vals.length → ∃ ad, R = some ad ∧ ∀ j v, vals[j]? = some v → w4.cell? (ad.add j) = some v) := src_kept HV.out (fun b o hb hlt => by obtain ⟨r1, r2, r3⟩ := HR.out b o hb; rw [hg.block b (by have := HG.out.2.1.size; simp [World.setCell] at this ⊢; omega) (by simp), set_other (Ne.symm r1), HG.out.2.1.block b (by simp; omega) (fun e => r3 e.symm), Below.heap_alloc _ _ _ hlt]); clear ho hg hzs hz9)
  | (at_builtin; refine wpList_append_own_at _ rfl _ _ 59 rfl base 74 i0 (.slice none 0 0) 1 24 Tryz.underlying59 HI.out HZ0.out HZ1.out HZ2.out rfl (by decide) _ _ _ rfl (HB.out.alloc _) ⟨w.heap.size, 0, none⟩ 1 1 [.slice R vals.length cr] rfl rfl (cell_one_new _ _ _) (by intro u hu; simp at hu; subst hu; rfl) (by unfold maxLen; omega) (by omega) (by simp; omega) ?_; intro v' w2 ho hg hxx hat; obtain ⟨B4, c4, rfl⟩ := own_form ho; have HG := Lib.hid (And.intro ho (And.intro hg hat)); have hBl : Below base w w2 := ((Below.refl _ _).alloc hbs _).grown hg (by simp; omega) (fun q hq => (HB.out.lt q hq).1); have T2 : TbAt w2 tb c (.slice A n ca) (.slice B n cb) m f := (hBl.block tb htb).trans HT.out; obtain ⟨u14, u23, u24, u35, u38, u27, u30, uf⟩ := T2.cells; have g24 := uf 24; have HT2 := Lib.hid (And.intro T2 hBl); clear T2 uf ho hg hxx hat hBl))
 go_upto_region 3 with (refine wpList_copy_splice rfl _ _ 74 74 rfl 20 Tryz.underlying74 (by kernel_rfl) _ _ _ _ _ _ rfl rfl w2.heap.size 0 zs 20 HROW.out vals (by simp) (fun h0 => ⟨rfl, HSRC.out h0⟩) (by have := HZL.out; omega) H1C.out w2.heap.size w4 (Below.refl _ _) (Nat.le_refl _) ?_; intro w5 hc5 hb5; have HC5 := Lib.hid (And.intro hc5 hb5); clear hc5 hb5)
 have hzl : zs.length = vals.length := by have := HZL.out; omega
 have HCOPY : Hid (CopyIs w5 (.slice (some ⟨w2.heap.size, 0, none⟩) vals.length vals.length) vals) := ⟨_, rfl, by have := HC5.out.1.out; rw [splice_all hzl] at this; exact this⟩
 have HT5 : Hid (TbAt w5 tb c (.slice A n ca) (.slice B4 (n + 1) c4) m f ∧ base ≤ w5.heap.size ∧ w.heap.size ≤ w5.heap.size ∧ w2.heap.size < w5.heap.size) := by
  have h1 := HT2.out.1.setB (.slice B4 (n + 1) c4)
  have h2 := HT2.out.1.lt
  have h3 := HM.out.2.size
  have h4 := HC5.out.2.size
  have h5 := HG.out.2.1.size
  have h6 := (HM.out.1.lt w2.heap.size rfl).2
  simp [World.setCell] at h3 h5
  exact ⟨((HC5.out.2.block tb h2).trans (HM.out.2.block tb (by simpa [World.setCell] using h2) (by simp))).trans h1, by omega, by omega, by omega⟩
 have HF5 : Hid (Fr (fun k => k = tb ∨ (Value.slice B n cb).ownBlock = some k) w w5) := by
  have h0 : Fr (fun k => k = tb ∨ (Value.slice B n cb).ownBlock = some k) w (w.alloc (.cells #[.slice R vals.length cr] 74)) := Fr.of ((Below.refl _ _).alloc (Nat.le_refl _) _)
  have h1 := (h0.grown HG.out.2.1 (fun k _ e => Or.inr e)).set tb 24 (.slice B4 (n + 1) c4) (Or.inl rfl)
  refine (h1.grown HM.out.2 (fun k _ e => by cases e)).thenB HC5.out.2 ?_
  have := HG.out.2.1.size
  simp at this
  omega
 have HA5 : Hid (w5.ownsRow base 74 1 (.slice A n ca) n xa) := own_same HA.out fun g hg hlt => HF5.out.block g hlt (by
  rintro (rfl | h)
  ·have := (HA.out.lt g hg).1; omega
  ·exact HAP.out g hg h)
 have HB5 : Hid (w5.ownsRow base 74 1 (.slice B4 (n + 1) c4) (n + 1) (xb ++ [.slice R vals.length cr])) := own_same HG.out.1 fun g hg hlt => by
  have := (HG.out.1.lt g hg).1
  rw [HC5.out.2.block g hlt, HM.out.2.block g (by simpa [World.setCell] using hlt) (by simp), set_other (by omega)]
 obtain ⟨t14, t23, t24, t35, t38, t27, t30, tf⟩ := HT5.out.1.cells
 have f23' := tf 23
 have hsz5 := HT5.out.2.1
 clear tf f23 f24 g24
 go_wp2_with (first
  | (at_builtin; refine wpList_append_own_at _ rfl _ _ 59 rfl base 74 i0 (.slice none 0 0) 1 24 Tryz.underlying59 HI.out HZ0.out HZ1.out HZ2.out rfl (by decide) _ _ _ rfl (HA5.out.alloc _) ⟨w5.heap.size, 0, none⟩ 1 1 [.slice (some ⟨w2.heap.size, 0, none⟩) vals.length vals.length] rfl rfl (cell_one_new _ _ _) (by intro u hu; simp at hu; subst hu; rfl) (by unfold maxLen; omega) (by omega) (by simp; omega) ?_; intro v' w6 ho hg hxx hat; obtain ⟨A6, c6, rfl⟩ := own_form ho; have HG6 := Lib.hid (And.intro ho (And.intro hg hat)); have T6 : TbAt w6 tb c (.slice A n ca) (.slice B4 (n + 1) c4) m f := (((Below.refl _ _).alloc hsz5 _).grown hg (by simp; omega) (fun q hq => (HA5.out.lt q hq).1)).block tb htb |>.trans HT5.out.1; obtain ⟨u14, u23, u24, u35, u38, u27, u30, uf⟩ := T6.cells; have g23 := uf 23; have HT6 := Lib.hid T6; clear T6 uf ho hg hxx hat))
 go_end0
 have hown6 := HG6.out.1
 have hgr6 := HG6.out.2.1
 have hat6 := HG6.out.2.2
 have F6 : Fr (fun k => (Value.slice A n ca).ownBlock = some k) w5 w6 := by
  have h0 : Fr (fun k => (Value.slice A n ca).ownBlock = some k) w5 (w5.alloc (.cells #[.slice (some ⟨w2.heap.size, 0, none⟩) vals.length vals.length] 74)) := Fr.of ((Below.refl _ _).alloc (Nat.le_refl _) _)
  exact h0.grown hgr6 (fun k _ e => e)
 have hA6lt := hown6.lt
 refine ⟨rfl, A6, c6, B4, c4, .slice (some ⟨w2.heap.size, 0, none⟩) vals.length vals.length, HT6.out.setA _, ?_, ?_, ?_, ?_, ?_⟩
 ·exact own_same hown6 fun g hg hlt => set_other (by have := (hA6lt g hg).1; omega) _ _
 ·refine own_same HB5.out fun g hg hlt => ?_
  have h1 := (HB5.out.lt g hg).1
  rw [set_other (by omega)]
  refine F6.block g hlt fun e => ?_
  have h2 := (HA.out.lt g e).2
  rcases HG.out.2.2 with h3 | h3
  ·rw [h3] at hg; exact HAP.out g e hg
  ·rw [h3] at hg; simp at hg; omega
 ·intro g hg hg2
  rcases hat6 with h3 | h3
  ·rw [h3] at hg
   have h2 := (HA.out.lt g hg).2
   rcases HG.out.2.2 with h4 | h4
   ·rw [h4] at hg2; exact HAP.out g hg hg2
   ·rw [h4] at hg2; simp at hg2; omega
  ·rw [h3] at hg
   have h2 := (HB5.out.lt g hg2).2
   simp at hg
   omega
 ·obtain ⟨g, h1, h2⟩ := HCOPY.out
  refine ⟨g, h1, ?_⟩
  have hlt := (Array.getElem?_eq_some_iff.1 h2).1
  have hne : tb ≠ g := fun e => by subst e; have h9 : w5.heap[tb]? = _ := HT5.out.1; rw [h9] at h2; cases h2
  rw [set_other hne, F6.block g hlt]
  ·exact h2
  ·intro e
   obtain ⟨cur, hc⟩ := own_obj HA5.out e
   rw [hc] at h2
   cases h2
 ·have h1 : Fr (Zrow tb (.slice A n ca) (.slice B n cb)) w w5 := HF5.out.weak fun k h => h.elim Or.inl fun h => Or.inr (Or.inr h)
  exact (h1.trans F6 fun k _ h => Or.inr (Or.inl h)).set tb 23 _ (Or.inl rfl)

end Go.Proofs.YtgolhmiocjpohaaGreatDoor
