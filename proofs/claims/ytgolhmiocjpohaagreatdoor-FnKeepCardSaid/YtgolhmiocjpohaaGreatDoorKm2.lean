/- The table's rows are filtered (39), where there are none; what comes of it (23). No condition beyond sizes. How the package's Keep (7) stands in memory: plain. No condition. How the package's Keep (7) gathers what is left: plain. No condition. -/
import Derived.Test.YtgolhmiocjpohaaGreatDoorKk1
import Derived.Test.YtgolhmiocjpohaaGreatDoorKs1
set_option linter.unusedVariables false
set_option linter.unusedSimpArgs false
namespace Go.Proofs.YtgolhmiocjpohaaGreatDoor
open Go.RowKit Go.PlainAid

theorem parsed_none (fs : List FiltD) : ∀ j, parsedTo fs 0 j = []
 | 0 => rfl
 | j + 1 => by
  unfold parsedTo
  rw [if_neg (by intro h; have h1 := h.1; have h2 := h.2; simp at h2; omega)]
  exact parsed_none fs j

set_option maxHeartbeats 1600000 in
set_option maxRecDepth 100000 in
theorem filter_none (w : World) (tb base cf : Nat) (c : Value) (Fa : Option Addr) (fs : List FiltD) (vs : Nat → List Value) (S : Nat → Bool)
  (ht : TbAt w tb c (.slice none 0 0) (.slice none 0 0) (.map none) (.slice Fa fs.length cf)) (hf : IFiltsAt w Fa fs) (hFb : ∀ b o, Fa = some ⟨b, o, none⟩ → b ≠ tb) (hfl : fs.length ≤ 8) :
  Calls Tryz.prog 39 #[.pointer (some ⟨tb, 0, none⟩)] w (FiltRes tb base 0 0 none (.slice Fa fs.length cf) [] vs S w) := by
 have HT := Lib.hid ht
 have HF := Lib.hid (And.intro hf hFb)
 obtain ⟨t14, t23, t24, t35, t38, t27, t30, tf⟩ := ht.cells
 have htl := ht.lt
 have hmm := @run_makeMap Tryz.prog
 have done : ∀ (w' : World) (c' : Value), TbAt w' tb c' (.slice none 0 0) (.slice none 0 0) (.map none) (.slice Fa fs.length cf) → Fr (fun k => k = tb) w w' → FiltRes tb base 0 0 none (.slice Fa fs.length cf) [] vs S w (.returned (.tuple #[])) w' :=
  fun w' c' h1 h2 => ⟨rfl, c', none, 0, .map none, 0, .map [], h1, fun j hj => by simp at hj, Or.inl ⟨rfl, rfl⟩, fun j hj => by simp at hj, h2⟩
 have DONE := Lib.hid done
 clear ht hf hFb done tf
 by_cases hf0 : fs.length = 0
 ·obtain rfl := List.eq_nil_of_length_eq_zero hf0
  go_enter Tryz.func39, Tryz.ntmps39
  go_wp2_with fail
  go_end0
  exact DONE.out _ _ HT.out (Fr.refl _ _)
 ·have hfI : ¬ (fs.length : Int) = 0 := by omega
  have HMW : Hid (MapIs (w.alloc (.map #[] 0)) 0 (.map none) 0 (.map [])) := Or.inl ⟨rfl, rfl⟩
  have e1 : (w.alloc (.map #[] 0)).heap.size = w.heap.size + 1 := by simp
  have pe35 : (w.alloc (.map #[] 0)).cell? ⟨tb, 35, none⟩ = some (.map none) := (World.cell?_alloc_past _ _ _ htl).trans t35
  go_enter Tryz.func39, Tryz.ntmps39
  go_wp2_with (first
   | (at_range; refine wpList_range_m _ rfl _ rfl 0 (.map none) 0 (.map []) rfl HMW.out ?_; intro w5 hrg hg hs; rw [e1] at hrg hs ⊢; have HW5 := Lib.hid (And.intro hrg (And.intro hg hs)); clear hrg hg hs))
  go_frame
  go_loopw [6, 7] (fun s6 s7 wx => ∃ (left : Lit → Bool) (cnt : Nat), RangesM wx 0 (.map none) (w.heap.size + 1) 0 (.map []) left cnt ∧ cnt = 0 ∧ Below w.heap.size w wx) (fun _ _ wx => leftM wx (.map none) (w.heap.size + 1))
  case atStart =>
   obtain ⟨hrg, hg, hs⟩ := HW5.out
   exact ⟨_, _, hrg, rfl, ((Below.refl _ _).alloc (Nat.le_refl _) _).grown hg (by simp) (fun j hj => by cases hj)⟩
  case round =>
   obtain ⟨left, cnt, hrg, hcs, hnx⟩ := hrel
   have HL := Lib.hid (And.intro hrg hnx)
   have HCS := Lib.hid hcs
   clear HW5 HMW pe35 hrg hcs
   go_wp2_with (first
    | (refine wpList_next_e _ rfl _ rfl 0 (.map none) (w.heap.size + 1) 0 (.map []) left cnt rfl HL.out.1 ?_ ?_))
   ·intro hc0 hl0
    have HTr := Lib.hid (HT.out.below hnx)
    have K50 := Lib.hid (num_columns wr tb none 0 c (.slice none 0 0) (.map none) (.slice Fa fs.length cf) [] HTr.out (Or.inl rfl) (Nat.zero_le _) (fun k hk => by simp at hk))
    have hfr : Fr (fun k => k = tb) w wr := Fr.of hnx
    have HFR := Lib.hid hfr
    clear hnx hl0 hc0 hfr
    go_upto_region 17 with (first
     | (go_at_call 50; (with_reducible refine K50.out.mono ?_); rintro e w6 ⟨rfl, ht6, ho6⟩; have HC6 := Lib.hid (And.intro ht6 ho6); obtain ⟨pf14, pf23, pf24, pf35, pf38, pf27, pf30, _⟩ := ht6.cells; have K51 := Lib.hid (parse_filters w6 tb 0 Fa cf fs ht6.lt pf14 (by omega) (HF.out.1.fr (HFR.out.trans ho6.fr (fun _ _ e => e)) HF.out.2) hfl); clear ht6 ho6)
     | (go_at_call 51; (with_reducible refine K51.out.mono ?_); rintro e w7 ⟨vp, rfl, hov, hb7⟩; obtain ⟨Pp, cp, rfl⟩ := own_form hov; have HC7 := Lib.hid hb7; clear hov hb7))
    have hp0 : (parsedTo fs 0 fs.length).length = 0 := by rw [parsed_none]; rfl
    have hpI : ((parsedTo fs 0 fs.length).length : Int) = 0 := by omega
    go_wp2_with fail
    go_end0
    exact DONE.out _ _ (TbAt.below HC6.out.1 HC7.out) ((HFR.out.trans HC6.out.2.fr (fun _ _ e => e)).then HC7.out)
   ·intro en w1 cnt1 hwx hat hrg1 hlt
    have := HCS.out
    omega

/-- What comes back: the rows that are left, and the breaks. -/
def ZzRes (tb base n ca : Nat) (A : Option Addr) (f : Value) (ks : List Nat) (vs : Nat → List Value) (S : Nat → Bool) (w : World) (e : Ending) (w' : World) : Prop :=
 ∃ Bs cb m' nn D, e = .returned (.tuple #[.slice Bs ks.length cb, m']) ∧ (∀ j, j < ks.length → ∃ g v, Bs = some ⟨g, 0, none⟩ ∧ w'.cell? ⟨g, j, none⟩ = some v ∧ CopyIs w' v (vs (ks.getD j 0))) ∧
  MapIs w' base m' nn D ∧ (∀ j, j < ks.length → D.atKey (.int .i64 (j : Nat)) (.lit (.bool false)) = .lit (.bool (S (ks.getD j 0)))) ∧ Fr (fun k => k = tb) w w'

set_option maxHeartbeats 800000 in
set_option maxRecDepth 100000 in
theorem zz_keep (tb base n ca : Nat) (A : Option Addr) (f : Value) (ks : List Nat) (vs : Nat → List Value) (S : Nat → Bool) (w : World) (h : Calls Tryz.prog 39 #[.pointer (some ⟨tb, 0, none⟩)] w (FiltRes tb base n ca A f ks vs S w)) :
  Calls Tryz.prog 23 #[.pointer (some ⟨tb, 0, none⟩)] w (ZzRes tb base n ca A f ks vs S w) := by
 have K := Lib.hid h
 clear h
 go_enter Tryz.func23, Tryz.ntmps23
 go_upto_region 2 with (go_at_call 39; (with_reducible refine K.out.mono ?_); rintro e w1 ⟨rfl, c', Bs, cb, m', nn, D, h1, h2⟩; obtain ⟨p14, p23, p24, p35, p38, p27, p30, _⟩ := h1.cells; have H := Lib.hid h2; clear h1 h2)
 go_quiet (fail)
 go_wp2_with fail
 go_ret2
 exact ⟨Bs, cb, m', nn, D, rfl, H.out.1, H.out.2.1, H.out.2.2.1, ⟨H.out.2.2.2.os, H.out.2.2.2.tape, H.out.2.2.2.output, H.out.2.2.2.size, H.out.2.2.2.block⟩⟩

end Go.Proofs.YtgolhmiocjpohaaGreatDoor

namespace Go.Proofs.YtgolhmiocjpohaaGreatDoor
open Go.RowKit Go.PlainAid

theorem build_zero (w : World) : (Instr.build 71 #[]).run Tryz.prog w = .ok (.agg (ktbl (.int .i64 0) (.slice none 0 0) (.slice none 0 0) (.map none) (.slice none 0 0))) w := by kernel_rfl

/-- A build of which it is known what it gives. -/
theorem wp_builds {P : Program} {o : Oper} {a : Act} {w : World} {K : Act → World → Prop} {Q : Exit → Act → World → Prop} {t : TypeId} {parts : Array (Nat × Operand)} {v : Value} (hop : o.op = Op.build t parts)
  (hrun : (Instr.build t (parts.map fun x => (x.1, a.eval x.2))).run P w = .ok v w) (h : K (a.put o.dst v) w) : Oper.wp P o a w K Q := by
 unfold Oper.wp
 simp [execOp, hop, hrun, Result.andThen]
 exact h

theorem vals_of_own {w : World} {base n c : Nat} {R : Option Addr} {vals : List Value} (h : w.ownsRow base 20 1 (.slice R n c) n vals) : ValsAt w R vals ∧ ∀ b o, R = some ⟨b, o, none⟩ → ∃ cur, w.heap[b]? = some (.cells cur 20 (0, 0)) := by
 have hc := fun g (hg : (Value.slice R n c).ownBlock = some g) => h.cells hg
 have hl := h.1
 rcases h.2 with ⟨h1, h2⟩ | ⟨g, cap, cur, h1, h2, hg, rest⟩
 ·cases h1
  refine ⟨Or.inl (List.eq_nil_of_length_eq_zero (by omega)), fun b o e => by cases e⟩
 ·cases h1
  refine ⟨Or.inr ⟨g, 0, rfl, (Array.getElem?_eq_some_iff.1 hg).1, fun i hi => ?_⟩, fun b o e => by cases e; exact ⟨cur, hg⟩⟩
  have := hc g rfl i _ (List.getElem?_eq_getElem hi)
  rw [Go.WideShapes.add_plain] at this
  rw [this, List.getD_eq_getElem?_getD, List.getElem?_eq_getElem hi]
  rfl

/-- The table while its rows are appended. -/
structure IK (w : World) (rows : List (List CellD)) (i : Nat) (A : Option Addr) (ca : Nat) (Bv : Option Addr) (cb : Nat) (m : Value) (nn : Nat) (D : DataW Unit) (S : Nat → Bool) (xa xb : List Value) (wx : World) : Prop where
 tab : TbAt wx (w.heap.size + 1) (.int .i64 0) (.slice A i ca) (.slice Bv i cb) m (.slice none 0 0)
 ownA : wx.ownsRow (w.heap.size + 2) 74 1 (.slice A i ca) i xa
 ownB : wx.ownsRow (w.heap.size + 2) 74 1 (.slice Bv i cb) i xb
 apart : ∀ g, (Value.slice A i ca).ownBlock = some g → (Value.slice Bv i cb).ownBlock ≠ some g
 copies : ∀ k, k < i → CopyIs wx (xa.getD k .nilIface) ((rwAt rows k).map valI)
 map : MapIs wx (w.heap.size + 2) m nn D
 marks : Marks D S
 res : wx.heap[w.heap.size]? = some (.cells #[.slice none 0 0, .slice none 0 0] 33 (0, 0))
 below : Below w.heap.size w wx
 size : w.heap.size + 2 ≤ wx.heap.size
 zero : i = 0 → A = none ∧ ca = 0 ∧ Bv = none ∧ cb = 0 ∧ m = .map none

theorem IK.start (w : World) (rows : List (List CellD)) {X : Array Value} (hX : X = #[.slice none 0 0, .slice none 0 0]) : IK w rows 0 none 0 none 0 (.map none) 0 (.map []) (fun _ => false) [] [] ((w.alloc (.cells X 33)).alloc (.cells (ktbl (.int .i64 0) (.slice none 0 0) (.slice none 0 0) (.map none) (.slice none 0 0)) 71)) := by
 subst hX
 refine ⟨?_, World.ownsRow_nil _ _ _ _, World.ownsRow_nil _ _ _ _, fun g hg => by simp [Value.ownBlock] at hg, fun k hk => by omega, Or.inl ⟨rfl, rfl⟩, Marks.start, ?_, ((Below.refl _ _).alloc (Nat.le_refl _) _).alloc (by simp) _, by simp, fun _ => ⟨rfl, rfl, rfl, rfl, rfl⟩⟩
 ·have h := heap_alloc_new (w.alloc (.cells #[.slice none 0 0, .slice none 0 0] 33)) (.cells (ktbl (.int .i64 0) (.slice none 0 0) (.slice none 0 0) (.map none) (.slice none 0 0)) 71)
  unfold TbAt
  simpa using h
 ·rw [Below.heap_alloc _ _ _ (by simp)]
  exact heap_alloc_new w _

section
variable {w wx wy wz : World} {rows : List (List CellD)} {i ca cb nn : Nat} {A Bv : Option Addr} {m : Value} {D : DataW Unit} {S : Nat → Bool} {xa xb : List Value}

theorem IK.later (h : IK w rows i A ca Bv cb m nn D S xa xb wx) (hb : Below wx.heap.size wx wy) : IK w rows i A ca Bv cb m nn D S xa xb wy :=
 ⟨h.tab.below hb, own_below (B := 0) h.ownA hb, own_below (B := 0) h.ownB hb, h.apart, fun k hk => (h.copies k hk).below hb, h.map.block fun b _ hlt => hb.block b hlt, h.marks, (hb.block _ (by have := h.size; omega)).trans h.res, h.below.trans (hb.mono h.below.size), Nat.le_trans h.size hb.size, h.zero⟩

theorem IK.not_row (h : IK w rows i A ca Bv cb m nn D S xa xb wx) {k : Nat} (hk : ∀ cs fr, wx.heap[k]? ≠ some (.cells cs 71 fr) ∧ wx.heap[k]? ≠ some (.cells cs 74 fr)) : ¬ Zrow (w.heap.size + 1) (.slice A i ca) (.slice Bv i cb) k := not_zrow h.tab h.ownA h.ownB hk

theorem IK.row {e : Ending} {row : Value} (h : IK w rows i A ca Bv cb m nn D S xa xb wy) (hz : AppRow (w.heap.size + 1) (w.heap.size + 2) (.int .i64 0) m (.slice none 0 0) i xa xb ((rwAt rows i).map valI) row (.slice A i ca) (.slice Bv i cb) wy e wz) :
  ∃ A' ca' B' cb' xa' xb', IK w rows (i + 1) A' ca' B' cb' m nn D S xa' xb' wz := by
 obtain ⟨_, A', ca', B', cb', v, h1, h2, h3, h4, h5, h6⟩ := hz
 have hl := h.ownA.1
 have hlA := h.ownA.lt
 have hlB := h.ownB.lt
 refine ⟨A', ca', B', cb', _, _, h1, h2, h3, h4, fun k hk => ?_, ?_, h.marks, ?_, ?_, Nat.le_trans h.size h6.size, fun h0 => by omega⟩
 ·by_cases hki : k < i
  ·rw [List.getD_eq_getElem?_getD, List.getElem?_append_left (by omega), ← List.getD_eq_getElem?_getD]
   exact (h.copies k hki).fr h6 fun j cs hj => h.not_row fun cs' fr => ⟨by rw [hj]; simp, by rw [hj]; simp⟩
  ·have hke : k = i := by omega
   subst hke
   rw [List.getD_eq_getElem?_getD, List.getElem?_append_right (by omega), show k - xa.length = 0 by omega]
   exact h5
 ·refine h.map.block fun b hb hlt => h6.block b hlt (h.not_row ?_)
  obtain ⟨_, es, clock, he⟩ := h.map.obj b hb
  intro cs fr
  exact ⟨by rw [he]; simp, by rw [he]; simp⟩
 ·rw [h6.block _ (by have := h.size; omega) (h.not_row fun cs fr => ⟨by rw [h.res]; simp, by rw [h.res]; simp⟩)]
  exact h.res
 ·refine h.below.trans (h6.below h.below.size fun k hk => ?_)
  rcases hk with rfl | hk | hk
  ·omega
  ·have := (hlA k hk).1; omega
  ·have := (hlB k hk).1; omega

theorem IK.sep {e : Ending} {k : Nat} (h : IK w rows (i + 1) A ca Bv cb m nn D S xa xb wy) (hz : AppSep (w.heap.size + 1) (w.heap.size + 2) (.int .i64 0) (.slice A (i + 1) ca) (.slice Bv (i + 1) cb) m (.slice none 0 0) nn k D wy e wz) :
  ∃ m', IK w rows (i + 1) A ca Bv cb m' (nn + 1) (D.put (.int .i64 (k : Nat)) (.lit (.bool true))) (fun t => S t || t == k) xa xb wz := by
 obtain ⟨_, m', h1, h2, h3, h4⟩ := hz
 have hm := h.map.obj
 have not : ∀ j, (∀ cs t, wy.heap[j]? = some (.cells cs t (0, 0)) → t ≠ 71 → ¬ (j = w.heap.size + 1 ∨ m = .map (some j))) := by
  rintro j cs t hj ht (rfl | e)
  ·have h9 : wy.heap[_]? = _ := h.tab
   rw [h9] at hj
   cases hj
   exact ht rfl
  ·obtain ⟨_, es, clock, he⟩ := hm j e
   rw [he] at hj
   cases hj
 refine ⟨m', h1, own_same h.ownA fun g hg hlt => ?_, own_same h.ownB fun g hg hlt => ?_, h.apart, fun j hj => (h.copies j hj).fr h3 fun k cs hk => not k cs 20 hk (by decide), h2, h.marks.put (let ⟨es, e, _⟩ := h.map.canon; ⟨es, e⟩) k, ?_, ?_, Nat.le_trans h.size h3.size, fun h0 => by omega⟩
 ·obtain ⟨cur, hc⟩ := own_obj h.ownA hg
  exact h3.block g hlt (not g cur 74 hc (by decide))
 ·obtain ⟨cur, hc⟩ := own_obj h.ownB hg
  exact h3.block g hlt (not g cur 74 hc (by decide))
 ·rw [h3.block _ (by have := h.size; omega) (not _ _ 33 h.res (by decide))]
  exact h.res
 ·refine h.below.trans (h3.below h.below.size fun k hk => ?_)
  rcases hk with rfl | hk
  ·omega
  ·have := (hm k hk).1; omega
end

theorem Marks.congr {D : DataW Unit} {S T : Nat → Bool} (h : Marks D S) (hst : ∀ k, S k = T k) : Marks D T := fun i => by rw [← hst i]; exact h i

/-- The marks behind the first of the breaks, in a row. -/
def mkAt (bs : List Int) (i j k : Nat) : Bool := (decide (k < i) && brAt bs k) || (k == i && (bs.take j).any fun b => b == (i : Int) + 1)
theorem mkAt_zero (bs : List Int) (i k : Nat) : (decide (k < i) && brAt bs k) = mkAt bs i 0 k := by simp [mkAt]
theorem mkAt_end (bs : List Int) (i k : Nat) : mkAt bs i bs.length k = (decide (k < i + 1) && brAt bs k) := by
 unfold mkAt brAt
 rw [List.take_of_length_le (Nat.le_refl _)]
 by_cases h : k = i
 ·subst h; simp
 ·have h2 : (k == i) = false := by simp [h]
  rw [h2]
  by_cases h3 : k < i
  ·simp [h3, show k < i + 1 by omega]
  ·simp [h3, show ¬ k < i + 1 by omega]
theorem mkAt_no {bs : List Int} {i j : Nat} (hj : j < bs.length) (h : ¬ bs.getD j 0 = (i : Int) + 1) (k : Nat) : mkAt bs i j k = mkAt bs i (j + 1) k := by
 unfold mkAt
 rw [List.take_succ_eq_append_getElem hj, List.any_append]
 rw [List.getD_eq_getElem?_getD, List.getElem?_eq_getElem hj] at h
 have : (bs[j] == (i : Int) + 1) = false := by simpa using h
 simp [this]
theorem mkAt_yes {bs : List Int} {i j : Nat} (hj : j < bs.length) (h : bs.getD j 0 = (i : Int) + 1) (k : Nat) : (mkAt bs i j k || k == i) = mkAt bs i (j + 1) k := by
 unfold mkAt
 rw [List.take_succ_eq_append_getElem hj, List.any_append]
 rw [List.getD_eq_getElem?_getD, List.getElem?_eq_getElem hj] at h
 have : (bs[j] == (i : Int) + 1) = true := by simpa using h
 simp [this]
 cases (k == i) <;> simp

end Go.Proofs.YtgolhmiocjpohaaGreatDoor

namespace Go.Proofs.YtgolhmiocjpohaaGreatDoor
open Go.RowKit Go.PlainAid

section
variable {w wx wy wz : World} {rows : List (List CellD)} {i ca cb nn : Nat} {A Bv : Option Addr} {m : Value} {D : DataW Unit} {S T : Nat → Bool} {xa xb : List Value}
theorem IK.src {cur : Array Value} {b : Nat} (h : IK w rows i A ca Bv cb m nn D S xa xb wx) (hc : wx.heap[b]? = some (.cells cur 20 (0, 0))) : b ≠ w.heap.size + 1 ∧ (Value.slice A i ca).ownBlock ≠ some b ∧ (Value.slice Bv i cb).ownBlock ≠ some b := by
 have := h.not_row (k := b) fun cs fr => ⟨by rw [hc]; simp, by rw [hc]; simp⟩
 exact ⟨fun e => this (Or.inl e), fun e => this (Or.inr (Or.inl e)), fun e => this (Or.inr (Or.inr e))⟩
theorem IK.remark (h : IK w rows i A ca Bv cb m nn D S xa xb wx) (hst : ∀ k, S k = T k) : IK w rows i A ca Bv cb m nn D T xa xb wx :=
 ⟨h.tab, h.ownA, h.ownB, h.apart, h.copies, h.map, h.marks.congr hst, h.res, h.below, h.size, h.zero⟩
end

/-- What comes of a row: its cells, in a row of one's own. -/
def RowOut (w : World) (o : Nat) (v : Value) (cs : List CellD) : Prop := ∃ A c, v = .slice A cs.length c ∧ w.ownsRow (o + 1) 29 3 (.slice A cs.length c) cs.length (cellAll cs)

/-- What is gathered. -/
structure KI (o : Nat) (W3 : World) (ks : List Nat) (rw' : Nat → List CellD) (S : Nat → Bool) (j : Nat) (k1 : List Value) (v1 v2 : Value) (wx : World) : Prop where
 b9 : wx.heap[o]? = some (.cells #[v1, v2] 33 (0, 0))
 own1 : wx.ownsRow (o + 1) 27 1 v1 j k1
 own2 : wx.ownsRow (o + 1) 3 1 v2 (ibTo S ks j).length ((ibTo S ks j).map fun n => .int .i64 n)
 rws : ∀ t, t < j → RowOut wx o (k1.getD t .nilIface) (rw' (ks.getD t 0))
 below : Below o W3 wx
 size : o + 1 ≤ wx.heap.size

theorem KI.start {W3 : World} (ks : List Nat) (rw' : Nat → List CellD) (S : Nat → Bool) {X : Array Value} (hX : X = #[.slice none 0 0, .slice none 0 0]) : KI W3.heap.size W3 ks rw' S 0 [] (.slice none 0 0) (.slice none 0 0) (W3.alloc (.cells X 33)) := by
 subst hX
 exact ⟨heap_alloc_new W3 _, World.ownsRow_nil _ _ _ _, World.ownsRow_nil _ _ _ _, fun t ht => by omega, (Below.refl _ _).alloc (Nat.le_refl _) _, by simp⟩

section
variable {W3 wx wy wl w2 : World} {o j : Nat} {ks : List Nat} {rw' : Nat → List CellD} {S : Nat → Bool} {k1 : List Value} {v1 v2 v1' v2' x : Value}

theorem RowOut.below {w w' : World} {v : Value} {cs : List CellD} (h : RowOut w o v cs) (hb : Below w.heap.size w w') : RowOut w' o v cs := by
 obtain ⟨A, c, h1, h2⟩ := h
 exact ⟨A, c, h1, own_below (B := 0) h2 hb⟩
theorem RowOut.grown {w w' : World} {v u : Value} {cs : List CellD} {n base : Nat} {e : TypeId} {xs : List Value} (h : RowOut w o v cs) (hg : w.grownBy w' u.ownBlock) (hu : w.ownsRow base e 1 u n xs) (he : e ≠ 29) : RowOut w' o v cs := by
 obtain ⟨A, c, h1, h2⟩ := h
 refine ⟨A, c, h1, own_same h2 fun g hg1 hlt => hg.block g hlt fun e1 => ?_⟩
 obtain ⟨cur, hc⟩ := own_obj h2 hg1
 obtain ⟨cur2, hc2⟩ := own_obj hu e1.symm
 rw [hc] at hc2
 cases hc2
 exact he rfl
theorem RowOut.set {w : World} {v u : Value} {cs : List CellD} {b i : Nat} (h : RowOut w o v cs) (hb : b < o + 1) : RowOut (w.setCell ⟨b, i, none⟩ u) o v cs := by
 obtain ⟨A, c, h1, h2⟩ := h
 exact ⟨A, c, h1, own_same h2 fun g hg hlt => set_other (by have := (h2.lt g hg).1; omega) i u⟩

theorem KI.later (h : KI o W3 ks rw' S j k1 v1 v2 wx) (hb : Below wx.heap.size wx wy) : KI o W3 ks rw' S j k1 v1 v2 wy :=
 ⟨(hb.block _ (by have := h.size; omega)).trans h.b9, own_below (B := 0) h.own1 hb, own_below (B := 0) h.own2 hb, fun t ht => (h.rws t ht).below hb, h.below.trans (hb.mono (by have := h.size; omega)), Nat.le_trans h.size hb.size⟩

theorem own_apart {w : World} {b1 b2 s1 s2 n1 n2 : Nat} {e1 e2 : TypeId} {u1 u2 : Value} {x1 x2 : List Value} (h1 : w.ownsRow b1 e1 s1 u1 n1 x1) (h2 : w.ownsRow b2 e2 s2 u2 n2 x2) (he : e1 ≠ e2) : ∀ g, u1.ownBlock = some g → u2.ownBlock ≠ some g := by
 intro g hg hg2
 obtain ⟨c1, q1⟩ := own_obj h1 hg
 obtain ⟨c2, q2⟩ := own_obj h2 hg2
 rw [q1] at q2
 cases q2
 exact he rfl

/-- Behind the append to the rows. -/
theorem KI.grow1 (h : KI o W3 ks rw' S j k1 v1 v2 wx) (hl : Below wx.heap.size wx wl) (hx : RowOut wl o x (rw' (ks.getD j 0))) (ho : w2.ownsRow (o + 1) 27 1 v1' (j + 1) (k1 ++ [x])) (hg : wl.grownBy w2 v1.ownBlock) :
  w2.heap[o]? = some (.cells #[v1, v2] 33 (0, 0)) ∧ (∀ u, w2.setCell ⟨o, 0, none⟩ v1' = u → u.heap[o]? = some (.cells #[v1', v2] 33 (0, 0)) ∧ u.ownsRow (o + 1) 27 1 v1' (j + 1) (k1 ++ [x]) ∧ u.ownsRow (o + 1) 3 1 v2 (ibTo S ks j).length ((ibTo S ks j).map fun n => .int .i64 n) ∧
   (∀ t, t < j + 1 → RowOut u o ((k1 ++ [x]).getD t .nilIface) (rw' (ks.getD t 0))) ∧ Below o W3 u ∧ o + 1 ≤ u.heap.size) := by
 have hk := h.later hl
 have hs := hk.size
 have hl1 := hk.own1.1
 have hB : Below (o + 1) wl w2 := (Below.refl _ _).grown hg hs (fun q hq => (hk.own1.lt q hq).1)
 have e9 : w2.heap[o]? = some (.cells #[v1, v2] 33 (0, 0)) := by rw [hB.block _ (by omega)]; exact hk.b9
 refine ⟨e9, fun u hu => ?_⟩
 subst hu
 refine ⟨by rw [set_row2 e9]; rfl, own_same ho fun g hg1 hlt => set_other (by have := (ho.lt g hg1).1; omega) _ _, own_same hk.own2 fun g hg1 hlt => ?_, fun t ht => ?_, ?_, ?_⟩
 ·rw [set_other (by have := (hk.own2.lt g hg1).1; omega)]
  exact hg.block g hlt fun e => own_apart hk.own1 hk.own2 (by decide) g e.symm hg1
 ·by_cases htj : t < j
  ·rw [List.getD_eq_getElem?_getD, List.getElem?_append_left (by omega), ← List.getD_eq_getElem?_getD]
   exact ((hk.rws t htj).grown hg hk.own1 (by decide)).set (by omega)
  ·have : t = j := by omega
   subst this
   rw [List.getD_eq_getElem?_getD, List.getElem?_append_right (by omega), show t - k1.length = 0 by omega]
   exact (hx.grown hg hk.own1 (by decide)).set (by omega)
 ·exact (hk.below.trans (hB.mono (by omega))).setCell (p := ⟨o, 0, none⟩) (Nat.le_refl _) _
 ·have := hB.size; simp [World.setCell]; omega

/-- Behind the append to the breaks, where there is one. -/
theorem KI.grow2 {u : World} (h9 : u.heap[o]? = some (.cells #[v1, v2] 33 (0, 0))) (ho1 : u.ownsRow (o + 1) 27 1 v1 (j + 1) k1) (ho2 : u.ownsRow (o + 1) 3 1 v2 (ibTo S ks j).length ((ibTo S ks j).map fun n => .int .i64 n))
  (hr : ∀ t, t < j + 1 → RowOut u o (k1.getD t .nilIface) (rw' (ks.getD t 0))) (hb : Below o W3 u) (hs : o + 1 ≤ u.heap.size) (hl : Below u.heap.size u wl) (hS : S (ks.getD j 0) = true)
  (ho : w2.ownsRow (o + 1) 3 1 v2' ((ibTo S ks j).length + 1) (((ibTo S ks j).map fun n => .int .i64 n) ++ [.int .i64 ((j : Int) + 1)])) (hg : wl.grownBy w2 v2.ownBlock) :
  w2.heap[o]? = some (.cells #[v1, v2] 33 (0, 0)) ∧ KI o W3 ks rw' S (j + 1) k1 v1 v2' (w2.setCell ⟨o, 1, none⟩ v2') := by
 have q9 := (hl.block o (by omega)).trans h9
 have q1 := own_below (B := 0) ho1 hl
 have q2 := own_below (B := 0) ho2 hl
 have hsl : o + 1 ≤ wl.heap.size := Nat.le_trans hs hl.size
 have hB : Below (o + 1) wl w2 := (Below.refl _ _).grown hg hsl (fun q hq => (q2.lt q hq).1)
 have e9 : w2.heap[o]? = some (.cells #[v1, v2] 33 (0, 0)) := by rw [hB.block _ (by omega)]; exact q9
 have hib : ibTo S ks (j + 1) = ibTo S ks j ++ [(j : Int) + 1] := by
  show (if S (ks.getD j 0) then _ else _) = _
  rw [hS, if_pos rfl]
 refine ⟨e9, by rw [set_row2 e9]; rfl, own_same q1 fun g hg1 hlt => ?_, ?_, fun t ht => (((hr t ht).below hl).grown hg q2 (by decide)).set (by omega), ?_, ?_⟩
 ·rw [set_other (by have := (q1.lt g hg1).1; omega)]
  exact hg.block g hlt fun e => own_apart q2 q1 (by decide) g e.symm hg1
 ·rw [hib, List.length_append, List.length_singleton, List.map_append]
  exact own_same ho fun g hg1 hlt => set_other (by have := (ho.lt g hg1).1; omega) _ _
 ·exact ((hb.trans (hl.mono (by omega))).trans (hB.mono (by omega))).setCell (p := ⟨o, 1, none⟩) (Nat.le_refl _) _
 ·have := hB.size; simp [World.setCell]; omega

theorem KI.same {u : World} (h9 : u.heap[o]? = some (.cells #[v1, v2] 33 (0, 0))) (ho1 : u.ownsRow (o + 1) 27 1 v1 (j + 1) k1) (ho2 : u.ownsRow (o + 1) 3 1 v2 (ibTo S ks j).length ((ibTo S ks j).map fun n => .int .i64 n))
  (hr : ∀ t, t < j + 1 → RowOut u o (k1.getD t .nilIface) (rw' (ks.getD t 0))) (hb : Below o W3 u) (hs : o + 1 ≤ u.heap.size) (hS : S (ks.getD j 0) = false) : KI o W3 ks rw' S (j + 1) k1 v1 v2 u := by
 have hib : ibTo S ks (j + 1) = ibTo S ks j := by
  show (if S (ks.getD j 0) then _ else _) = _
  rw [hS, if_neg (by decide)]
 exact ⟨h9, ho1, by rw [hib]; exact ho2, hr, hb, hs⟩
end

theorem cells_of_own {w : World} {base n c : Nat} {A : Option Addr} {cs : List CellD} (h : w.ownsRow base 29 3 (.slice A n c) cs.length (cellAll cs)) : CellsAt w A cs := by
 have hc := fun g (hg : (Value.slice A n c).ownBlock = some g) => h.cells hg
 rcases h.2 with ⟨h1, h2⟩ | ⟨g, cap, cur, h1, h2, hg, rest⟩
 ·exact Or.inl (List.eq_nil_of_length_eq_zero h2)
 ·cases h1
  have hc := hc g rfl
  have key : ∀ (l : List CellD) (j k : Nat) (v : Value), j < l.length → (cellCells (cAt l j))[k]? = some v → (cellAll l)[j * 3 + k]? = some v := by
   intro l
   induction l with
   | nil => intro j k v h; simp at h
   | cons x l ih =>
    intro j k v hj hv
    have hx : (cellCells x).length = 3 := rfl
    cases j with
    | zero =>
     have hk : k < 3 := by
      have := (List.getElem?_eq_some_iff.1 hv).1
      exact this
     show (cellCells x ++ cellAll l)[0 * 3 + k]? = some v
     rw [Nat.zero_mul, Nat.zero_add, List.getElem?_append_left (by omega)]
     exact hv
    | succ j =>
     show (cellCells x ++ cellAll l)[(j + 1) * 3 + k]? = some v
     rw [List.getElem?_append_right (by omega), show (j + 1) * 3 + k - (cellCells x).length = j * 3 + k by omega]
     exact ih j k v (by simpa using hj) hv
  refine Or.inr ⟨g, 0, rfl, (Array.getElem?_eq_some_iff.1 hg).1, fun j hj => ?_⟩
  have at' : ∀ k v, (cellCells (cAt cs j))[k]? = some v → w.cell? ⟨g, 0 + j * 3 + k, none⟩ = some v := fun k v hv => by
   have := hc _ v (key cs j k v hj hv)
   rw [Go.WideShapes.add_plain, ← Nat.add_assoc] at this
   exact this
  exact ⟨at' 0 _ rfl, at' 1 _ rfl, at' 2 _ rfl⟩

/-- What is gathered, as rows of cells. -/
theorem KI.grid {W3 wx : World} {o c : Nat} {ks : List Nat} {rw' : Nat → List CellD} {S : Nat → Bool} {k1 : List Value} {A : Option Addr} {v2 : Value} (h : KI o W3 ks rw' S ks.length k1 (.slice A ks.length c) v2 wx) : GridAt wx A (ks.map rw') := by
 have hc := fun g (hg : (Value.slice A ks.length c).ownBlock = some g) => h.own1.cells hg
 have hl := h.own1.1
 rcases h.own1.2 with ⟨_, h2⟩ | ⟨g, cap, cur, h1, h2, hg, rest⟩
 ·exact Or.inl (by rw [List.eq_nil_of_length_eq_zero h2]; rfl)
 ·cases h1
  refine Or.inr ⟨g, 0, rfl, (Array.getElem?_eq_some_iff.1 hg).1, fun i hi => ?_⟩
  rw [List.length_map] at hi
  have e : rwAt (ks.map rw') i = rw' (ks.getD i 0) := by
   unfold rwAt
   rw [List.getD_eq_getElem?_getD, List.getD_eq_getElem?_getD, List.getElem?_map, List.getElem?_eq_getElem hi]
   rfl
  obtain ⟨A', c', h3, h4⟩ := h.rws i hi
  refine ⟨A', c', ?_, by rw [e]; exact cells_of_own h4⟩
  have := hc g rfl i _ (List.getElem?_eq_getElem (by omega))
  rw [Go.WideShapes.add_plain] at this
  rw [this, e, ← h3, List.getD_eq_getElem?_getD, List.getElem?_eq_getElem (by omega)]
  rfl

end Go.Proofs.YtgolhmiocjpohaaGreatDoor
