/- The table's rows are filtered (39), where there are rows. No condition beyond sizes. -/
import Derived.Test.YtgolhmiocjpohaaGreatDoorKk2
set_option linter.unusedVariables false
set_option linter.unusedSimpArgs false
namespace Go.Proofs.YtgolhmiocjpohaaGreatDoor
open Go.RowKit Go.PlainAid

section
variable {B : Nat} {EC : World → Prop} {low : ByteArray → ByteArray} {eqf : ByteArray → ByteArray → Bool}

/-- What the filtering leaves. -/
def FiltRes (tb base n ca : Nat) (A : Option Addr) (f : Value) (ks : List Nat) (vs : Nat → List Value) (S : Nat → Bool) (w : World) (e : Ending) (w' : World) : Prop :=
 e = .returned (.tuple #[]) ∧ ∃ c' Bs cb m' nn D, TbAt w' tb c' (.slice A n ca) (.slice Bs ks.length cb) m' f ∧ (∀ j, j < ks.length → ∃ g v, Bs = some ⟨g, 0, none⟩ ∧ w'.cell? ⟨g, j, none⟩ = some v ∧ CopyIs w' v (vs (ks.getD j 0))) ∧
  MapIs w' base m' nn D ∧ (∀ j, j < ks.length → D.atKey (.int .i64 (j : Nat)) (.lit (.bool false)) = .lit (.bool (S (ks.getD j 0)))) ∧ Fr (fun k => k = tb) w w'

theorem IFiltsAt.fr {w w' : World} {tb : Nat} {A : Option Addr} {fs : List FiltD} (h : IFiltsAt w A fs) (hf : Fr (fun k => k = tb) w w') (hne : ∀ b o, A = some ⟨b, o, none⟩ → b ≠ tb) : IFiltsAt w' A fs := by
 rcases h with h | ⟨b, o, h1, h2, h3⟩
 ·exact Or.inl h
 ·have hb := hf.block b h2 (hne b o h1)
  refine Or.inr ⟨b, o, h1, Nat.lt_of_lt_of_le h2 hf.size, fun j hj => ?_⟩
  obtain ⟨c0, c1, c2, c3, c4, c5⟩ := h3 j hj
  exact ⟨(cell_block hb _).trans c0, (cell_block hb _).trans c1, (cell_block hb _).trans c2, (cell_block hb _).trans c3, (cell_block hb _).trans c4, (cell_block hb _).trans c5⟩

theorem marks_skip {D : DataW Unit} {f : Nat → Bool} {q : Nat} (h : Marks D fun t => decide (t < q) && f t) (hf : f q = false) : Marks D fun t => decide (t < q + 1) && f t := by
 intro t
 have e : (decide (t < q + 1) && f t) = (decide (t < q) && f t) := by
  by_cases h1 : t = q
  ·subst h1; simp [hf]
  ·have : decide (t < q + 1) = decide (t < q) := by
    by_cases h2 : t < q
    ·rw [decide_eq_true h2, decide_eq_true (by omega)]
    ·rw [decide_eq_false h2, decide_eq_false (by omega)]
   rw [this]
 show _ = DataW.lit (.bool (decide (t < q + 1) && f t))
 rw [e]
 exact h t
theorem marks_take {D : DataW Unit} {f : Nat → Bool} {q : Nat} (h : Marks D fun t => decide (t < q) && f t) (hD : Maps.IsMap D) (hf : f q = true) : Marks (D.put (.int .i64 (q : Nat)) (.lit (.bool true))) fun t => decide (t < q + 1) && f t := by
 intro t
 have e : (decide (t < q + 1) && f t) = ((decide (t < q) && f t) || t == q) := by
  by_cases h1 : t = q
  ·subst h1; simp [hf]
  ·have : decide (t < q + 1) = decide (t < q) := by
    by_cases h2 : t < q
    ·rw [decide_eq_true h2, decide_eq_true (by omega)]
    ·rw [decide_eq_false h2, decide_eq_false (by omega)]
   rw [this]
   simp [h1]
 show _ = DataW.lit (.bool (decide (t < q + 1) && f t))
 rw [e]
 exact h.put hD q t

/-- An entry of such a map. -/
structure Ent where
 key : Int
 val : Bool

theorem wpList_next_e (w : World) {ops : Array Oper} {rest : List Oper} {o : Oper} {a : Act} {Q : Exit → Act → World → Prop} (hg : o.guard = none) (it : Operand) (hop : o.op = Op.next it false) (base : Nat) (m : Value) (r n : Nat) (D : DataW Unit) (left : Lit → Bool) (cnt : Nat) (hit : a.eval it = .pointer (some ⟨r, 0, none⟩)) (h : RangesM w base m r n D left cnt)
  (hDone : cnt = 0 → (∀ kl, left kl = false) → wpList Tryz.prog ops Q rest (a.put o.dst (.tuple #[.bool false])) w)
  (hMore : ∀ (e : Ent) (w' : World) (cnt' : Nat), (Lit.int .i64 e.key).wf = true → (∀ zd, D.atKey (.int .i64 e.key) zd = .lit (.bool e.val)) → RangesM w' base m r n D (fun z => left z && !z.sameKey (.int .i64 e.key)) cnt' → cnt' < cnt →
   w.grownBy w' (some r) → w'.heap.size = w.heap.size → (Instr.entry (.pointer (some ⟨r, 0, none⟩))).run Tryz.prog w' = .ok (.tuple #[.int .i64 e.key, .bool e.val]) w' → wpList Tryz.prog ops Q rest (a.put o.dst (.tuple #[.bool true, .int .i64 e.key, .bool e.val])) w') :
  wpList Tryz.prog ops Q (o :: rest) a w :=
 wpList_next_m w hg it hop base m r n D left cnt hit h hDone fun x c => hMore ⟨x, c⟩

theorem lens_of_f22 {w wx : World} {tb n g : Nat} {c a m f : Value} {cs : List Value} {rows : List (List CellD)} (h : F22 w tb n g n c a m f (fun k => (rwAt rows k).map valI) cs wx) (hn : rows.length = n) (htb : tb < w.heap.size) : LensAt wx tb (some ⟨g, 0, none⟩) rows := by
 have hnew := h.new
 refine Or.inr ⟨g, 0, rfl, (Array.getElem?_eq_some_iff.1 h.blk).1, by omega, fun i hi => ?_⟩
 obtain ⟨r, h1, _⟩ := h.rows i (by omega)
 refine ⟨some ⟨r, 0, none⟩, (rwAt rows i).length, ?_⟩
 rw [Nat.zero_add, (h.at_blk i (by omega)).1, h1, List.length_map]

theorem keep_map {w wx : World} {tb base nn : Nat} {m : Value} {D : DataW Unit} (hm : MapIs w base m nn D) (htb : tb < base) (hf : Fr (fun k => k = tb) w wx) : MapIs wx base m nn D :=
 hm.block fun b hb hlt => hf.block b hlt fun e => by have := (hm.obj b hb).1; omega

/-- All rows stay. -/
theorem filt_all {w wx : World} {tb base n g ca nn : Nat} {c m f : Value} {A : Option Addr} {vs : Nat → List Value} {cs : List Value} {ks : List Nat} {D : DataW Unit} {S : Nat → Bool} (h : F22 w tb n g n c (.slice A n ca) m f vs cs wx) (hks : ks = List.range n)
  (hm : MapIs w base m nn D) (hS : Marks D S) (htb : tb < base) : FiltRes tb base n ca A f ks vs S w (.returned (.tuple #[])) wx := by
 subst hks
 refine ⟨rfl, c, some ⟨g, 0, none⟩, n, m, nn, D, by rw [List.length_range]; exact h.tab, fun j hj => ?_, keep_map hm htb h.fr, fun j hj => ?_, h.fr⟩
 ·rw [List.length_range] at hj
  have e : (List.range n).getD j 0 = j := by simp [List.getD_eq_getElem?_getD, hj]
  exact ⟨g, _, rfl, (h.at_blk j hj).1, by rw [e]; exact h.rows j hj⟩
 ·rw [List.length_range] at hj
  have e : (List.range n).getD j 0 = j := by simp [List.getD_eq_getElem?_getD, hj]
  rw [e]
  exact hS j

/-- The rows kept stay, at the head. -/
theorem filt_done {w w7 wr wx : World} {tb base n g ca nn : Nat} {c m m' f v9 v10 : Value} {A : Option Addr} {rows : List (List CellD)} {cs cs2 : List Value} {ks : List Nat} {p : List CellD → Bool} {D : DataW Unit} {S : Nat → Bool} (h : F22 w tb n g n c (.slice A n ca) m f (fun k => (rwAt rows k).map valI) cs w7) (hk : Keep3 w7 g n p rows cs n v9 v10 cs2 wr) (hks : ks = keptIx p rows n)
  (ht : TbAt wx tb c (.slice A n ca) (.slice (some ⟨g, 0, none⟩) (keptIx p rows n).length n) m' f) (hm : MapIs wx base m' nn D) (hS : ∀ j, j < (keptIx p rows n).length → D.atKey (.int .i64 (j : Nat)) (.lit (.bool false)) = .lit (.bool (S ((keptIx p rows n).getD j 0)))) (htb : tb < w.heap.size) (hf : Fr (fun k => k = tb) wr wx) :
  FiltRes tb base n ca A f ks (fun k => (rwAt rows k).map valI) S w (.returned (.tuple #[])) wx := by
 subst hks
 have hnew := h.new
 have hT7 : w7.heap[tb]? = _ := h.tab
 have hTr : wr.heap[tb]? = _ := (hk.fr.block tb h.tab.lt (by omega)).trans hT7
 have hkl := keptIx_len p rows n
 have hgx := (hf.block g (Array.getElem?_eq_some_iff.1 hk.blk).1 (by omega)).trans hk.blk
 refine ⟨rfl, c, some ⟨g, 0, none⟩, n, m', nn, D, ht, fun j hj => ⟨g, cs2.getD j .nilIface, rfl, ?_, ?_⟩, hm, hS, ?_⟩
 ·have hl := hk.len
  rw [cell_of_row wx g j _ _ _ hgx, List.getD_eq_getElem?_getD, List.getElem?_eq_getElem (by omega)]
  simp [show j < cs2.length by omega]
 ·rw [hk.low j hj]
  have hin : (keptIx p rows n).getD j 0 < n := by
   have : (keptIx p rows n).getD j 0 ∈ keptIx p rows n := by
    rw [List.getD_eq_getElem?_getD, List.getElem?_eq_getElem hj]
    exact List.getElem_mem _
   exact keptIx_lt p rows n _ this
  have h1 := (h.rows _ hin).fr hk.fr (fun k cs h2 e => by subst e; rw [h.blk] at h2; cases h2)
  exact h1.fr hf (fun k cs h2 e => by subst e; rw [hTr] at h2; cases h2)
 ·have h1 : Fr (fun k => k = tb) w wr := h.fr.trans hk.fr (fun k hk2 e => by omega)
  exact h1.trans hf (fun _ _ e => e)

set_option maxHeartbeats 3200000 in
set_option maxRecDepth 100000 in
theorem filter_rows (L : LibC B EC low eqf) (w : World) (tb base n ca cb cf nn : Nat) (c m : Value) (A Bv Fa : Option Addr) (xa : List Value) (rows : List (List CellD)) (fs : List FiltD) (D : DataW Unit) (S : Nat → Bool)
  (ht : TbAt w tb c (.slice A n ca) (.slice Bv n cb) m (.slice Fa fs.length cf)) (hn : rows.length = n) (h0 : 0 < n) (hn60 : n ≤ 60) (ha : w.ownsRow base 74 1 (.slice A n ca) n xa)
  (hrows : ∀ k, k < n → CopyIs w (xa.getD k .nilIface) ((rwAt rows k).map valI)) (hm : MapIs w base m nn D) (hnn : nn ≤ 10000) (hS : Marks D S) (hf : IFiltsAt w Fa fs) (hFb : ∀ b o, Fa = some ⟨b, o, none⟩ → b ≠ tb) (hfl : fs.length ≤ 8)
  (hfo : ∀ j, j < fs.length → CellOkD (fAt fs j).value) (hok : ∀ i, i < n → (rwAt rows i).length ≤ 2147483647 ∧ ∀ j, j < (rwAt rows i).length → CellOkD (cAt (rwAt rows i) j)) (hE : EC w) (hB : B ≤ tb) (htb : tb < base) (hbs : base ≤ w.heap.size) :
  Calls Tryz.prog 39 #[.pointer (some ⟨tb, 0, none⟩)] w (FiltRes tb base n ca A (.slice Fa fs.length cf) (keptIx (fun row => allTo low eqf fs (colsTo rows n) row fs.length) rows n) (fun k => (rwAt rows k).map valI) S w) := by
 obtain ⟨i0, hi, hz0, hz1, hz2⟩ := info_parts info74
 have HI := Lib.hid hi
 have HZ0 := Lib.hid hz0
 have HZ1 := Lib.hid hz1
 have HZ2 := Lib.hid hz2
 clear hi hz0 hz1 hz2
 obtain ⟨i20, hi, hz0, hz1, hz2⟩ := info_parts info20
 have HI20 := Lib.hid hi
 have HY0 := Lib.hid hz0
 have HY1 := Lib.hid hz1
 have HY2 := Lib.hid hz2
 clear hi hz0 hz1 hz2
 obtain ⟨i3, hi, hz0, hz1, hz2⟩ := info_parts info3
 have HI3 := Lib.hid hi
 have HX0 := Lib.hid hz0
 have HX1 := Lib.hid hz1
 have HX2 := Lib.hid hz2
 clear hi hz0 hz1 hz2
 have HT := Lib.hid ht
 have HA := Lib.hid ha
 have HROWS := Lib.hid hrows
 have HM := Lib.hid (And.intro hm hS)
 have HF := Lib.hid (And.intro hf (And.intro hFb hfo))
 have HOK := Lib.hid hok
 have HE := Lib.hid (And.intro hE hB)
 have HN := Lib.hid hn
 obtain ⟨t14, t23, t24, t35, t38, t27, t30, tf⟩ := ht.cells
 have htl := ht.lt
 have hnI : (0 : Int) < (n : Int) := by omega
 have hbz : (24 : Nat) * n ≤ 281474976710656 := by omega
 obtain ⟨gA, hA, HAC⟩ : ∃ gA, A = some ⟨gA, 0, none⟩ ∧ Hid (base ≤ gA ∧ gA < w.heap.size ∧ ∀ k, k < n → w.cell? ⟨gA, k, none⟩ = some (xa.getD k .nilIface)) := by
  have hc := fun g (h : (Value.slice A n ca).ownBlock = some g) => ha.cells h
  rcases ha.2 with ⟨h1, h2⟩ | ⟨g, cap, cur, h1, h2, hg, rest⟩
  ·cases h1; omega
  ·cases h1
   refine ⟨g, rfl, h2, (ha.lt g rfl).2, fun k hk => ?_⟩
   have hl := ha.1
   have := hc g rfl k _ (List.getElem?_eq_getElem (by omega))
   rw [Go.WideShapes.add_plain, Nat.zero_add] at this
   rw [List.getD_eq_getElem?_getD, List.getElem?_eq_getElem (by omega)]
   exact this
 clear ht ha hrows hm hS hf hFb hfo hok hE hB hn tf
 subst hA
 have hmm := @run_makeMap Tryz.prog
 go_enter Tryz.func39, Tryz.ntmps39
 go_upto_region 2 with (first
  | (at_make; refine wpList_make_full _ rfl _ _ 59 rfl base 74 i0 (.slice none 0 0) 1 Tryz.underlying59 HI.out HZ0.out HZ1.out .i64 .i64 _ _ n rfl rfl rfl rfl (by rw [HZ2.out]; exact hbz) (by unfold maxLen; omega) hbs ?_; intro w1 ho hg; have hT1 : TbAt w1 tb c (.slice (some ⟨gA, 0, none⟩) n ca) (.slice Bv n cb) m (.slice Fa fs.length cf) := (hg.block tb htl (by simp)).trans HT.out; obtain ⟨zs, hzs⟩ : ∃ zs, (madeCells (Value.slice none 0 0).cells (n * 1)).toList = zs := ⟨_, rfl⟩; rw [hzs] at ho; have HW1 := Lib.hid (And.intro ho (And.intro hg hT1)); obtain ⟨pc14, pc23, pc24, pc35, pc38, pc27, pc30, pcf⟩ := hT1.cells; have g24 := pcf 24; clear ho hg hzs hT1 pcf))
 have HF0 : Hid (F22 w tb n w.heap.size 0 c (.slice (some ⟨gA, 0, none⟩) n ca) m (.slice Fa fs.length cf) (fun k => (rwAt rows k).map valI) zs (w1.setCell ⟨tb, 24, none⟩ (.slice (some ⟨w.heap.size, 0, none⟩) n n))) := by
  obtain ⟨ho, hg, hT1⟩ := HW1.out
  refine ⟨hT1.setB _, ?_, by have := ho.1; omega, Nat.le_refl _, fun k hk => by omega, ((Fr.refl _ _).grown hg (fun k _ e => by cases e)).set tb 24 _ rfl⟩
  rw [set_other (by omega)]
  exact row_whole ho
 go_wp2_with fail
 go_loopg [2, 3, 4, 36] n (fun g s2 s3 s4 s36 wx => ∃ (i : Nat) (cs : List Value), s36 = .int .i64 i ∧ i + g = n ∧ F22 w tb n w.heap.size i c (.slice (some ⟨gA, 0, none⟩) n ca) m (.slice Fa fs.length cf) (fun k => (rwAt rows k).map valI) cs wx)
 case atStart => exact ⟨0, zs, rfl, by omega, HF0.out⟩
 case round =>
  obtain ⟨i, cs, rfl, hig, hf22⟩ := hrel
  have HR := Lib.hid hf22
  clear HF0 HW1 pc14 pc23 pc24 pc35 pc38 pc27 pc30 g24
  obtain ⟨pc14, pc23, pc24, pc35, pc38, pc27, pc30, pcf⟩ := hf22.tab.cells
  cases gk with
  | zero =>
   have hi : ¬ (i : Int) < (n : Int) := by omega
   have hie : i = n := by omega
   subst hie
   clear hf22 pcf
   by_cases hf0 : fs.length = 0
   ·obtain rfl := List.eq_nil_of_length_eq_zero hf0
    go_wp2_with fail
    go_end0
    exact filt_all HR.out (keptIx_all (fun r => rfl) rows i) HM.out.1 HM.out.2 htb
   ·have hfI : ¬ (fs.length : Int) = 0 := by omega
    have HMW : Hid (MapIs (wr.alloc (.map #[] 0)) base m nn D) := (keep_map HM.out.1 htb HR.out.fr).block fun b _ hlt => Below.heap_alloc _ _ _ hlt
    have e1 : (wr.alloc (.map #[] 0)).heap.size = wr.heap.size + 1 := by simp
    have M0 : Hid ((wr.alloc (.map #[] 0)).ownsMap Tryz.prog 3 (plainElem Tryz.prog 4) wr.heap.size 0 (.map [] : DataW Unit)) := World.ownsMap_made _ _ _ _
    have htW : tb < wr.heap.size := HR.out.tab.lt
    have pe35 : (wr.alloc (.map #[] 0)).cell? ⟨tb, 35, none⟩ = some m := (World.cell?_alloc_past _ _ _ htW).trans pc35
    have HMLT : Hid (∀ b, m = .map (some b) → b < wr.heap.size) := fun b hb => by
     obtain ⟨_, es, clock, h9⟩ := (keep_map HM.out.1 htb HR.out.fr).obj b hb
     exact (Array.getElem?_eq_some_iff.1 h9).1
    generalize hW1 : wr = W1 at *
    go_wp2_with (first
     | (at_range; refine wpList_range_m _ rfl _ rfl base m nn D rfl HMW.out ?_; intro w5 hrg hg hs; rw [e1] at hrg hs ⊢; have HW5 := Lib.hid (And.intro hrg (And.intro hg hs)); clear hrg hg hs))
    go_loopw [6, 7] (fun s6 s7 wx => ∃ (left : Lit → Bool) (cnt : Nat) (Dout : DataW Unit), RangesM wx base m (W1.heap.size + 1) nn D left cnt ∧ cnt ≤ Maps.size D ∧ wx.ownsMap Tryz.prog 3 (plainElem Tryz.prog 4) W1.heap.size (Maps.size D - cnt) Dout ∧ Maps.Agree Dout D left ∧ Below W1.heap.size W1 wx ∧ W1.heap.size + 1 < wx.heap.size)
     (fun _ _ wx => leftM wx m (W1.heap.size + 1))
    case atStart =>
     obtain ⟨hrg, hg, hs⟩ := HW5.out
     exact ⟨_, _, .map [], hrg, Nat.le_refl _, (M0.out.kept hg (by simp)).mono (Nat.zero_le _), Maps.agree_start D, ((Below.refl _ _).alloc (Nat.le_refl _) _).grown hg (by simp) (fun j hj => by cases hj), by omega⟩
    case round =>
     obtain ⟨left, cnt, Dout, hrg, hcs, hout, hA, hnx, hsz⟩ := hrel
     have HL := Lib.hid (And.intro hrg (And.intro hout (And.intro hA (And.intro hnx hsz))))
     clear HW5 M0 HMW pe35
     have hnD : Maps.size D ≤ nn := HM.out.1.size_le
     clear hrg hout hA hnx
     go_wp2_with (first
      | (refine wpList_next_e _ rfl _ rfl base m (W1.heap.size + 1) nn D left cnt rfl HL.out.1 ?_ ?_))
     ·intro hc0 hl0
      subst hc0
      have HWX : Hid (wr.ownsMap Tryz.prog 3 (plainElem Tryz.prog 4) W1.heap.size (Maps.size D) D ∧ F22 w tb i w.heap.size i c (.slice (some ⟨gA, 0, none⟩) i ca) m (.slice Fa fs.length cf) (fun k => (rwAt rows k).map valI) cs wr) := by
       obtain ⟨hrg0, hout0, hA, hnx, hsz0⟩ := HL.out
       have e := Maps.agree_end hA hl0 (hout0.canon lawM) HM.out.1.canon
       subst e
       exact ⟨by simpa using hout0, HR.out.later hnx⟩
      clear HL hl0 hcs hsz
      have K50 := Lib.hid (num_columns wr tb (some ⟨w.heap.size, 0, none⟩) i c (.slice (some ⟨gA, 0, none⟩) i ca) m (.slice Fa fs.length cf) rows (by rw [HN.out]; exact HWX.out.2.tab) (lens_of_f22 HWX.out.2 HN.out htl) (by rw [HN.out]; exact hn60) (fun k hk => (HOK.out k (by rw [← HN.out]; exact hk)).1))
      rw [HN.out] at K50
      have hcl : colsTo rows i ≤ 2147483647 := by have := cols_le rows (fun k hk => (HOK.out k (by rw [← HN.out]; exact hk)).1) i (by rw [HN.out]; exact Nat.le_refl _); exact this
      go_upto_region 17 with (first
       | (go_at_call 50; (with_reducible refine K50.out.mono ?_); rintro e w6 ⟨rfl, ht6, ho6⟩; have HC6 := Lib.hid (And.intro ht6 ho6); obtain ⟨pf14, pf23, pf24, pf35, pf38, pf27, pf30, _⟩ := ht6.cells; have K51 := Lib.hid (parse_filters w6 tb (colsTo rows i) Fa cf fs ht6.lt pf14 hcl (HF.out.1.fr (HWX.out.2.fr.trans ho6.fr (fun _ _ e => e)) HF.out.2.1) hfl); clear ht6 ho6)
       | (go_at_call 51; (with_reducible refine K51.out.mono ?_); rintro e w7 ⟨vp, rfl, hov, hb7⟩; obtain ⟨Pp, cp, rfl⟩ := own_form hov; have HC7 := Lib.hid (And.intro hov hb7); clear hov hb7))
      have HF7 : Hid (F22 w tb i w.heap.size i (.int .i64 (colsTo rows i : Nat)) (.slice (some ⟨gA, 0, none⟩) i ca) m (.slice Fa fs.length cf) (fun k => (rwAt rows k).map valI) cs w7) :=
       (HWX.out.2.retab HC6.out.2 HC6.out.1 (by omega)).later HC7.out.2
      have HW7 : Hid (w7.ownsMap Tryz.prog 3 (plainElem Tryz.prog 4) W1.heap.size (Maps.size D) D) := by
       have h1 : w6.ownsMap Tryz.prog 3 (plainElem Tryz.prog 4) W1.heap.size (Maps.size D) D := by
        have hlt := HWX.out.1.lt
        obtain ⟨es, clock, h2, h3⟩ := HWX.out.1
        exact ⟨es, clock, (HC6.out.2.block _ hlt (by omega)).trans h2, h3⟩
       have hlt := h1.lt
       obtain ⟨es, clock, h2, h3⟩ := h1
       exact ⟨es, clock, (HC7.out.2.block _ hlt).trans h2, h3⟩
      clear K50 pc14 pc23 pc24 pc35 pc38 pc27 pc30 pf14 pf23 pf24 pf35 pf38 pf27 pf30
      have HCA := Lib.hid (fun row => cells_all (low := low) (eqf := eqf) fs (colsTo rows i) row fs.length)
      have HPA := Lib.hid (parsed_all (p := fun f => CellOkD f.value) fs (colsTo rows i) (fun j hj => HF.out.2.2 j hj) fs.length (Nat.le_refl _))
      have hpl := parsed_len fs (colsTo rows i) fs.length
      generalize parsedTo fs (colsTo rows i) fs.length = pf at *
      by_cases hp0 : pf.length = 0
      ·have hpI : (pf.length : Int) = 0 := by omega
       go_wp2_with fail
       go_end0
       exact filt_all HF7.out (keptIx_all (fun r => by rw [← HCA.out r, hp0]; rfl) rows i) HM.out.1 HM.out.2 htb
      ·have hpI : ¬ (pf.length : Int) = 0 := by omega
       obtain ⟨p, hp⟩ : ∃ p : List CellD → Bool, p = fun row => allTo low eqf fs (colsTo rows i) row fs.length := ⟨_, rfl⟩
       have HP : Hid (∀ row, cellsTo low eqf pf row pf.length = p row) := fun row => by rw [hp]; exact HCA.out row
       have HPF : Hid (keptIx (fun row => allTo low eqf fs (colsTo rows i) row fs.length) rows i = keptIx p rows i) := by show _ = _; rw [hp]
       clear HCA hp
       obtain ⟨pg14, pg23, pg24, pg35, pg38, pg27, pg30, pgf⟩ := HF7.out.tab.cells
       have hb8 : (8 : Nat) * i ≤ 281474976710656 := by omega
       have hw7 : tb < w7.heap.size := HF7.out.tab.lt
       go_upto_region 20 with (first
        | (at_make; refine wpList_make_own _ rfl _ _ 23 rfl w7.heap.size 3 i3 (.int .i64 0) 1 Tryz.underlying23 HI3.out HX0.out HX1.out .i64 .i64 _ i rfl rfl rfl (by rw [HX2.out]; exact hb8) (by unfold maxLen; omega) (Nat.le_refl _) ?_; intro w8 ho hg; have HC8 := Lib.hid (And.intro ho hg); clear ho hg))
       have HB8 : Hid (Below w7.heap.size w7 w8) := (Below.refl _ _).grown HC8.out.2 (Nat.le_refl _) (fun k e => by cases e)
       have HF8 := Lib.hid (HF7.out.later HB8.out)
       clear pg14 pg23 pg24 pg35 pg38 pg27 pg30 pgf
       obtain ⟨ph14, ph23, ph24, ph35, ph38, ph27, ph30, _⟩ := HF8.out.tab.cells
       have HK0 : Hid (Keep3 w7 w.heap.size i p rows cs 0 (.slice (some ⟨w.heap.size, 0, none⟩) 0 i) (.slice (some ⟨w7.heap.size, 0, none⟩) 0 i) cs w8) :=
        ⟨rfl, HF8.out.blk, HF8.out.len, fun k hk => by simp [keptIx] at hk, fun _ _ _ => rfl, HC8.out.1, Fr.of HB8.out⟩
       have HE7 : Hid (EC w7) := L.stable HE.out.1 (HF7.out.fr.below (by have := HE.out.2; omega) (fun k e => by have := HE.out.2; omega))
       have hsz7 : w.heap.size ≤ w7.heap.size := HF7.out.fr.size
       have HI7 : Hid (IFiltsAt w7 Pp pf ∧ ∀ b o, Pp = some ⟨b, o, none⟩ → b ≠ w.heap.size) := ⟨ifilts_of_own (w' := w7) HC7.out.1, fun b o e e2 => by
        subst e
        subst e2
        rcases HC7.out.1.2 with ⟨h1, _⟩ | ⟨g', cap', cur', h1, _, h2, _⟩
        ·cases h1
        ·cases h1
         rw [HF7.out.blk] at h2
         cases h2⟩
       go_wp2_with fail
       go_loopg [9, 10, 11, 12, 102] i (fun g s9 s10 s11 s12 s102 wx => ∃ (k : Nat) (cs2 : List Value), s102 = .int .i64 k ∧ k + g = i ∧ Keep3 w7 w.heap.size i p rows cs k s9 s10 cs2 wx)
       case atStart => exact ⟨0, cs, rfl, by omega, HK0.out⟩
       case round =>
        obtain ⟨k, cs2, rfl, hkg, hk3⟩ := hrel
        obtain rfl := hk3.e9
        obtain ⟨A10, c10, rfl⟩ := own_form hk3.own
        have HK := Lib.hid hk3
        clear HK0 HF8 HC8 ph14 ph23 ph24 ph35 ph38 ph27 ph30
        cases gk with
        | zero =>
         have hkI : ¬ (k : Int) < (i : Int) := by omega
         obtain rfl : i = k := by omega
         have HTr : Hid (TbAt wr tb (.int .i64 (colsTo rows i : Nat)) (.slice (some ⟨gA, 0, none⟩) i ca) (.slice (some ⟨w.heap.size, 0, none⟩) i i) m (.slice Fa fs.length cf)) := (hk3.fr.block tb hw7 (by omega)).trans HF7.out.tab
         have HWr : Hid (wr.ownsMap Tryz.prog 3 (plainElem Tryz.prog 4) W1.heap.size (Maps.size D) D) := by
          have hlt := HW7.out.lt
          obtain ⟨es, clock, h2, h3⟩ := HW7.out
          exact ⟨es, clock, (hk3.fr.block _ hlt (fun e => by rw [e, HF7.out.blk] at h2; cases h2)).trans h2, h3⟩
         have HFr : Hid (Fr (fun k => k = tb) w wr) := HF7.out.fr.trans hk3.fr (fun k hk2 e => by omega)
         have HMr : Hid (MapIs wr base m nn D) := keep_map HM.out.1 htb HFr.out
         have hwr : tb < wr.heap.size := HTr.out.lt
         have hjl := keptIx_len p rows i
         obtain ⟨pj14, pj23, pj24, pj35, pj38, pj27, pj30, pjf⟩ := HTr.out.cells
         have pjf24 := pjf 24
         have hW1 : W1.heap.size ≠ tb := by omega
         clear hk3 pjf
         by_cases hD0 : Maps.size D = 0
         ·have hDI : ¬ (0 : Int) < (Maps.size D : Int) := by omega
          go_wp2_with (at_len; refine wpList_len_own _ rfl _ 66 rfl 3 4 Tryz.underlying66 _ W1.heap.size _ D rfl (HWr.out.setCell (a := ⟨tb, 24, none⟩) hW1 _) ?_)
          go_end0
          exact filt_done HF7.out HK.out HPF.out (HTr.out.setB _) (keep_map HMr.out htb ((Fr.refl _ _).set tb 24 _ rfl)) (fun j hj => by rw [HM.out.2 j, HM.out.2.empty HM.out.1.canon hD0, HM.out.2.empty HM.out.1.canon hD0]) htl ((Fr.refl _ _).set tb 24 _ rfl)
         ·have hDI : (0 : Int) < (Maps.size D : Int) := by omega
          go_upto_region 30 with (at_len; refine wpList_len_own _ rfl _ 66 rfl 3 4 Tryz.underlying66 _ W1.heap.size _ D rfl (HWr.out.setCell (a := ⟨tb, 24, none⟩) hW1 _) ?_)
          have hs24 : (wr.setCell ⟨tb, 24, none⟩ (.slice (some ⟨w.heap.size, 0, none⟩) (keptIx p rows i).length i)).heap.size = wr.heap.size := by unfold World.setCell; simp
          have T9 := Lib.hid ((HTr.out.setB (.slice (some ⟨w.heap.size, 0, none⟩) (keptIx p rows i).length i)).below ((Below.refl _ _).alloc (Nat.le_refl _) (.map #[] 0)))
          have O9 := Lib.hid ((HWr.out.setCell (a := ⟨tb, 24, none⟩) hW1 (.slice (some ⟨w.heap.size, 0, none⟩) (keptIx p rows i).length i)).alloc (.map #[] 0))
          have M9 : Hid (((wr.setCell ⟨tb, 24, none⟩ (.slice (some ⟨w.heap.size, 0, none⟩) (keptIx p rows i).length i)).alloc (.map #[] 0)).ownsMap Tryz.prog 3 (plainElem Tryz.prog 4) wr.heap.size 0 (.map [] : DataW Unit)) := by
           have h := World.ownsMap_made (H := Unit) (wr.setCell ⟨tb, 24, none⟩ (.slice (some ⟨w.heap.size, 0, none⟩) (keptIx p rows i).length i)) Tryz.prog 3 (plainElem Tryz.prog 4)
           rwa [hs24] at h
          have F9 : Hid (Fr (fun k => k = tb) wr ((wr.setCell ⟨tb, 24, none⟩ (.slice (some ⟨w.heap.size, 0, none⟩) (keptIx p rows i).length i)).alloc (.map #[] 0))) := ((Fr.refl (fun k => k = tb) wr).set tb 24 _ rfl).then ((Below.refl _ _).alloc (Nat.le_refl _) _)
          have HI9 := Lib.hid (own_same HK.out.own (fun q hq hlt => F9.out.block q hlt (by rintro rfl; obtain ⟨cur, hc⟩ := own_obj HK.out.own hq; have h9 : wr.heap[q]? = _ := HTr.out; rw [h9] at hc; cases hc)))
          have hlW : W1.heap.size < wr.heap.size := HWr.out.lt
          have hbr : base ≤ wr.heap.size := Nat.le_trans hbs HFr.out.size
          clear pj14 pj23 pj24 pj35 pj38 pj27 pj30 pjf24 hs24 HWr HMr
          generalize (wr.setCell ⟨tb, 24, none⟩ (.slice (some ⟨w.heap.size, 0, none⟩) (keptIx p rows i).length i)).alloc (.map #[] 0) = W9 at *
          generalize wr = W8 at *
          go_wp2_with fail
          go_loopg [14, 15, 130] (keptIx p rows i).length (fun g s14 s15 s130 wx => ∃ (q : Nat) (Dn : DataW Unit), s130 = .int .i64 q ∧ q + g = (keptIx p rows i).length ∧ wx.ownsMap Tryz.prog 3 (plainElem Tryz.prog 4) W8.heap.size q Dn ∧ Marks Dn (fun t => decide (t < q) && S ((keptIx p rows i).getD t 0)) ∧ Fr (fun t => t = W8.heap.size) W9 wx)
          case atStart => exact ⟨0, .map [], rfl, by omega, M9.out, fun t => by have := Marks.start t; simpa using this, Fr.refl _ _⟩
          case round =>
           obtain ⟨q, Dn, rfl, hqg, hom, hmk, hfr⟩ := hrel
           have HQ := Lib.hid (And.intro hom (And.intro hmk hfr))
           have hq60 : q ≤ 60 := by omega
           cases gk with
           | zero =>
            have hqI : ¬ (q : Int) < ((keptIx p rows i).length : Int) := by omega
            have HTx := Lib.hid ((hfr.block tb T9.out.lt (by omega)).trans T9.out)
            obtain ⟨pk14, pk23, pk24, pk35, pk38, pk27, pk30, pkf⟩ := (show TbAt wr tb _ _ _ _ _ from HTx.out).cells
            have pkf35 := pkf 35
            clear hom hmk hfr pkf
            go_wp2_with fail
            go_end0
            obtain ⟨hom, hmk, hfr⟩ := HQ.out
            have f1 : Fr (fun k => k = tb) W8 wr := F9.out.trans hfr (fun k hk e => by omega)
            refine filt_done HF7.out HK.out HPF.out (TbAt.setM HTx.out _) (Or.inr ⟨_, rfl, hbr, hom.setCell (a := ⟨tb, 35, none⟩) (by show W8.heap.size ≠ tb; omega) _⟩) (fun j hj => ?_) htl (f1.set tb 35 _ rfl)
            rw [hmk j]
            simp [show j < q by omega]
           | succ g =>
            have hqI : (q : Int) < ((keptIx p rows i).length : Int) := by omega
            have hql : q < (keptIx p rows i).length := by omega
            have hO := O9.out.lt
            have hlook : ∃ x, (Instr.lookup 66 (.map (some W1.heap.size)) (.int .i64 (((keptIx p rows i).getD q 0 : Nat) : Int)) false).run Tryz.prog wr = .ok (.bool x) wr ∧ x = S ((keptIx p rows i).getD q 0) := by
             have h1 : wr.ownsMap Tryz.prog 3 (plainElem Tryz.prog 4) W1.heap.size (Maps.size D) D := by
              obtain ⟨es, clock, h2, h3⟩ := O9.out
              exact ⟨es, clock, (hfr.block _ hO (by omega)).trans h2, h3⟩
             have hm2 : MapIs wr 0 (.map (some W1.heap.size)) (Maps.size D) D := Or.inr ⟨_, rfl, Nat.zero_le _, h1⟩
             have hin : (keptIx p rows i).getD q 0 < i := keptIx_lt p rows i _ (by rw [List.getD_eq_getElem?_getD, List.getElem?_eq_getElem hql]; exact List.getElem_mem _)
             obtain ⟨x, hrun, hat⟩ := hm2.look (wf_small (k := (keptIx p rows i).getD q 0) (by omega))
             refine ⟨x, hrun, ?_⟩
             rw [HM.out.2] at hat
             simpa using hat.symm
            obtain ⟨x, hrun, hx⟩ := hlook
            obtain ⟨g10, hA10, z0⟩ : ∃ g10, A10 = some ⟨g10, 0, none⟩ ∧ wr.cell? ⟨g10, q, none⟩ = some (.int .i64 (((keptIx p rows i).getD q 0 : Nat) : Int)) := by
             have hc := fun g (h : (Value.slice A10 (keptIx p rows i).length c10).ownBlock = some g) => HI9.out.cells h
             have hlt9 := HI9.out.lt
             rcases HI9.out.2 with ⟨h1, h2⟩ | ⟨g', cap, cur, h1, h2, hg, rest⟩
             ·omega
             ·cases h1
              refine ⟨g', rfl, ?_⟩
              have := hc g' rfl q _ (List.getElem?_eq_getElem (by rw [List.length_map]; exact hql))
              rw [Go.WideShapes.add_plain, Nat.zero_add] at this
              have hg2 : W9.heap[g']? = some (.cells cur 3 (0, 0)) := hg
              have hne : g' ≠ W8.heap.size := fun e => by
               obtain ⟨es, clock, h5, _⟩ := M9.out
               rw [← e, hg2] at h5
               cases h5
              rw [cell_block (hfr.block g' (hlt9 g' rfl).2 hne), this, List.getElem_map, List.getD_eq_getElem?_getD, List.getElem?_eq_getElem hql]
              rfl
            subst hA10
            have HX := Lib.hid hx
            generalize hkq : (keptIx p rows i).getD q 0 = kq at hrun z0 hx
            have HKQ := Lib.hid hkq
            have hn1 : q < 1000000 := by omega
            clear hom hmk hfr hx hkq hO
            cases x with
            | false =>
             go_wp2_with fail
             go_roundg g
             case measure => omega
             case rel => exact ⟨q + 1, Dn, by go_num, by omega, HQ.out.1.mono (Nat.le_succ _), marks_skip HQ.out.2.1 HX.out.symm, HQ.out.2.2⟩
            | true =>
             go_wp2_with (at_mapUpdate; refine wpList_mapUpdate_m _ rfl _ _ _ rfl W8.heap.size q Dn rfl HQ.out.1 hn1 (q : Int) true rfl rfl (wf_small (by omega)) ?_; intro w2 ho2 hg2; have HU := Lib.hid (And.intro ho2 hg2); clear ho2 hg2)
             go_roundg g
             case measure => omega
             case rel => exact ⟨q + 1, _, by go_num, by omega, HU.out.1, marks_take HQ.out.2.1 HQ.out.1.isMap HX.out.symm, HQ.out.2.2.grown HU.out.2 (fun k _ e => by simpa using e.symm)⟩
        | succ g =>
         have hkI : (k : Int) < (i : Int) := by omega
         have hki : k < i := by omega
         have y0 := hk3.at_blk k hki
         rw [hk3.high k (Nat.le_refl _) hki] at y0
         have hcp : CopyIs wr (cs.getD k .nilIface) ((rwAt rows k).map valI) := (HF7.out.rows k hki).fr hk3.fr (fun j cs h e => by subst e; rw [HF7.out.blk] at h; cases h)
         obtain ⟨R, hr1, hva⟩ := hcp.vals
         rw [List.length_map] at hr1
         rw [hr1] at y0
         have HR1 := Lib.hid hr1
         have hcol : colsTo rows i ≤ 2147483647 := hcl
         have K52 := Lib.hid (match_all L (.pointer (some ⟨tb, 0, none⟩)) wr R Pp (rwAt rows k).length cp (rwAt rows k) pf hva (HI7.out.1.fr (tb := w.heap.size) hk3.fr HI7.out.2) (L.stable HE7.out (hk3.fr.below (by have := HE.out.2; omega) (fun k e => by have := HE.out.2; omega)))
          (HOK.out k hki).1 (by omega) (fun j hj => ⟨(HPA.out j hj).2.1, by have := (HPA.out j hj).2.2; omega⟩) (HOK.out k hki).2 (fun j hj => (HPA.out j hj).1))
         rw [HP.out] at K52
         have hjl := keptIx_len p rows k
         obtain ⟨l, hl⟩ : ∃ l, (rwAt rows k).length = l := ⟨_, rfl⟩
         rw [hl] at y0 K52 HR1
         obtain ⟨bb, hbb⟩ : ∃ bb, p (rwAt rows k) = bb := ⟨_, rfl⟩
         rw [hbb] at K52
         have HBB := Lib.hid hbb
         clear hk3 hcp hr1 hva hbb hl
         cases bb with
         | false =>
          go_wp2_with (go_at_call 52; (with_reducible refine K52.out.mono ?_); rintro e wy ⟨rfl, hby⟩; have HY := Lib.hid hby; clear hby)
          go_roundg g
          case measure => omega
          case rel => exact ⟨k + 1, cs2, by go_num, by omega, (HK.out.later HY.out).skip HBB.out⟩
         | true =>
          have hj60 : (keptIx p rows k).length ≤ 60 := by omega
          have hjI : (keptIx p rows k).length < i := by omega
          go_wp2_with (first
           | (go_at_call 52; (with_reducible refine K52.out.mono ?_); rintro e wy ⟨rfl, hby⟩; have HY := Lib.hid (And.intro hby (HK.out.later hby)); clear hby)
           | (at_builtin; refine wpList_append_in rfl _ _ rfl w.heap.size (keptIx p rows k).length i cs2 ((Below.heap_alloc _ _ _ (Array.getElem?_eq_some_iff.1 HY.out.2.blk).1).trans HY.out.2.blk) HY.out.2.len hjI rfl ⟨wy.heap.size, 0, none⟩ 1 (.slice R l l) rfl (cell_one_new _ _ _) rfl ?_; intro w1' hg1 f1; have HA1 := Lib.hid (And.intro hg1 f1); have HO1 : Hid (w1'.ownsRow w7.heap.size 3 1 (.slice A10 (keptIx p rows k).length c10) (keptIx p rows k).length ((keptIx p rows k).map fun (k : Nat) => .int .i64 (k : Int)) ∧ w7.heap.size ≤ w1'.heap.size) := ⟨own_same (HY.out.2.own.alloc _) (fun q hq hlt => f1.block q hlt (fun e => by subst e; obtain ⟨cur, hc⟩ := own_obj HY.out.2.own hq; rw [HY.out.2.blk] at hc; cases hc)), by have h1 := f1.size; have h2 := HY.out.2.fr.size; simp at h1; omega⟩; clear hg1 f1)
           | (at_builtin; refine wpList_append_own _ rfl _ _ 23 rfl w7.heap.size 3 i3 (.int .i64 0) 1 8 Tryz.underlying23 HI3.out HX0.out HX1.out HX2.out rfl (by decide) _ _ _ rfl (HO1.out.1.alloc _) ⟨w1'.heap.size, 0, none⟩ 1 1 [.int .i64 (k : Int)] rfl rfl (cell_one_new _ _ _) (by intro u hu; simp at hu; subst hu; rfl) (by unfold maxLen; omega) (by omega) (by simp; have := HO1.out.2; omega) ?_; intro v' w2 ho hg hxx; have HA2 := Lib.hid (And.intro ho hg); clear ho hg hxx))
          go_roundg g
          case measure => omega
          case rel =>
           exact ⟨k + 1, _, by go_num, by omega, HK.out.take HBB.out hki (by rw [HR1.out]; exact HA1.out.1) ((Fr.of (HY.out.1.alloc HY.out.1.size _)).trans HA1.out.2 (fun _ _ e => e)) HA2.out.1 HA2.out.2⟩
     ·intro en w1 cnt1 hwx hat hrg1 hlt hg1 hs1 hen
      obtain ⟨_, hout0, _, hnx0, hsz0⟩ := HL.out
      have hout1 := hout0.kept hg1 (by simp)
      have hn1 : Maps.size D - cnt < 1000000 := by omega
      have HE1 := Lib.hid (And.intro hwx (And.intro hat (And.intro hrg1 (And.intro hg1 hs1))))
      clear hat hrg1 hg1 hout0 hnx0
      go_wp2_with (first
       | (at_mapUpdate; refine wpList_mapUpdate_m _ rfl _ _ _ rfl W1.heap.size _ _ rfl hout1 hn1 en.key en.val rfl rfl HE1.out.1 ?_; intro w2 hout2 hg2; have HU := Lib.hid (And.intro hout2 hg2); clear hout2 hg2))
      obtain ⟨hout2, hg2⟩ := HU.out
      obtain ⟨_, hat, hrg1, hg1, hs1'⟩ := HE1.out
      obtain ⟨hrg0, hout0, hA, hnx, hsz⟩ := HL.out
      have hrg2 : RangesM w2 base m (W1.heap.size + 1) nn D (fun z => left z && !z.sameKey (.int .i64 en.key)) cnt1 :=
       hrg1.block (hg2.block _ hrg1.lt (by simp)) fun b hb hlt => hg2.block b hlt (by have := HMLT.out b hb; simp; omega)
      go_roundw
      case rel =>
       refine ⟨_, _, _, _, _, _, _, _, _, _, ?_, rfl⟩
       exact ⟨_, cnt1, _, hrg2, by omega, hout2.mono (by omega), Maps.agree_step hA hout0.isMap (show WideAt.IsKeyLit (.int .i64 en.key) from trivial) hat,
        (hnx.grown hg1 hnx.size (fun j hj => by cases hj; exact Nat.le_succ _)).grown hg2 (by have := hnx.size; omega) (fun j hj => by cases hj; exact Nat.le_refl _), by have := hg2.size; omega⟩
      case measure => rw [hrg2.left_eq, hrg0.left_eq]; exact hlt
  | succ g =>
   have hi : (i : Int) < (n : Int) := by omega
   have hin : i < n := by omega
   have x0 := (cell_block (hf22.fr.block gA HAC.out.2.1 (by have := HAC.out.1; omega)) i).trans (HAC.out.2.2 i hin)
   have hcp : CopyIs wr (xa.getD i .nilIface) ((rwAt rows i).map valI) := (HROWS.out i hin).fr hf22.fr (fun k cs h e => by subst e; have h9 : w.heap[k]? = _ := HT.out; rw [h9] at h; cases h)
   obtain ⟨r, hr1, hr2, hr3⟩ := hcp.ne hf22.blk
   rw [hr1] at x0
   have hlen : ((rwAt rows i).map valI).length ≤ 2147483647 := by rw [List.length_map]; exact (HOK.out i hin).1
   have h1c : ∀ v ∈ (rwAt rows i).map valI, v.oneCell' = true := fun v hv => by obtain ⟨c, _, rfl⟩ := List.mem_map.1 hv; exact valI_one c
   have HVI : Hid ((rwAt rows i).map valI = (rwAt rows i).map valI) := rfl
   generalize hvals : (rwAt rows i).map valI = vals at x0 hr3 hlen h1c
   have HVALS := Lib.hid hvals
   have H1C := Lib.hid h1c
   have hb16 : (16 : Nat) * vals.length ≤ 281474976710656 := by omega
   have HSRCB := Lib.hid (And.intro hr3 hr2)
   have hbw : base ≤ wr.heap.size := Nat.le_trans hbs hf22.fr.size
   clear hf22 pcf hcp hr1 h1c HVI hvals
   go_upto_region 6 with (first
    | (at_make; refine wpList_make_full _ rfl _ _ 74 rfl base 20 i20 .nilIface 1 Tryz.underlying74 HI20.out HY0.out HY1.out .i64 .i64 _ _ vals.length rfl rfl rfl rfl (by rw [HY2.out]; exact hb16) (by unfold maxLen; omega) hbw ?_; intro w3 ho hg; obtain ⟨ys, hys⟩ : ∃ ys, (madeCells Value.nilIface.cells (vals.length * 1)).toList = ys := ⟨_, rfl⟩; rw [hys] at ho; have HM3 := Lib.hid (And.intro ho hg); clear ho hg hys))
   have HSRC : Hid (0 < vals.length → ∃ ad, some (⟨r, 0, none⟩ : Addr) = some ad ∧ ∀ j v, vals[j]? = some v → w3.cell? (ad.add j) = some v) := fun _ => ⟨_, rfl, fun j v hj => by
    have h3 : w3.heap[r]? = some (.cells vals.toArray 20 (0, 0)) := (HM3.out.2.block r (Array.getElem?_eq_some_iff.1 HSRCB.out.1).1 (by simp)).trans HSRCB.out.1
    rw [Go.WideShapes.add_plain, Nat.zero_add, cell_of_row w3 r j _ _ _ h3]
    simpa using hj⟩
   have HROW3 := Lib.hid (row_whole HM3.out.1)
   have hyl : ys.length = vals.length := by have := HM3.out.1.1; omega
   have HB3 : Hid (Below wr.heap.size wr w3) := (Below.refl _ _).grown HM3.out.2 (Nat.le_refl _) (fun k e => by cases e)
   go_upto_region 7 with (refine wpList_copy_splice rfl _ _ 74 74 rfl 20 Tryz.underlying74 (by kernel_rfl) _ _ _ _ _ _ rfl rfl wr.heap.size 0 ys 20 HROW3.out vals (by simp) (fun h0 => ⟨rfl, HSRC.out h0⟩) (by omega) H1C.out wr.heap.size wr HB3.out (Nat.le_refl _) ?_; intro w4 hc4 hb4; have HC4 := Lib.hid (And.intro hc4 hb4); clear hc4 hb4)
   have HR4 := Lib.hid (HR.out.later HC4.out.2)
   have HCP4 : Hid (CopyIs w4 (.slice (some ⟨wr.heap.size, 0, none⟩) vals.length vals.length) ((rwAt rows i).map valI)) := by
    show CopyIs _ _ _
    rw [HVALS.out]
    exact ⟨_, rfl, by have := HC4.out.1.out; rw [splice_all hyl] at this; exact this⟩
   obtain ⟨pd14, pd23, pd24, pd35, pd38, pd27, pd30, _⟩ := HR4.out.tab.cells
   obtain ⟨z0, z1⟩ := HR4.out.at_blk i hin
   go_wp2_with fail
   go_roundg g
   case measure => omega
   case rel => exact ⟨i + 1, _, by go_num, by omega, HR4.out.step hin htl HCP4.out⟩

end
end Go.Proofs.YtgolhmiocjpohaaGreatDoor
