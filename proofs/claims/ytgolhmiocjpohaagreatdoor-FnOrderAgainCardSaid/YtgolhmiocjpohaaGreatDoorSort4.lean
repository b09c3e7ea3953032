/- sort.order2_func (167), sort.median_func (139), sort.medianAdjacent_func (138). -/
import Derived.Test.YtgolhmiocjpohaaGreatDoorSort0
set_option linter.unusedVariables false
set_option linter.unusedSimpArgs false
namespace Go.Proofs.YtgolhmiocjpohaaGreatDoor
open Go.RowKit Go.Sort

/-- A world behind another one: the counter's block holds s, the older blocks are as they were. -/
structure Ctr (cb s : Nat) (w w' : World) : Prop where
  cell : w'.heap[cb]? = some (.cells #[.int .i64 (s : Int)] 3 (0, 0))
  os : w'.os = w.os
  tape : w'.tape = w.tape
  output : w'.output = w.output
  size : w.heap.size ≤ w'.heap.size
  block : ∀ k, k < w.heap.size → k ≠ cb → w'.heap[k]? = w.heap[k]?

section
variable {g n m cb s s' : Nat} {d : Array Nat} {w0 w w' w'' : World}
theorem Ctr.lt (h : Ctr cb s w w') : cb < w'.heap.size := (Array.getElem?_eq_some_iff.1 h.cell).1
theorem Ctr.start (h : w.heap[cb]? = some (.cells #[.int .i64 (s : Int)] 3 (0, 0))) : Ctr cb s w w := ⟨h, rfl, rfl, rfl, Nat.le_refl _, fun _ _ _ => rfl⟩
theorem Ctr.self (h : Ctr cb s w w') : Ctr cb s w' w' := .start h.cell
theorem Ctr.trans (h : Ctr cb s w w') (k : Ctr cb s' w' w'') : Ctr cb s' w w'' :=
  ⟨k.cell, k.os.trans h.os, k.tape.trans h.tape, k.output.trans h.output, Nat.le_trans h.size k.size, fun i hi hg => (k.block i (Nat.lt_of_lt_of_le hi h.size) hg).trans (h.block i hi hg)⟩
theorem Ctr.below (h : Ctr cb s w w') (b : Below w'.heap.size w' w'') : Ctr cb s w w'' :=
  ⟨(b.block cb h.lt).trans h.cell, b.os.trans h.os, b.tape.trans h.tape, b.output.trans h.output, Nat.le_trans h.size b.size,
    fun k hk hg => (b.block k (Nat.lt_of_lt_of_le hk h.size)).trans (h.block k hk hg)⟩
theorem Ctr.alloc (h : Ctr cb s w w') (o : Obj) : Ctr cb s w (w'.alloc o) := h.below ((Below.refl _ _).alloc (Nat.le_refl _) o)
theorem Ctr.cellOf (h : Ctr cb s w w') {b o : Nat} (hb : b < w.heap.size) (hg : b ≠ cb) : w'.cell? ⟨b, o, none⟩ = w.cell? ⟨b, o, none⟩ := by
  unfold World.cell?
  simp only [h.block b hb hg]
theorem Ctr.at (h : Ctr cb s w w') : w'.cell? ⟨cb, 0, none⟩ = some (.int .i64 (s : Int)) := by
  unfold World.cell?
  simp [h.cell]
theorem Ctr.frozen (h : Ctr cb s w w') (i : Nat) : w'.frozen? ⟨cb, i, none⟩ = false := by
  unfold World.frozen?
  simp [h.cell]
theorem Ctr.set (h : Ctr cb s w w') (x : Nat) (y : Int) (e : y = (x : Int)) : Ctr cb x w (w'.setCell ⟨cb, 0, none⟩ (.int .i64 y)) := by
  subst e
  exact ⟨by rw [heap_setCell_same h.cell]; rfl, h.os, h.tape, h.output, by simpa [World.setCell] using h.size, fun k hk hg => by rw [Below.heap_setCell _ _ _ _ hg]; exact h.block k hk hg⟩
/-- The sort's own relation goes on, where the counter is new to the sort. -/
theorem Moved.ctr (h : Moved g n m d w0 w) (k : Ctr cb s w w') (hc : w0.heap.size ≤ cb) (hg : g < w0.heap.size) : Moved g n m d w0 w' :=
  ⟨(k.block g h.lt (by omega)).trans h.row, h.len, h.ok, k.os.trans h.os, k.tape.trans h.tape, k.output.trans h.output, Nat.le_trans h.size k.size,
    fun i hi hg' => (k.block i (Nat.lt_of_lt_of_le hi h.size) (by omega)).trans (h.block i hi hg')⟩
end

/-- A post of order2. -/
def PairCtr (cb : Nat) (r : Nat × Nat × Nat) (w : World) (e : Ending) (w' : World) : Prop := e = .returned (.tuple #[.int .i64 (r.1 : Int), .int .i64 (r.2.1 : Int)]) ∧ Ctr cb r.2.2 w w'
/-- A post of median. -/
def NatCtr (cb : Nat) (r : Nat × Nat) (w : World) (e : Ending) (w' : World) : Prop := e = .returned (.int .i64 (r.1 : Int)) ∧ Ctr cb r.2 w w'

set_option maxHeartbeats 3200000 in
set_option maxRecDepth 100000 in
theorem sort_order2 {w0 : World} {g n m : Nat} {lt : Nat → Nat → Bool} {gl : Nat} {lb : Array Value} {sf : Nat} {sb : Array Value} (E : SortEnv w0 g n m lt gl lb sf sb) (d : Array Nat) (w : World) (hw : Moved g n m d w0 w)
    (cb s : Nat) (hcb : w0.heap.size ≤ cb) (hC : Ctr cb s w w) (hs : s ≤ 100) (a b : Nat) (ha : a < n) (hb : b < n) :
    Calls Tryz.prog 167 #[.agg #[.func (.func gl) #[] lb, .func (.func sf) #[] sb], .int .i64 a, .int .i64 b, .pointer (some ⟨cb, 0, none⟩)] w (PairCtr cb (order2 lt d a b s) w) := by
  have HE := Lib.hid E
  have eg := E.enter
  have hn := E.hn
  have HW0 := Lib.hid hw
  have HC := Lib.hid (hC.alloc (.cells #[.func (.func gl) #[] lb, .func (.func sf) #[] sb] 171))
  clear E hw hC
  have HG := Lib.hid HE.out.hg
  cases hlv : lt d[b]! d[a]! with
  | true =>
    go_enter Tryz.func167, Tryz.ntmps167
    go_wp2_with (go_at_fn gl; refine (HE.out.lessAt (HW0.out.alloc _) b a _ _ (by omega) (by omega) (by omega) (by omega)).mono ?_; rw [hlv]; rintro e w' ⟨rfl, hbl⟩; have HC1 := Lib.hid (HC.out.below hbl); have hc := HC1.out.at; have hf := HC1.out.frozen 0; clear hbl)
    go_ret2
    refine ⟨by simp [order2, hlv], ?_⟩
    have e : (order2 lt d a b s).2.2 = s + 1 := by simp [order2, hlv]
    rw [e]
    exact HC1.out.set (s + 1) _ (by omega)
  | false =>
    go_enter Tryz.func167, Tryz.ntmps167
    go_wp2_with (go_at_fn gl; refine (HE.out.lessAt (HW0.out.alloc _) b a _ _ (by omega) (by omega) (by omega) (by omega)).mono ?_; rw [hlv]; rintro e w' ⟨rfl, hbl⟩; have HC1 := Lib.hid (HC.out.below hbl); clear hbl)
    go_ret2
    refine ⟨by simp [order2, hlv], ?_⟩
    have e : (order2 lt d a b s).2.2 = s := by simp [order2, hlv]
    rw [e]
    exact HC1.out

theorem order2_in (lt : Nat → Nat → Bool) (d : Array Nat) (a b s n : Nat) (ha : a < n) (hb : b < n) : (order2 lt d a b s).1 < n ∧ (order2 lt d a b s).2.1 < n ∧ s ≤ (order2 lt d a b s).2.2 ∧ (order2 lt d a b s).2.2 ≤ s + 1 := by
  unfold order2; split <;> simp_all

theorem sort_order2_at {w0 : World} {g n m : Nat} {lt : Nat → Nat → Bool} {gl : Nat} {lb : Array Value} {sf : Nat} {sb : Array Value} (E : SortEnv w0 g n m lt gl lb sf sb) (d : Array Nat) (w : World) (hw : Moved g n m d w0 w)
    (cb s : Nat) (hcb : w0.heap.size ≤ cb) (hC : Ctr cb s w w) (hs : s ≤ 100) (a b : Nat) (x y : Int) (hx : x = (a : Int)) (hy : y = (b : Int)) (ha : a < n) (hb : b < n) :
    Calls Tryz.prog 167 #[.agg #[.func (.func gl) #[] lb, .func (.func sf) #[] sb], .int .i64 x, .int .i64 y, .pointer (some ⟨cb, 0, none⟩)] w (PairCtr cb (order2 lt d a b s) w) := by
  subst hx hy; exact sort_order2 E d w hw cb s hcb hC hs a b ha hb

/-- The box of a function of the family. -/
abbrev boxO (gl : Nat) (lb : Array Value) (sf : Nat) (sb : Array Value) : Obj := .cells #[.func (.func gl) #[] lb, .func (.func sf) #[] sb] 171

set_option maxHeartbeats 1600000 in
set_option maxRecDepth 100000 in
theorem median_of {gl : Nat} {lb : Array Value} {sf : Nat} {sb : Array Value} (w : World) (cb a b c p1 q1 s1 p2 q2 s2 p3 q3 s3 : Nat) (hne : w.heap.size ≠ cb)
    (H1 : Calls Tryz.prog 167 #[.agg #[.func (.func gl) #[] lb, .func (.func sf) #[] sb], .int .i64 a, .int .i64 b, .pointer (some ⟨cb, 0, none⟩)] (w.alloc (boxO gl lb sf sb)) (PairCtr cb (p1, q1, s1) (w.alloc (boxO gl lb sf sb))))
    (H2 : ∀ w', Ctr cb s1 (w.alloc (boxO gl lb sf sb)) w' → Calls Tryz.prog 167 #[.agg #[.func (.func gl) #[] lb, .func (.func sf) #[] sb], .int .i64 q1, .int .i64 c, .pointer (some ⟨cb, 0, none⟩)] w' (PairCtr cb (p2, q2, s2) w'))
    (H3 : ∀ w', Ctr cb s2 (w.alloc (boxO gl lb sf sb)) w' → Calls Tryz.prog 167 #[.agg #[.func (.func gl) #[] lb, .func (.func sf) #[] sb], .int .i64 p1, .int .i64 p2, .pointer (some ⟨cb, 0, none⟩)] w' (PairCtr cb (p3, q3, s3) w')) :
    Calls Tryz.prog 139 #[.agg #[.func (.func gl) #[] lb, .func (.func sf) #[] sb], .int .i64 a, .int .i64 b, .int .i64 c, .pointer (some ⟨cb, 0, none⟩)] w fun e w' => e = .returned (.int .i64 q3) ∧ Ctr cb s3 (w.alloc (boxO gl lb sf sb)) w' := by
  have K1 := Lib.hid H1
  have K2 := Lib.hid H2
  have K3 := Lib.hid H3
  have HNE := Lib.hid hne
  clear H1 H2 H3 hne
  have c0 : Hid ((w.alloc (boxO gl lb sf sb)).cell? ⟨w.heap.size, 0, none⟩ = some (.func (.func gl) #[] lb)) := by show _ = _; simp [boxO]
  have c1 : Hid ((w.alloc (boxO gl lb sf sb)).cell? ⟨w.heap.size, 1, none⟩ = some (.func (.func sf) #[] sb)) := by show _ = _; simp [boxO]
  have hsz : Hid (w.heap.size < (w.alloc (boxO gl lb sf sb)).heap.size) := by show _ < _; simp
  go_enter Tryz.func139, Tryz.ntmps139
  go_wp2_with (first
    | (go_at_call 167; (with_reducible refine K1.out.mono ?_); rintro e w1 ⟨rfl, hk1⟩; have e0 := (hk1.cellOf (b := w.heap.size) (o := 0) hsz.out HNE.out).trans c0.out; have e1 := (hk1.cellOf (b := w.heap.size) (o := 1) hsz.out HNE.out).trans c1.out; have HC1 := Lib.hid hk1; clear hk1)
    | (go_at_call 167; (with_reducible refine (K2.out _ HC1.out).mono ?_); rintro e w2 ⟨rfl, hk1⟩; have f0 := ((HC1.out.trans hk1).cellOf (b := w.heap.size) (o := 0) hsz.out HNE.out).trans c0.out; have f1 := ((HC1.out.trans hk1).cellOf (b := w.heap.size) (o := 1) hsz.out HNE.out).trans c1.out; have HC2 := Lib.hid (HC1.out.trans hk1); clear hk1)
    | (go_at_call 167; (with_reducible refine (K3.out _ HC2.out).mono ?_); rintro e w3 ⟨rfl, hk1⟩; have HC3 := Lib.hid (HC2.out.trans hk1); clear hk1))
  go_ret
  exact ⟨rfl, HC3.out⟩

theorem sort_median {w0 : World} {g n m : Nat} {lt : Nat → Nat → Bool} {gl : Nat} {lb : Array Value} {sf : Nat} {sb : Array Value} (E : SortEnv w0 g n m lt gl lb sf sb) (d : Array Nat) (w : World) (hw : Moved g n m d w0 w)
    (cb s : Nat) (hcb : w0.heap.size ≤ cb) (hC : Ctr cb s w w) (hs : s ≤ 90) (a b c : Nat) (x y z : Int) (hx : x = (a : Int)) (hy : y = (b : Int)) (hz : z = (c : Int)) (ha : a < n) (hb : b < n) (hc : c < n) :
    Calls Tryz.prog 139 #[.agg #[.func (.func gl) #[] lb, .func (.func sf) #[] sb], .int .i64 x, .int .i64 y, .int .i64 z, .pointer (some ⟨cb, 0, none⟩)] w (NatCtr cb (median lt d a b c s) w) := by
  subst hx hy hz
  have hlt := hC.lt
  have hk := hC.alloc (boxO gl lb sf sb)
  have hm := hw.alloc (boxO gl lb sf sb)
  have key : ∀ p1 q1 s1 p2 q2 s2 p3 q3 s3, order2 lt d a b s = (p1, q1, s1) → order2 lt d q1 c s1 = (p2, q2, s2) → order2 lt d p1 p2 s2 = (p3, q3, s3) → median lt d a b c s = (q3, s3) := by
    intro p1 q1 s1 p2 q2 s2 p3 q3 s3 e1 e2 e3
    unfold median
    simp only [e1, e2, e3]
  obtain ⟨i1, i2, i3, i4⟩ := order2_in lt d a b s n ha hb
  have h1 := sort_order2 E d _ hm cb s hcb hk.self (by omega) a b ha hb
  rcases e1 : order2 lt d a b s with ⟨p1, q1, s1⟩
  rw [e1] at i1 i2 i3 i4 h1
  simp only at i1 i2 i3 i4
  obtain ⟨j1, j2, j3, j4⟩ := order2_in lt d q1 c s1 n i2 hc
  have h2 := fun w' (k : Ctr cb s1 (w.alloc (boxO gl lb sf sb)) w') => sort_order2 E d w' (hm.ctr k hcb E.hg) cb s1 hcb k.self (by omega) q1 c i2 hc
  rcases e2 : order2 lt d q1 c s1 with ⟨p2, q2, s2⟩
  rw [e2] at j1 j2 j3 j4 h2
  simp only at j1 j2 j3 j4
  have h3 := fun w' (k : Ctr cb s2 (w.alloc (boxO gl lb sf sb)) w') => sort_order2 E d w' (hm.ctr k hcb E.hg) cb s2 hcb k.self (by omega) p1 p2 i1 j1
  rcases e3 : order2 lt d p1 p2 s2 with ⟨p3, q3, s3⟩
  rw [e3] at h3
  rw [key _ _ _ _ _ _ _ _ _ e1 e2 e3]
  exact (median_of w cb a b c p1 q1 s1 p2 q2 s2 p3 q3 s3 (by omega) h1 h2 h3).mono fun e w' h => ⟨h.1, hk.trans h.2⟩

theorem median_in (lt : Nat → Nat → Bool) (d : Array Nat) (a b c s n : Nat) (ha : a < n) (hb : b < n) (hc : c < n) : (median lt d a b c s).1 < n ∧ s ≤ (median lt d a b c s).2 ∧ (median lt d a b c s).2 ≤ s + 3 := by
  obtain ⟨i1, i2, i3, i4⟩ := order2_in lt d a b s n ha hb
  obtain ⟨j1, j2, j3, j4⟩ := order2_in lt d (order2 lt d a b s).2.1 c (order2 lt d a b s).2.2 n i2 hc
  obtain ⟨k1, k2, k3, k4⟩ := order2_in lt d (order2 lt d a b s).1 (order2 lt d (order2 lt d a b s).2.1 c (order2 lt d a b s).2.2).1 (order2 lt d (order2 lt d a b s).2.1 c (order2 lt d a b s).2.2).2.2 n i1 j1
  unfold median
  refine ⟨k2, ?_, ?_⟩ <;> simp only <;> omega

set_option maxHeartbeats 1600000 in
set_option maxRecDepth 100000 in
theorem sort_medianAdjacent {w0 : World} {g n m : Nat} {lt : Nat → Nat → Bool} {gl : Nat} {lb : Array Value} {sf : Nat} {sb : Array Value} (E : SortEnv w0 g n m lt gl lb sf sb) (d : Array Nat) (w : World) (hw : Moved g n m d w0 w)
    (cb s : Nat) (hcb : w0.heap.size ≤ cb) (hC : Ctr cb s w w) (hs : s ≤ 90) (a : Nat) (ha : 1 ≤ a) (hb : a + 1 < n) :
    Calls Tryz.prog 138 #[.agg #[.func (.func gl) #[] lb, .func (.func sf) #[] sb], .int .i64 a, .pointer (some ⟨cb, 0, none⟩)] w (NatCtr cb (medianAdjacent lt d a s) w) := by
  have hk := hC.alloc (boxO gl lb sf sb)
  have hm := hw.alloc (boxO gl lb sf sb)
  have hn := E.hn
  have HM : ∀ x y z : Int, x = ((a - 1 : Nat) : Int) → y = (a : Int) → z = ((a + 1 : Nat) : Int) → Hid (Calls Tryz.prog 139 #[.agg #[.func (.func gl) #[] lb, .func (.func sf) #[] sb], .int .i64 x, .int .i64 y, .int .i64 z, .pointer (some ⟨cb, 0, none⟩)] (w.alloc (boxO gl lb sf sb)) (NatCtr cb (medianAdjacent lt d a s) (w.alloc (boxO gl lb sf sb)))) :=
    fun x y z hx hy hz => sort_median E d _ hm cb s hcb hk.self hs (a - 1) a (a + 1) x y z hx hy hz (by omega) (by omega) hb
  have HK := Lib.hid hk
  clear E hw hC hk hm
  go_enter Tryz.func138, Tryz.ntmps138
  go_wp2_with (go_at_call 139; (with_reducible refine (HM _ _ _ (by omega) (by omega) (by omega)).out.mono ?_); rintro e w1 ⟨rfl, hk1⟩; have HC1 := Lib.hid hk1; clear hk1)
  go_ret
  exact ⟨rfl, HK.out.trans HC1.out⟩

end Go.Proofs.YtgolhmiocjpohaaGreatDoor
