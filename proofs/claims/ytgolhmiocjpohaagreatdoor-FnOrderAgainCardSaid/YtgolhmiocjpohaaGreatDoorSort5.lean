/- sort.choosePivot_func (112), for ranges of more than twelve. -/
import Derived.Test.YtgolhmiocjpohaaGreatDoorSort4
set_option linter.unusedVariables false
set_option linter.unusedSimpArgs false
namespace Go.Proofs.YtgolhmiocjpohaaGreatDoor
open Go.RowKit Go.Sort

/-- A hint's number. -/
def hintN : Hint → Nat
  | .unknown => 0
  | .increasing => 1
  | .decreasing => 2

def hintS (s : Nat) : Hint := if s = 0 then .increasing else if s = 12 then .decreasing else .unknown

/-- The world in which choosePivot calls: the box, and the counter. -/
abbrev pivW (gl : Nat) (lb : Array Value) (sf : Nat) (sb : Array Value) (w : World) : World := (w.alloc (boxO gl lb sf sb)).alloc (.cells #[.int .i64 0] 3)

set_option maxHeartbeats 1600000 in
set_option maxRecDepth 100000 in
theorem choose_big {gl : Nat} {lb : Array Value} {sf : Nat} {sb : Array Value} (w : World) (a b : Nat) (ri s1 rj s2 rk s3 p s4 : Nat) (hab : a + 50 ≤ b) (hb : b ≤ 2147483647) (hs4 : s4 ≤ 100)
    (H1 : ∀ x : Int, x = ((a + (b - a) / 4 * 1 : Nat) : Int) → Calls Tryz.prog 138 #[.agg #[.func (.func gl) #[] lb, .func (.func sf) #[] sb], .int .i64 x, .pointer (some ⟨w.heap.size + 1, 0, none⟩)] (pivW gl lb sf sb w) (NatCtr (w.heap.size + 1) (ri, s1) (pivW gl lb sf sb w)))
    (H2 : ∀ (x : Int) w', x = ((a + (b - a) / 4 * 2 : Nat) : Int) → Ctr (w.heap.size + 1) s1 (pivW gl lb sf sb w) w' → Calls Tryz.prog 138 #[.agg #[.func (.func gl) #[] lb, .func (.func sf) #[] sb], .int .i64 x, .pointer (some ⟨w.heap.size + 1, 0, none⟩)] w' (NatCtr (w.heap.size + 1) (rj, s2) w'))
    (H3 : ∀ (x : Int) w', x = ((a + (b - a) / 4 * 3 : Nat) : Int) → Ctr (w.heap.size + 1) s2 (pivW gl lb sf sb w) w' → Calls Tryz.prog 138 #[.agg #[.func (.func gl) #[] lb, .func (.func sf) #[] sb], .int .i64 x, .pointer (some ⟨w.heap.size + 1, 0, none⟩)] w' (NatCtr (w.heap.size + 1) (rk, s3) w'))
    (H4 : ∀ w', Ctr (w.heap.size + 1) s3 (pivW gl lb sf sb w) w' → Calls Tryz.prog 139 #[.agg #[.func (.func gl) #[] lb, .func (.func sf) #[] sb], .int .i64 ri, .int .i64 rj, .int .i64 rk, .pointer (some ⟨w.heap.size + 1, 0, none⟩)] w' (NatCtr (w.heap.size + 1) (p, s4) w')) :
    Calls Tryz.prog 112 #[.agg #[.func (.func gl) #[] lb, .func (.func sf) #[] sb], .int .i64 a, .int .i64 b] w fun e w' => e = .returned (.tuple #[.int .i64 p, .int .i64 (hintN (hintS s4) : Nat)]) ∧ Ctr (w.heap.size + 1) s4 (pivW gl lb sf sb w) w' := by
  have K1 := Lib.hid H1
  have K2 := Lib.hid H2
  have K3 := Lib.hid H3
  have K4 := Lib.hid H4
  clear H1 H2 H3 H4
  have c0 : Hid ((pivW gl lb sf sb w).cell? ⟨w.heap.size, 0, none⟩ = some (.func (.func gl) #[] lb)) := by show _ = _; rw [World.cell?_alloc_past _ _ _ (by simp)]; simp [boxO]
  have c1 : Hid ((pivW gl lb sf sb w).cell? ⟨w.heap.size, 1, none⟩ = some (.func (.func sf) #[] sb)) := by show _ = _; rw [World.cell?_alloc_past _ _ _ (by simp)]; simp [boxO]
  have hsz : Hid (w.heap.size < (pivW gl lb sf sb w).heap.size) := by show _ < _; simp; omega
  have hne : Hid (w.heap.size ≠ w.heap.size + 1) := by show _ ≠ _; omega
  have d1 : Hid ((b : Int) - a = ((b - a : Nat) : Int)) := by show _ = _; omega
  go_enter Tryz.func112, Tryz.ntmps112
  go_wp2_with (first
    | (go_at_call 138; (with_reducible refine (K1.out _ (by omega)).mono ?_); rintro e w1 ⟨rfl, hk1⟩; have e0 := (hk1.cellOf (b := w.heap.size) (o := 0) hsz.out hne.out).trans c0.out; have e1 := (hk1.cellOf (b := w.heap.size) (o := 1) hsz.out hne.out).trans c1.out; have HC1 := Lib.hid hk1; clear hk1)
    | (go_at_call 138; (with_reducible refine (K2.out _ _ (by omega) HC1.out).mono ?_); rintro e w2 ⟨rfl, hk1⟩; have f0 := ((HC1.out.trans hk1).cellOf (b := w.heap.size) (o := 0) hsz.out hne.out).trans c0.out; have f1 := ((HC1.out.trans hk1).cellOf (b := w.heap.size) (o := 1) hsz.out hne.out).trans c1.out; have HC2 := Lib.hid (HC1.out.trans hk1); clear hk1)
    | (go_at_call 138; (with_reducible refine (K3.out _ _ (by omega) HC2.out).mono ?_); rintro e w3 ⟨rfl, hk1⟩; have g0 := ((HC2.out.trans hk1).cellOf (b := w.heap.size) (o := 0) hsz.out hne.out).trans c0.out; have g1 := ((HC2.out.trans hk1).cellOf (b := w.heap.size) (o := 1) hsz.out hne.out).trans c1.out; have HC3 := Lib.hid (HC2.out.trans hk1); clear hk1)
    | (go_at_call 139; (with_reducible refine (K4.out _ HC3.out).mono ?_); rintro e w4 ⟨rfl, hk1⟩; have h0 := hk1.at; have HC4 := Lib.hid (HC3.out.trans hk1); clear hk1))
  all_goals
    clear K1 K2 K3 K4
    go_ret2
    refine ⟨?_, HC4.out⟩
    clear h0
    simp only [beq_iff_eq, beq_eq_false_iff_ne, ne_eq] at *
    first
      | (have : s4 = 0 := by omega
         simp [hintS, hintN, this]; done)
      | (have : s4 = 12 := by omega
         simp [hintS, hintN, this]; done)
      | (have h1 : ¬ s4 = 0 := by omega
         have h2 : ¬ s4 = 12 := by omega
         simp [hintS, hintN, h1, h2]; done)

set_option maxHeartbeats 1600000 in
set_option maxRecDepth 100000 in
theorem choose_small {gl : Nat} {lb : Array Value} {sf : Nat} {sb : Array Value} (w : World) (a b : Nat) (p s4 : Nat) (hab : a + 8 ≤ b) (h50 : b < a + 50) (hb : b ≤ 2147483647) (hs4 : s4 ≤ 100)
    (H4 : ∀ x y z : Int, x = ((a + (b - a) / 4 * 1 : Nat) : Int) → y = ((a + (b - a) / 4 * 2 : Nat) : Int) → z = ((a + (b - a) / 4 * 3 : Nat) : Int) → Calls Tryz.prog 139 #[.agg #[.func (.func gl) #[] lb, .func (.func sf) #[] sb], .int .i64 x, .int .i64 y, .int .i64 z, .pointer (some ⟨w.heap.size + 1, 0, none⟩)] (pivW gl lb sf sb w) (NatCtr (w.heap.size + 1) (p, s4) (pivW gl lb sf sb w))) :
    Calls Tryz.prog 112 #[.agg #[.func (.func gl) #[] lb, .func (.func sf) #[] sb], .int .i64 a, .int .i64 b] w fun e w' => e = .returned (.tuple #[.int .i64 p, .int .i64 (hintN (hintS s4) : Nat)]) ∧ Ctr (w.heap.size + 1) s4 (pivW gl lb sf sb w) w' := by
  have K4 := Lib.hid H4
  clear H4
  have d1 : Hid ((b : Int) - a = ((b - a : Nat) : Int)) := by show _ = _; omega
  go_enter Tryz.func112, Tryz.ntmps112
  go_wp2_with (go_at_call 139; (with_reducible refine (K4.out _ _ _ (by omega) (by omega) (by omega)).mono ?_); rintro e w4 ⟨rfl, hk1⟩; have h0 := hk1.at; have HC4 := Lib.hid hk1; clear hk1)
  all_goals
    clear K4
    go_ret2
    refine ⟨?_, HC4.out⟩
    clear h0
    simp only [beq_iff_eq, beq_eq_false_iff_ne, ne_eq] at *
    first
      | (have : s4 = 0 := by omega
         simp [hintS, hintN, this]; done)
      | (have : s4 = 12 := by omega
         simp [hintS, hintN, this]; done)
      | (have h1 : ¬ s4 = 0 := by omega
         have h2 : ¬ s4 = 12 := by omega
         simp [hintS, hintN, h1, h2]; done)

/-- A post of choosePivot. -/
def PivotIs (g n m : Nat) (d : Array Nat) (r : Nat × Hint) (w : World) (e : Ending) (w' : World) : Prop := e = .returned (.tuple #[.int .i64 (r.1 : Int), .int .i64 (hintN r.2 : Nat)]) ∧ Moved g n m d w w'

theorem medianAdjacent_in (lt : Nat → Nat → Bool) (d : Array Nat) (a s n : Nat) (ha : 1 ≤ a) (hb : a + 1 < n) : (medianAdjacent lt d a s).1 < n ∧ s ≤ (medianAdjacent lt d a s).2 ∧ (medianAdjacent lt d a s).2 ≤ s + 3 :=
  median_in lt d (a - 1) a (a + 1) s n (by omega) (by omega) hb

theorem sort_choose {w0 : World} {g n m : Nat} {lt : Nat → Nat → Bool} {gl : Nat} {lb : Array Value} {sf : Nat} {sb : Array Value} (E : SortEnv w0 g n m lt gl lb sf sb) (d : Array Nat) (w : World) (hw : Moved g n m d w0 w)
    (a b : Nat) (hab : a + 12 < b) (hb : b ≤ n) :
    Calls Tryz.prog 112 #[.agg #[.func (.func gl) #[] lb, .func (.func sf) #[] sb], .int .i64 a, .int .i64 b] w (PivotIs g n m d (choosePivot lt d a b) w) := by
  have hn := E.hn
  have hm : Moved g n m d w0 (pivW gl lb sf sb w) := (hw.alloc _).alloc _
  have hms : Moved g n m d w (pivW gl lb sf sb w) := (hw.self.alloc _).alloc _
  have hk : Ctr (w.heap.size + 1) 0 (pivW gl lb sf sb w) (pivW gl lb sf sb w) := by
    refine .start ?_
    have e : (w.alloc (boxO gl lb sf sb)).heap.size = w.heap.size + 1 := by simp
    rw [← e]
    exact heap_alloc_new _ _
  have hcb : w0.heap.size ≤ w.heap.size + 1 := by have := hw.size; omega
  have fin : ∀ p s4 e w', e = .returned (.tuple #[.int .i64 (p : Nat), .int .i64 (hintN (hintS s4) : Nat)]) ∧ Ctr (w.heap.size + 1) s4 (pivW gl lb sf sb w) w' → choosePivot lt d a b = (p, hintS s4) → PivotIs g n m d (choosePivot lt d a b) w e w' := by
    rintro p s4 e w' ⟨he, hc⟩ h
    rw [h]
    exact ⟨he, hms.ctr hc (by omega) hw.lt⟩
  have l8 : b - a ≥ 8 := by omega
  by_cases h50 : a + 50 ≤ b
  · have l50 : b - a ≥ 50 := by omega
    obtain ⟨i1, i2, i3⟩ := medianAdjacent_in lt d (a + (b - a) / 4 * 1) 0 n (by omega) (by omega)
    have c1 := sort_medianAdjacent E d _ hm (w.heap.size + 1) 0 hcb hk (by omega) (a + (b - a) / 4 * 1) (by omega) (by omega)
    rcases e1 : medianAdjacent lt d (a + (b - a) / 4 * 1) 0 with ⟨ri, s1⟩
    rw [e1] at i1 i2 i3 c1
    simp only at i1 i2 i3
    obtain ⟨j1, j2, j3⟩ := medianAdjacent_in lt d (a + (b - a) / 4 * 2) s1 n (by omega) (by omega)
    have c2 := fun w' (k : Ctr (w.heap.size + 1) s1 (pivW gl lb sf sb w) w') => sort_medianAdjacent E d w' (hm.ctr k hcb E.hg) (w.heap.size + 1) s1 hcb k.self (by omega) (a + (b - a) / 4 * 2) (by omega) (by omega)
    rcases e2 : medianAdjacent lt d (a + (b - a) / 4 * 2) s1 with ⟨rj, s2⟩
    rw [e2] at j1 j2 j3 c2
    simp only at j1 j2 j3
    obtain ⟨k1, k2, k3⟩ := medianAdjacent_in lt d (a + (b - a) / 4 * 3) s2 n (by omega) (by omega)
    have c3 := fun w' (k : Ctr (w.heap.size + 1) s2 (pivW gl lb sf sb w) w') => sort_medianAdjacent E d w' (hm.ctr k hcb E.hg) (w.heap.size + 1) s2 hcb k.self (by omega) (a + (b - a) / 4 * 3) (by omega) (by omega)
    rcases e3 : medianAdjacent lt d (a + (b - a) / 4 * 3) s2 with ⟨rk, s3⟩
    rw [e3] at k1 k2 k3 c3
    simp only at k1 k2 k3
    obtain ⟨m1, m2, m3⟩ := median_in lt d ri rj rk s3 n i1 j1 k1
    have c4 := fun w' (k : Ctr (w.heap.size + 1) s3 (pivW gl lb sf sb w) w') => sort_median E d w' (hm.ctr k hcb E.hg) (w.heap.size + 1) s3 hcb k.self (by omega) ri rj rk _ _ _ rfl rfl rfl i1 j1 k1
    rcases e4 : median lt d ri rj rk s3 with ⟨p, s4⟩
    rw [e4] at m1 m2 m3 c4
    simp only at m1 m2 m3
    refine (choose_big w a b ri s1 rj s2 rk s3 p s4 h50 (by omega) (by omega) (fun x hx => by subst hx; exact c1) (fun x w' hx k => by subst hx; exact c2 w' k) (fun x w' hx k => by subst hx; exact c3 w' k) c4).mono
      fun e w' h => fin p s4 e w' h ?_
    unfold choosePivot
    simp only [l8, l50, if_true, e1, e2, e3, e4]
    rfl
  · have l50 : ¬ (b - a ≥ 50) := by omega
    obtain ⟨m1, m2, m3⟩ := median_in lt d (a + (b - a) / 4 * 1) (a + (b - a) / 4 * 2) (a + (b - a) / 4 * 3) 0 n (by omega) (by omega) (by omega)
    have c4 := fun x y z hx hy hz => sort_median E d _ hm (w.heap.size + 1) 0 hcb hk (by omega) (a + (b - a) / 4 * 1) (a + (b - a) / 4 * 2) (a + (b - a) / 4 * 3) x y z hx hy hz (by omega) (by omega) (by omega)
    rcases e4 : median lt d (a + (b - a) / 4 * 1) (a + (b - a) / 4 * 2) (a + (b - a) / 4 * 3) 0 with ⟨p, s4⟩
    rw [e4] at m1 m2 m3 c4
    simp only at m1 m2 m3
    refine (choose_small w a b p s4 (by omega) (by omega) (by omega) (by omega) c4).mono fun e w' h => fin p s4 e w' h ?_
    unfold choosePivot
    simp only [l8, l50, if_true, if_false, e4]
    rfl

end Go.Proofs.YtgolhmiocjpohaaGreatDoor
