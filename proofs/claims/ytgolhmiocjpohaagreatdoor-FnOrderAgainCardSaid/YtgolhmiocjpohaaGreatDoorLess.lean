/- The package's comparison of two cells (table.less and what it calls) computes the plain function 'bef', if strings.ToLower and the light ParseFloat compute 'low' and 'num' on the texts at hand. No condition beyond those. -/
import Derived.Test.YtgolhmiocjpohaaGreatDoorBase
import Derived.Test.YtgolhmiocjpohaaGreatDoorPlain1
set_option linter.unusedVariables false
set_option linter.unusedSimpArgs false
namespace Go.Proofs.YtgolhmiocjpohaaGreatDoor
open Go.RowKit

/-- A rule as the package has it, as a value. -/
abbrev sbV (n m : Int) (f : Bool) : Value := .agg #[.string ⟨#[]⟩, .int .i64 n, .int .i64 m, .bool f, .nilFunc]

/-- A post: this pair is handed back; whatever was there is as it was. -/
def PairIs (p : Bool × Bool) (w : World) (e : Ending) (w' : World) : Prop := e = .returned (.tuple #[.bool p.1, .bool p.2]) ∧ Below w.heap.size w w'

/-- A post: this text is handed back. -/
def TextIs (s : ByteArray) (w : World) (e : Ending) (w' : World) : Prop := e = .returned (.string s) ∧ Below w.heap.size w w'

/-- A post: a number, or an error. -/
def NumIs (o : Option Nat) (w : World) (e : Ending) (w' : World) : Prop :=
  (match o with
   | some x => e = .returned (.tuple #[.float .f64 x, .nilIface])
   | none => ∃ x t v, e = .returned (.tuple #[.float .f64 x, .iface t v])) ∧ Below w.heap.size w w'

/-- What strings.ToLower computes on the texts of a domain. -/
def LowSaid (Dom : ByteArray → Prop) (low : ByteArray → ByteArray) : Prop := ∀ s w, Dom s → Calls Tryz.prog 40 #[.string s] w (TextIs (low s) w)

/-- What the light ParseFloat computes on the texts of a domain. -/
def LightSaid (Dom : ByteArray → Prop) (num : ByteArray → Option Nat) : Prop := ∀ s w, Dom s → Calls Tryz.prog 117 #[.string s, .int .i64 64] w (NumIs (num s) w)

set_option maxHeartbeats 400000 in
theorem lessNumericVal (x y : Nat) (n m : Int) (f : Bool) (w : World) :
    Calls Tryz.prog 118 #[.float .f64 x, .float .f64 y, sbV n m f] w (PairIs (befNums x y (fallsN m)) w) := by
  go_enter Tryz.func118, Tryz.ntmps118
  go_wp2
  all_goals
    go_ret2
    exact ⟨by simp [befNums, fEq, fLt, fGt, fallsN, *], (Below.refl _ _).alloc (Nat.le_refl _) _⟩

set_option maxHeartbeats 800000 in
theorem lessAlphabetic_plain (low : ByteArray → ByteArray) (a b : ByteArray) (n m : Int) (w : World) :
    Calls Tryz.prog 84 #[.string a, .string b, sbV n m false] w (PairIs (befTexts low a b (fallsT m) false) w) := by
  go_enter Tryz.func84, Tryz.ntmps84
  go_wp2
  all_goals
    go_ret2
    exact ⟨by simp [befTexts, sLt, sGt, fallsT, *], (Below.refl _ _).alloc (Nat.le_refl _) _⟩

set_option maxHeartbeats 800000 in
theorem lessAlphabetic_fold {Dom : ByteArray → Prop} {low : ByteArray → ByteArray} (hl : LowSaid Dom low) (a b : ByteArray) (ha : Dom a) (hb : Dom b) (n m : Int) (w : World) :
    Calls Tryz.prog 84 #[.string a, .string b, sbV n m true] w (PairIs (befTexts low a b (fallsT m) true) w) := by
  have HA := Lib.hid ha
  have HB := Lib.hid hb
  have HL := Lib.hid hl
  clear ha hb hl
  go_enter Tryz.func84, Tryz.ntmps84
  go_wp2_with fail
  refine (HL.out a _ HA.out).mono ?_
  rintro e w1 ⟨rfl, hb1⟩
  obtain ⟨hc1, hf1⟩ : (∀ o, w1.cell? ⟨w.heap.size, o, none⟩ = (w.alloc (.cells #[.string ⟨#[]⟩, .int .i64 n, .int .i64 m, .bool true, .nilFunc] 116)).cell? ⟨w.heap.size, o, none⟩) ∧ w.heap.size < w1.heap.size := ⟨fun o => hb1.cell (p := ⟨w.heap.size, o, none⟩) (by simp), by have := hb1.size; simp at this; omega⟩
  go_wp2_with fail
  refine (HL.out b _ HB.out).mono ?_
  rintro e w2 ⟨rfl, hb2⟩
  have hc2 : ∀ o, w2.cell? ⟨w.heap.size, o, none⟩ = w1.cell? ⟨w.heap.size, o, none⟩ := fun o => hb2.cell (p := ⟨w.heap.size, o, none⟩) hf1
  have HBB : Hid (Below w.heap.size w w2) := ((((Below.refl _ _).alloc (Nat.le_refl _) _).trans (hb1.mono (by simp))).trans (hb2.mono (by omega)))
  clear hb1 hb2
  go_wp2_with fail
  all_goals
    go_ret2
    refine ⟨?_, HBB.out⟩
    first | (exfalso; simp_all; done) | (simp [befTexts, sEq, sLt, sGt, fallsT, *]; done)

set_option maxHeartbeats 400000 in
theorem lessAlphabetic {Dom : ByteArray → Prop} {low : ByteArray → ByteArray} (hl : LowSaid Dom low) (a b : ByteArray) (ha : Dom a) (hb : Dom b) (n m : Int) (f : Bool) (w : World) :
    Calls Tryz.prog 84 #[.string a, .string b, sbV n m f] w (PairIs (befTexts low a b (fallsT m) f) w) := by
  cases f with
  | false => exact lessAlphabetic_plain low a b n m w
  | true => exact lessAlphabetic_fold hl a b ha hb n m w

/-- What stands in a block of the call's own, and the heap's size, behind a callee that leaves all as it was. -/
theorem after {W w1 : World} (hb : Below W.heap.size W w1) (k : Nat) (hk : k < W.heap.size) : (∀ o, w1.cell? ⟨k, o, none⟩ = W.cell? ⟨k, o, none⟩) ∧ k < w1.heap.size :=
  ⟨fun o => hb.cell (p := ⟨k, o, none⟩) hk, by have := hb.size; omega⟩

theorem NumIs.some {x : Nat} {w w' : World} {e : Ending} (h : NumIs (some x) w e w') : e = .returned (.tuple #[.float .f64 x, .nilIface]) ∧ Below w.heap.size w w' := h
theorem NumIs.none {w w' : World} {e : Ending} (h : NumIs none w e w') : ∃ x t v, e = .returned (.tuple #[.float .f64 x, .iface t v]) ∧ Below w.heap.size w w' := by
  obtain ⟨⟨x, t, v, h1⟩, h2⟩ := h
  exact ⟨x, t, v, h1, h2⟩

set_option maxHeartbeats 800000 in
theorem lessNumeric {Dom : ByteArray → Prop} {num : ByteArray → Option Nat} (hl : LightSaid Dom num) (a b : ByteArray) (ha : Dom a) (hb : Dom b) (n m : Int) (f : Bool) (w : World) :
    Calls Tryz.prog 85 #[.string a, .string b, sbV n m f] w (PairIs (numPair (fallsN m) (num a) (num b)) w) := by
  have HA := Lib.hid (hl a · ha)
  have HB := Lib.hid (hl b · hb)
  clear ha hb hl
  cases hna : num a with
  | some x =>
    cases hnb : num b with
    | some y =>
      rw [hna] at HA; rw [hnb] at HB
      clear hna hnb
      go_enter Tryz.func85, Tryz.ntmps85
      go_wp2_with fail
      refine (HA.out _).mono ?_
      rintro e w1 ⟨rfl, hb1⟩
      obtain ⟨hc1, hf1⟩ := after hb1 w.heap.size (by simp)
      have H1 : Hid (Below w.heap.size w w1) := ((Below.refl _ _).alloc (Nat.le_refl _) _).trans (hb1.mono (by simp))
      clear hb1
      go_wp2_with fail
      refine (HB.out _).mono ?_
      rintro e w2 ⟨rfl, hb2⟩
      obtain ⟨hc2, hf2⟩ := after hb2 w.heap.size hf1
      have H2 : Hid (Below w.heap.size w w2) := H1.out.trans (hb2.mono (by omega))
      clear hb2
      go_wp2_with fail
      refine (lessNumericVal x y n m f _).mono ?_
      rintro e w3 ⟨rfl, hb3⟩
      have H3 : Hid (Below w.heap.size w w3) := H2.out.trans (hb3.mono (by omega))
      clear hb3
      go_wp2_with fail
      go_ret2
      exact ⟨rfl, H3.out⟩
    | none =>
      rw [hna] at HA; rw [hnb] at HB
      clear hna hnb
      go_enter Tryz.func85, Tryz.ntmps85
      go_wp2_with fail
      refine (HA.out _).mono ?_
      rintro e w1 ⟨rfl, hb1⟩
      obtain ⟨hc1, hf1⟩ := after hb1 w.heap.size (by simp)
      have H1 : Hid (Below w.heap.size w w1) := ((Below.refl _ _).alloc (Nat.le_refl _) _).trans (hb1.mono (by simp))
      clear hb1
      go_wp2_with fail
      refine (HB.out _).mono ?_
      intro e w2 hn
      obtain ⟨xx, t, v, rfl, hb2⟩ := NumIs.none hn
      have H2 : Hid (Below w.heap.size w w2) := H1.out.trans (hb2.mono (by omega))
      clear hb2
      go_wp2_with fail
      go_ret2
      exact ⟨rfl, H2.out⟩
  | none =>
    rw [show numPair (fallsN m) none (num b) = (false, false) from rfl]
    rw [hna] at HA
    clear hna
    go_enter Tryz.func85, Tryz.ntmps85
    go_wp2_with fail
    refine (HA.out _).mono ?_
    intro e w1 hn
    obtain ⟨xx, t, v, rfl, hb1⟩ := NumIs.none hn
    obtain ⟨hc1, hf1⟩ := after hb1 w.heap.size (by simp)
    have H1 : Hid (Below w.heap.size w w1) := ((Below.refl _ _).alloc (Nat.le_refl _) _).trans (hb1.mono (by simp))
    clear hb1
    go_wp2_with fail
    refine (HB.out _).mono ?_
    intro e w2 hn2
    have hv : ∃ x v, e = .returned (.tuple #[.float .f64 x, v]) ∧ Below w1.heap.size w1 w2 := by
      cases hnb : num b with
      | some y => rw [hnb] at hn2; exact ⟨y, _, hn2⟩
      | none => rw [hnb] at hn2; obtain ⟨x, t, v, h1, h2⟩ := NumIs.none hn2; exact ⟨x, _, h1, h2⟩
    obtain ⟨x2, v2, rfl, hb2⟩ := hv
    clear hn2
    have H2 : Hid (Below w.heap.size w w2) := H1.out.trans (hb2.mono (by omega))
    clear hb2
    go_wp2_with fail
    go_ret2
    exact ⟨rfl, H2.out⟩

/-- Whatever the callee told, a number and a second value. -/
theorem NumIs.any {o : Option Nat} {w w' : World} {e : Ending} (h : NumIs o w e w') : ∃ x v, e = .returned (.tuple #[.float .f64 x, v]) ∧ Below w.heap.size w w' := by
  cases o with
  | some y => exact ⟨y, _, h⟩
  | none => obtain ⟨x, t, v, h1, h2⟩ := NumIs.none h; exact ⟨x, _, h1, h2⟩

set_option maxHeartbeats 1600000 in
theorem lessMixedMode {Dom : ByteArray → Prop} {low : ByteArray → ByteArray} {num : ByteArray → Option Nat} (hlow : LowSaid Dom low) (hl : LightSaid Dom num) (a b : ByteArray) (ha : Dom a) (hb : Dom b) (n m : Int) (f : Bool) (w : World) :
    Calls Tryz.prog 86 #[.string a, .string b, sbV n m f] w (PairIs (mixPair low a b m f (num a) (num b)) w) := by
  have HA := Lib.hid (hl a · ha)
  have HB := Lib.hid (hl b · hb)
  have HT := Lib.hid (lessAlphabetic hlow a b ha hb n m f)
  clear ha hb hl hlow
  cases hna : num a with
  | some x =>
    cases hnb : num b with
    | some y =>
      rw [hna] at HA; rw [hnb] at HB
      clear hna hnb
      go_enter Tryz.func86, Tryz.ntmps86
      go_wp2_with fail
      refine (HA.out _).mono ?_
      rintro e w1 ⟨rfl, hb1⟩
      obtain ⟨hc1, hf1⟩ := after hb1 w.heap.size (by simp)
      have H1 : Hid (Below w.heap.size w w1) := ((Below.refl _ _).alloc (Nat.le_refl _) _).trans (hb1.mono (by simp))
      clear hb1
      go_wp2_with fail
      refine (HB.out _).mono ?_
      rintro e w2 ⟨rfl, hb2⟩
      obtain ⟨hc2, hf2⟩ := after hb2 w.heap.size hf1
      have H2 : Hid (Below w.heap.size w w2) := H1.out.trans (hb2.mono (by omega))
      clear hb2
      go_wp2_with fail
      refine (lessNumericVal x y n m f _).mono ?_
      rintro e w3 ⟨rfl, hb3⟩
      have H3 : Hid (Below w.heap.size w w3) := H2.out.trans (hb3.mono (by omega))
      clear hb3
      go_wp2_with fail
      go_ret2
      exact ⟨rfl, H3.out⟩
    | none =>
      rw [hna] at HA; rw [hnb] at HB
      clear hna hnb
      go_enter Tryz.func86, Tryz.ntmps86
      go_wp2_with fail
      refine (HA.out _).mono ?_
      rintro e w1 ⟨rfl, hb1⟩
      obtain ⟨hc1, hf1⟩ := after hb1 w.heap.size (by simp)
      have H1 : Hid (Below w.heap.size w w1) := ((Below.refl _ _).alloc (Nat.le_refl _) _).trans (hb1.mono (by simp))
      clear hb1
      go_wp2_with fail
      refine (HB.out _).mono ?_
      intro e w2 hn
      obtain ⟨xx, t, v, rfl, hb2⟩ := NumIs.none hn
      obtain ⟨hc2, hf2⟩ := after hb2 w.heap.size hf1
      have H2 : Hid (Below w.heap.size w w2) := H1.out.trans (hb2.mono (by omega))
      clear hb2
      go_wp2_with fail
      all_goals
        go_ret2
        exact ⟨by simp [mixPair, *], H2.out⟩
  | none =>
    cases hnb : num b with
    | some y =>
      rw [hna] at HA; rw [hnb] at HB
      clear hna hnb
      go_enter Tryz.func86, Tryz.ntmps86
      go_wp2_with fail
      refine (HA.out _).mono ?_
      intro e w1 hn
      obtain ⟨xx, t, v, rfl, hb1⟩ := NumIs.none hn
      obtain ⟨hc1, hf1⟩ := after hb1 w.heap.size (by simp)
      have H1 : Hid (Below w.heap.size w w1) := ((Below.refl _ _).alloc (Nat.le_refl _) _).trans (hb1.mono (by simp))
      clear hb1
      go_wp2_with fail
      refine (HB.out _).mono ?_
      rintro e w2 ⟨rfl, hb2⟩
      obtain ⟨hc2, hf2⟩ := after hb2 w.heap.size hf1
      have H2 : Hid (Below w.heap.size w w2) := H1.out.trans (hb2.mono (by omega))
      clear hb2
      go_wp2_with fail
      all_goals
        go_ret2
        exact ⟨by simp [mixPair, *], H2.out⟩
    | none =>
      rw [hna] at HA; rw [hnb] at HB
      clear hna hnb
      go_enter Tryz.func86, Tryz.ntmps86
      go_wp2_with fail
      refine (HA.out _).mono ?_
      intro e w1 hn
      obtain ⟨xx, t, v, rfl, hb1⟩ := NumIs.none hn
      obtain ⟨hc1, hf1⟩ := after hb1 w.heap.size (by simp)
      have H1 : Hid (Below w.heap.size w w1) := ((Below.refl _ _).alloc (Nat.le_refl _) _).trans (hb1.mono (by simp))
      clear hb1
      go_wp2_with fail
      refine (HB.out _).mono ?_
      intro e w2 hn
      obtain ⟨xx2, t2, v2, rfl, hb2⟩ := NumIs.none hn
      obtain ⟨hc2, hf2⟩ := after hb2 w.heap.size hf1
      have H2 : Hid (Below w.heap.size w w2) := H1.out.trans (hb2.mono (by omega))
      clear hb2
      go_wp2_with fail
      refine (HT.out _).mono ?_
      rintro e w3 ⟨rfl, hb3⟩
      have H3 : Hid (Below w.heap.size w w3) := H2.out.trans (hb3.mono (by omega))
      clear hb3
      go_wp2_with fail
      go_ret2
      exact ⟨rfl, H3.out⟩

theorem PairIs.below {p : Bool × Bool} {w w1 w2 : World} {e : Ending} (h : PairIs p w1 e w2) (hb : Below w.heap.size w w1) : PairIs p w e w2 :=
  ⟨h.1, hb.trans (h.2.mono hb.size)⟩

theorem neq_nilFunc (w : World) : (binOp .neq 114 .nilFunc .nilFunc).run Tryz.prog w = .ok (.bool false) w := by kernel_rfl

set_option maxHeartbeats 1600000 in
set_option maxRecDepth 100000 in
theorem less {Dom : ByteArray → Prop} {low : ByteArray → ByteArray} {num : ByteArray → Option Nat} (hlow : LowSaid Dom low) (hl : LightSaid Dom num) (a b : ByteArray) (ha : Dom a) (hb : Dom b) (n m : Int) (f : Bool) (w : World) :
    Calls Tryz.prog 65 #[.string a, .string b, sbV n m f] w (PairIs (bef low num a b m f) w) := by
  have HT := Lib.hid (lessAlphabetic hlow a b ha hb n m f)
  have HN := Lib.hid (lessNumeric hl a b ha hb n m f)
  have HM := Lib.hid (lessMixedMode hlow hl a b ha hb n m f)
  clear ha hb hl hlow
  have hB : Hid (Below w.heap.size w (w.alloc (.cells #[.string ⟨#[]⟩, .int .i64 n, .int .i64 m, .bool f, .nilFunc] 116))) := (Below.refl _ _).alloc (Nat.le_refl _) _
  have hq := neq_nilFunc
  cases he : sEq a b with
  | true =>
    have e : Hid (bef low num a b m f = (true, false)) := by show _ = _; simp only [bef, he]; rfl
    have he2 : (a.toList == b.toList) = true := he
    clear he
    go_enter Tryz.func65, Tryz.ntmps65
    go_wp2_with fail
    go_ret2
    exact ⟨by rw [e.out]; rfl, hB.out⟩
  | false =>
    have he2 : (a.toList == b.toList) = false := he
    cases h04 : (m == 0 || m == 4) with
    | true =>
      have e : bef low num a b m f = befTexts low a b (fallsT m) f := by simp only [bef, he, h04]; rfl
      rw [e]
      clear e he
      have hm : (m == 0) = true ∨ (m == 0) = false ∧ (m == 4) = true := by
        cases h : (m == 0) <;> simp_all
      clear h04
      rcases hm with h0 | ⟨h0, h4⟩
      all_goals
        go_enter Tryz.func65, Tryz.ntmps65
        go_wp2_with fail
        refine (HT.out _).mono ?_
        rintro e w1 ⟨rfl, hb1⟩
        have H1 : Hid (Below w.heap.size w w1) := hB.out.trans (hb1.mono (by simp))
        clear hb1
        go_wp2_with fail
        go_ret2
        exact ⟨rfl, H1.out⟩
    | false =>
      cases h26 : (m == 2 || m == 6) with
      | true =>
        have e : bef low num a b m f = numPair (fallsN m) (num a) (num b) := by simp only [bef, he, h04, h26]; rfl
        rw [e]
        clear e he
        have h0 : (m == 0) = false := by cases h : (m == 0) <;> simp_all
        have h4 : (m == 4) = false := by cases h : (m == 4) <;> simp_all
        have hm : (m == 2) = true ∨ (m == 2) = false ∧ (m == 6) = true := by
          cases h : (m == 2) <;> simp_all
        clear h04 h26
        rcases hm with h2 | ⟨h2, h6⟩
        all_goals
          go_enter Tryz.func65, Tryz.ntmps65
          go_wp2_with fail
          refine (HN.out _).mono ?_
          rintro e w1 ⟨rfl, hb1⟩
          have H1 : Hid (Below w.heap.size w w1) := hB.out.trans (hb1.mono (by simp))
          clear hb1
          go_wp2_with fail
          go_ret2
          exact ⟨rfl, H1.out⟩
      | false =>
        have e : bef low num a b m f = mixPair low a b m f (num a) (num b) := by simp only [bef, he, h04, h26]; rfl
        rw [e]
        clear e he
        have h0 : (m == 0) = false := by cases h : (m == 0) <;> simp_all
        have h4 : (m == 4) = false := by cases h : (m == 4) <;> simp_all
        have h2 : (m == 2) = false := by cases h : (m == 2) <;> simp_all
        have h6 : (m == 6) = false := by cases h : (m == 6) <;> simp_all
        clear h04 h26
        go_enter Tryz.func65, Tryz.ntmps65
        go_wp2_with fail
        refine (HM.out _).mono ?_
        rintro e w1 ⟨rfl, hb1⟩
        have H1 : Hid (Below w.heap.size w w1) := hB.out.trans (hb1.mono (by simp))
        clear hb1
        go_wp2_with fail
        go_ret2
        exact ⟨rfl, H1.out⟩

end Go.Proofs.YtgolhmiocjpohaaGreatDoor
