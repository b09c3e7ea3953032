/- The reference's comparison of two cells (spec.Before and what it calls) computes the plain function 'bef', if strings.ToLower and Go's ParseFloat compute 'low' and 'num' on the texts at hand. No condition beyond those. -/
import Derived.Test.YtgolhmiocjpohaaGreatDoorLess
set_option linter.unusedVariables false
set_option linter.unusedSimpArgs false
namespace Go.Proofs.YtgolhmiocjpohaaGreatDoor
open Go.RowKit

/-- What the walks read of the library's variables. -/
structure Glob (w : World) : Prop where
  mb : w.cell? ⟨10, 0, none⟩ = some (.int .u64 52)
  op : w.cell? ⟨9, 0, none⟩ = some (.bool true)
  es : ∃ t x, w.cell? ⟨6, 0, none⟩ = some (.iface t x)
  sz : 20 ≤ w.heap.size

theorem Glob.below {w w' : World} (h : Glob w) (hb : Below w.heap.size w w') : Glob w' := by
  have hz := h.sz
  obtain ⟨t, v, hv⟩ := h.es
  exact ⟨by rw [hb.cell (p := ⟨10, 0, none⟩) (by show 10 < _; omega)]; exact h.mb, by rw [hb.cell (p := ⟨9, 0, none⟩) (by show 9 < _; omega)]; exact h.op,
    ⟨t, v, by rw [hb.cell (p := ⟨6, 0, none⟩) (by show 6 < _; omega)]; exact hv⟩, by have := hb.size; omega⟩

/-- What Go's ParseFloat computes on the texts of a domain. -/
def StdSaid (Dom : ByteArray → Prop) (num : ByteArray → Option Nat) : Prop := ∀ s w, Dom s → Glob w → Calls Tryz.prog 59 #[.string s, .int .i64 64] w (NumIs (num s) w)

/-- A post: a number and that it is one, or something and that it is none. -/
def OkIs (o : Option Nat) (w : World) (e : Ending) (w' : World) : Prop :=
  (match o with
   | some x => e = .returned (.tuple #[.float .f64 x, .bool true])
   | none => ∃ x, e = .returned (.tuple #[.float .f64 x, .bool false])) ∧ Below w.heap.size w w'

theorem OkIs.some {x : Nat} {w w' : World} {e : Ending} (h : OkIs (some x) w e w') : e = .returned (.tuple #[.float .f64 x, .bool true]) ∧ Below w.heap.size w w' := h
theorem OkIs.none {w w' : World} {e : Ending} (h : OkIs none w e w') : ∃ x, e = .returned (.tuple #[.float .f64 x, .bool false]) ∧ Below w.heap.size w w' := by
  obtain ⟨⟨x, h1⟩, h2⟩ := h
  exact ⟨x, h1, h2⟩

set_option maxHeartbeats 400000 in
theorem number {Dom : ByteArray → Prop} {num : ByteArray → Option Nat} (hl : StdSaid Dom num) (s : ByteArray) (hs : Dom s) (w : World) (hg : Glob w) :
    Calls Tryz.prog 41 #[.string s] w (OkIs (num s) w) := by
  have HA := Lib.hid (hl s w hs hg)
  clear hl hs hg
  cases hn : num s with
  | some x =>
    rw [hn] at HA
    clear hn
    go_enter Tryz.func41, Tryz.ntmps41
    go_wp2_with fail
    refine HA.out.mono ?_
    rintro e w1 ⟨rfl, hb1⟩
    have H1 := Lib.hid hb1
    clear hb1
    go_wp2_with fail
    go_quiet (fail)
    go_wp2_with fail
    go_ret2
    exact ⟨rfl, below_drewN H1.out _⟩
  | none =>
    rw [hn] at HA
    clear hn
    go_enter Tryz.func41, Tryz.ntmps41
    go_wp2_with fail
    refine HA.out.mono ?_
    intro e w1 h
    obtain ⟨x, t, v, rfl, hb1⟩ := NumIs.none h
    have H1 := Lib.hid hb1
    clear hb1 h
    go_wp2_with fail
    go_quiet (fail)
    go_wp2_with fail
    go_ret2
    exact ⟨⟨x, rfl⟩, below_drewN H1.out _⟩

set_option maxHeartbeats 400000 in
theorem beforeNumbers (x y : Nat) (falls : Bool) (w : World) :
    Calls Tryz.prog 49 #[.float .f64 x, .float .f64 y, .bool falls] w (PairIs (befNums x y falls) w) := by
  go_enter Tryz.func49, Tryz.ntmps49
  go_wp2
  all_goals
    go_ret2
    exact ⟨by simp [befNums, fEq, fLt, fGt, *], Below.refl _ _⟩

set_option maxHeartbeats 400000 in
theorem beforeTexts_plain (low : ByteArray → ByteArray) (a b : ByteArray) (falls : Bool) (w : World) :
    Calls Tryz.prog 48 #[.string a, .string b, .bool falls, .bool false] w (PairIs (befTexts low a b falls false) w) := by
  cases falls with
  | false =>
    go_enter Tryz.func48, Tryz.ntmps48
    go_wp2
    go_ret2
    exact ⟨by simp [befTexts, sLt, sGt], Below.refl _ _⟩
  | true =>
    go_enter Tryz.func48, Tryz.ntmps48
    go_wp2
    go_ret2
    exact ⟨by simp [befTexts, sLt, sGt], Below.refl _ _⟩

set_option maxHeartbeats 800000 in
theorem beforeTexts_fold {Dom : ByteArray → Prop} {low : ByteArray → ByteArray} (hl : LowSaid Dom low) (a b : ByteArray) (ha : Dom a) (hb : Dom b) (falls : Bool) (w : World) :
    Calls Tryz.prog 48 #[.string a, .string b, .bool falls, .bool true] w (PairIs (befTexts low a b falls true) w) := by
  have HA := Lib.hid (hl a · ha)
  have HB := Lib.hid (hl b · hb)
  clear ha hb hl
  have hp : Hid (befTexts low a b falls true = (sEq (low a) (low b), if falls then (sEq (low a) (low b) && sGt a b) || sGt (low a) (low b) else (sEq (low a) (low b) && sLt a b) || sLt (low a) (low b))) := rfl
  cases h1 : ((low a).toList == (low b).toList) <;> cases h2 : Op.bytesLess (low a).toList (low b).toList <;> cases falls
  all_goals
    go_enter Tryz.func48, Tryz.ntmps48
    go_wp2_with fail
    refine (HA.out _).mono ?_
    rintro e w1 ⟨rfl, hb1⟩
    have H1 := Lib.hid hb1
    clear hb1
    go_wp2_with fail
    refine (HB.out _).mono ?_
    rintro e w2 ⟨rfl, hb2⟩
    have H2 := Lib.hid (H1.out.trans (hb2.mono H1.out.size))
    clear hb2
    go_wp2_with fail
    all_goals
      go_ret2
      refine ⟨?_, H2.out⟩
      rw [hp.out]
      first | (exfalso; simp_all; done) | (simp [sEq, sLt, sGt, *]; done) | (simp [sEq, sLt, sGt, *, Bool.or_comm]; done)

set_option maxHeartbeats 400000 in
theorem beforeTexts {Dom : ByteArray → Prop} {low : ByteArray → ByteArray} (hl : LowSaid Dom low) (a b : ByteArray) (ha : Dom a) (hb : Dom b) (falls f : Bool) (w : World) :
    Calls Tryz.prog 48 #[.string a, .string b, .bool falls, .bool f] w (PairIs (befTexts low a b falls f) w) := by
  cases f with
  | false => exact beforeTexts_plain low a b falls w
  | true => exact beforeTexts_fold hl a b ha hb falls w

end Go.Proofs.YtgolhmiocjpohaaGreatDoor
