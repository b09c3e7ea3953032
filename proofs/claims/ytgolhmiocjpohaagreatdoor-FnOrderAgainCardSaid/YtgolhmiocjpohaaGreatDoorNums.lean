/- What a text of at most fifteen digits, with a minus ahead or not, is worth as a float; such floats stand to each other as the whole numbers do. No condition. -/
import Derived.Test.YtgolhmiocjpohaaGreatDoorWords
import Derived.Test.YtgolhmiocjpohaaGreatDoorDec0
import Derived.Test.YtgolhmiocjpohaaGreatDoorPlain2
set_option linter.unusedVariables false
set_option linter.unusedSimpArgs false
namespace Go.Proofs.YtgolhmiocjpohaaGreatDoor
open Go.RowKit Go.PlainAid

/-- A text's digits. -/
def digs (t : ByteArray) : List Nat := (List.range t.size).map fun i => (bt t i - 48).toNat

theorem digs_length (t : ByteArray) : (digs t).length = t.size := by simp [digs]

theorem digs_at {t : ByteArray} {i : Nat} (h : i < t.size) : dAt (digs t) i = (bt t i - 48).toNat := by
  simp [dAt, digs, h]

theorem digs_digits {t : ByteArray} (h : DigitsP t) : Digits (digs t) := by
  intro i hi
  rw [digs_length] at hi
  rw [digs_at hi]
  have := h.2.2 i hi
  omega

def negP (s : ByteArray) : Bool := decide (0 < s.size ∧ bt s 0 = 45)
def bodyOf (s : ByteArray) : ByteArray := if negP s then s.extract 1 s.size else s

theorem WholeP.body {s : ByteArray} (h : WholeP s) : DigitsP (bodyOf s) := by
  unfold bodyOf negP
  by_cases hm : 0 < s.size ∧ bt s 0 = 45
  · simp only [hm, and_self, decide_true, if_true]; exact h.1 hm
  · simp only [hm, decide_false]; exact h.2 hm

/-- What the digits spell. -/
def worth (t : ByteArray) : Nat := dval (digs t)

theorem worth_lt {t : ByteArray} (h : DigitsP t) : worth t < 10 ^ 15 := by
  have h1 := dval_lt (digs_digits h)
  rw [digs_length] at h1
  exact Nat.lt_of_lt_of_le h1 (Nat.pow_le_pow_right (by omega) h.2.1)

theorem worth_53 {t : ByteArray} (h : DigitsP t) : worth t < 2 ^ 53 := by
  have := worth_lt h
  omega

open Classical in
/-- The float that such a text is. -/
noncomputable def numOf (s : ByteArray) : Option Nat := if WholeP s then some (fBits (negP s) (worth (bodyOf s))) else none

def valOf (s : ByteArray) : Int := sgn (negP s) (worth (bodyOf s))

theorem numOf_whole {s : ByteArray} (h : WholeP s) : numOf s = some (fBits (negP s) (worth (bodyOf s))) := by
  unfold numOf
  rw [if_pos h]

theorem numOf_not {s : ByteArray} (h : ¬ WholeP s) : numOf s = none := by
  unfold numOf
  rw [if_neg h]

theorem numOf_some {s : ByteArray} {x : Nat} (h : numOf s = some x) : WholeP s ∧ x = fBits (negP s) (worth (bodyOf s)) := by
  by_cases hw : WholeP s
  · rw [numOf_whole hw] at h
    exact ⟨hw, (Option.some.inj h).symm⟩
  · rw [numOf_not hw] at h
    cases h

theorem numVal (D : ByteArray → Prop) : NumVal D numOf valOf := by
  refine ⟨fun a b x y _ _ hx hy => ?_, fun a b x y _ _ hx hy => ?_, fun a b x y _ _ hx hy => ?_⟩ <;>
  · obtain ⟨ha, rfl⟩ := numOf_some hx
    obtain ⟨hb, rfl⟩ := numOf_some hy
    first
      | exact fLt_bits _ _ (worth_53 ha.body) (worth_53 hb.body)
      | exact fGt_bits _ _ (worth_53 ha.body) (worth_53 hb.body)
      | exact fEq_bits _ _ (worth_53 ha.body) (worth_53 hb.body)

end Go.Proofs.YtgolhmiocjpohaaGreatDoor
