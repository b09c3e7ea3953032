/- The light reading of digits alone (145, lower 169): the decimal that they spell. No condition beyond those on the text. Numbers' texts, as plain scanning: what both readings of floats read, sign, digits, point, exponent. No condition. Numbers' texts: the mantissa as Go's own reading keeps it, and what one octet more does to it: plain. No condition. Whole numbers as texts of decimal digits. Plain. No condition. The light FormatUint (149), FormatInt (119), Itoa (87) in decimals, and the reference's Decimal (44): one text. No condition beyond those on sizes of numbers. The light FormatInt (119), Itoa (87) and the reference's Decimal (44): one text. No condition beyond the number's kind. -/
import Derived.Sort.Statements
import Derived.Sort.Walk0
import Derived.Test.YtgolhmiocjpohaaGreatDoorDec5
import Derived.Test.YtgolhmiocjpohaaGreatDoorOrdered
import Derived.Test.YtgolhmiocjpohaaGreatDoorGen1
import Derived.Test.YtgolhmiocjpohaaGreatDoorStd2
import Derived.Test.YtgolhmiocjpohaaGreatDoorGen6
set_option linter.unusedVariables false
set_option linter.unusedSimpArgs false
namespace Go.Proofs.YtgolhmiocjpohaaGreatDoor
open Go.RowKit Go.PlainAid

theorem or32_all : ∀ i : Fin 10, bits .or .u8 (((48 + i.val : Nat)) : Int) 32 = ((48 + i.val : Nat) : Int) := by decide

theorem or32 {c : Int} (h : 48 ≤ c ∧ c ≤ 57) : bits .or .u8 c 32 = c := by
 have := or32_all ⟨(c - 48).toNat, by omega⟩
 have e : ((48 + (c - 48).toNat : Nat) : Int) = c := by omega
 simp only [e] at this
 exact this

theorem own_form {w : World} {base e size n : Nat} {v : Value} {xs : List Value} (h : w.ownsRow base e size v n xs) : ∃ A c, v = .slice A n c := by
 rcases h.2 with ⟨h1, h2⟩ | ⟨g2, cap2, cur, h1, _⟩
 ·exact ⟨none, 0, by rw [h2]; exact h1⟩
 ·exact ⟨_, _, h1⟩

end Go.Proofs.YtgolhmiocjpohaaGreatDoor

namespace Go.Proofs.YtgolhmiocjpohaaGreatDoor
open Go.RowKit Go.PlainAid

/-- An octet with the bit of lower case. -/
def lowB (c : Int) : Int := bits .or .u8 c 32

/-- A digit's value. -/
def digV (hex : Bool) (c : Int) : Option Nat :=
 if 48 ≤ c ∧ c ≤ 57 then some (c - 48).toNat else if hex = true ∧ 97 ≤ lowB c ∧ lowB c ≤ 102 then some (lowB c - 87).toNat else none

/-- What has been read of digits: those from the first one on that is not 0; whether there was one, a point, an underscore; where the point stands. -/
structure Sc where
 ds : List Nat
 sm : Bool
 dot : Bool
 us : Bool
 dp : Int

def sc0 : Sc := ⟨[], false, false, false, 0⟩

def addD (st : Sc) (d : Nat) : Sc :=
 if st.ds.length = 0 ∧ d = 0 then ⟨st.ds, true, st.dot, st.us, if st.dot then st.dp - 1 else st.dp⟩
 else ⟨st.ds ++ [d], true, st.dot, st.us, if st.dot then st.dp else st.dp + 1⟩

def stepC (hex : Bool) (st : Sc) (c : Int) : Option Sc :=
 if c = 95 then some ⟨st.ds, st.sm, st.dot, true, st.dp⟩
 else if c = 46 then (if st.dot then none else some ⟨st.ds, st.sm, true, st.us, st.dp⟩)
 else (digV hex c).map (addD st)

/-- Reading on from place j: where it stops, and what was read. -/
def scanFrom (hex : Bool) (s : ByteArray) : Nat → Nat → Sc → Nat × Sc
 | 0, j, st => (j, st)
 | n + 1, j, st => match stepC hex st (bt s j) with
  | some st' => scanFrom hex s n (j + 1) st'
  | none => (j, st)

def scanAt (hex : Bool) (s : ByteArray) (j : Nat) (st : Sc) : Nat × Sc := scanFrom hex s (s.size - j) j st

theorem scanAt_end {hex : Bool} {s : ByteArray} {j : Nat} {st : Sc} (h : s.size ≤ j) : scanAt hex s j st = (j, st) := by
 unfold scanAt
 rw [show s.size - j = 0 by omega]
 rfl

theorem scanAt_step {hex : Bool} {s : ByteArray} {j : Nat} {st st' : Sc} (h : j < s.size) (hs : stepC hex st (bt s j) = some st') : scanAt hex s j st = scanAt hex s (j + 1) st' := by
 unfold scanAt
 rw [show s.size - j = (s.size - (j + 1)) + 1 by omega, scanFrom, hs]

theorem scanAt_stop {hex : Bool} {s : ByteArray} {j : Nat} {st : Sc} (hs : stepC hex st (bt s j) = none) : scanAt hex s j st = (j, st) := by
 unfold scanAt
 generalize s.size - j = n
 cases n with
 | zero => rfl
 | succ n => rw [scanFrom, hs]

/-- What always holds of what has been read. -/
structure ScOk (hex : Bool) (st : Sc) : Prop where
 digits : ∀ d ∈ st.ds, d < if hex then 16 else 10
 first : st.ds = [] ∨ dAt st.ds 0 ≠ 0
 whole : st.dot = false → st.dp = st.ds.length
 hi : st.dp ≤ st.ds.length

theorem scok0 (hex : Bool) : ScOk hex sc0 := ⟨(fun d h => absurd h (by simp [sc0])), Or.inl rfl, (fun _ => rfl), by simp [sc0]⟩

theorem digV_lt {hex : Bool} {c : Int} {d : Nat} (h : digV hex c = some d) : d < if hex then 16 else 10 := by
 unfold digV at h
 split at h
 ·cases h
  cases hex <;> simp <;> omega
 ·split at h
  ·rename_i h1
   cases h
   rw [h1.1, if_pos rfl]
   omega
  ·cases h

theorem ScOk.add {hex : Bool} {st : Sc} {d : Nat} (h : ScOk hex st) (hd : d < if hex then 16 else 10) : ScOk hex (addD st d) := by
 unfold addD
 split
 ·rename_i h0
  refine ⟨h.digits, h.first, fun e => ?_, ?_⟩
  ·simp only at e ⊢
   rw [e]
   simp only [Bool.false_eq_true, if_false]
   exact h.whole e
  ·have := h.hi
   simp only
   split <;> omega
 ·rename_i h0
  refine ⟨fun x hx => ?_, Or.inr ?_, fun e => ?_, ?_⟩
  ·rcases List.mem_append.1 hx with h1 | h1
   ·exact h.digits x h1
   ·rw [List.mem_singleton.1 h1]; exact hd
  ·simp only
   rw [dAt_snoc]
   by_cases e : st.ds.length = 0
   ·rw [if_neg (by omega), if_pos e.symm]
    exact fun e2 => h0 ⟨e, e2⟩
   ·rw [if_pos (by omega)]
    rcases h.first with h1 | h1
    ·rw [h1] at e; simp at e
    ·exact h1
  ·simp only at e ⊢
   rw [e]
   simp only [Bool.false_eq_true, if_false, List.length_append, List.length_singleton]
   have := h.whole e
   omega
  ·have := h.hi
   simp only [List.length_append, List.length_singleton]
   split <;> omega

theorem ScOk.step {hex : Bool} {st st' : Sc} {c : Int} (h : ScOk hex st) (hs : stepC hex st c = some st') : ScOk hex st' := by
 unfold stepC at hs
 split at hs
 ·cases hs; exact ⟨h.digits, h.first, h.whole, h.hi⟩
 ·split at hs
  ·split at hs
   ·cases hs
   ·cases hs; exact ⟨h.digits, h.first, fun e => by simp at e, h.hi⟩
  ·cases hd : digV hex c with
   | none => rw [hd] at hs; cases hs
   | some d =>
    rw [hd] at hs
    cases hs
    exact h.add (digV_lt hd)

theorem len_step {hex : Bool} {st st' : Sc} {c : Int} (hs : stepC hex st c = some st') : st'.ds.length ≤ st.ds.length + 1 ∧ st.dp - 1 ≤ st'.dp ∧ st'.dp ≤ st.dp + 1 := by
 unfold stepC at hs
 split at hs
 ·cases hs; simp; omega
 ·split at hs
  ·split at hs
   ·cases hs
   ·cases hs; simp; omega
  ·cases hd : digV hex c with
   | none => rw [hd] at hs; cases hs
   | some d =>
    rw [hd] at hs
    cases hs
    unfold addD
    split <;> simp <;> split <;> omega

theorem scanFrom_good {hex : Bool} {s : ByteArray} : ∀ (n j : Nat) (st : Sc), ScOk hex st → ScOk hex (scanFrom hex s n j st).2 ∧ j ≤ (scanFrom hex s n j st).1 ∧ (scanFrom hex s n j st).1 ≤ j + n ∧
  (scanFrom hex s n j st).2.ds.length ≤ st.ds.length + ((scanFrom hex s n j st).1 - j) ∧ st.dp - ((scanFrom hex s n j st).1 - j : Nat) ≤ (scanFrom hex s n j st).2.dp
 | 0, j, st, h => ⟨h, Nat.le_refl _, Nat.le_refl _, by simp [scanFrom], by simp [scanFrom]⟩
 | n + 1, j, st, h => by
  unfold scanFrom
  cases hs : stepC hex st (bt s j) with
  | none => exact ⟨h, Nat.le_refl _, Nat.le_add_right _ _, by simp, by simp⟩
  | some st' =>
   obtain ⟨a1, a2, a3, a4, a5⟩ := scanFrom_good n (j + 1) st' (h.step hs)
   have := len_step hs
   simp only
   exact ⟨a1, by omega, by omega, by omega, by omega⟩

/-- Digits of an exponent: where they stop, what they spell (no more than some five of them), whether an underscore stood among what was read. -/
def expFrom (s : ByteArray) : Nat → Nat → Nat → Bool → Nat × Nat × Bool
 | 0, j, e, us => (j, e, us)
 | n + 1, j, e, us =>
  if 48 ≤ bt s j ∧ bt s j ≤ 57 then expFrom s n (j + 1) (if e < 10000 then e * 10 + (bt s j - 48).toNat else e) us
  else if bt s j = 95 then expFrom s n (j + 1) e true
  else (j, e, us)

def expAt (s : ByteArray) (j e : Nat) (us : Bool) : Nat × Nat × Bool := expFrom s (s.size - j) j e us

theorem expAt_end {s : ByteArray} {j e : Nat} {us : Bool} (h : s.size ≤ j) : expAt s j e us = (j, e, us) := by
 unfold expAt
 rw [show s.size - j = 0 by omega]
 rfl

theorem expAt_digit {s : ByteArray} {j e : Nat} {us : Bool} (h : j < s.size) (hc : 48 ≤ bt s j ∧ bt s j ≤ 57) : expAt s j e us = expAt s (j + 1) (if e < 10000 then e * 10 + (bt s j - 48).toNat else e) us := by
 unfold expAt
 rw [show s.size - j = (s.size - (j + 1)) + 1 by omega, expFrom, if_pos hc]

theorem expAt_under {s : ByteArray} {j e : Nat} {us : Bool} (h : j < s.size) (hc : bt s j = 95) : expAt s j e us = expAt s (j + 1) e true := by
 unfold expAt
 rw [show s.size - j = (s.size - (j + 1)) + 1 by omega, expFrom, if_neg (by omega), if_pos hc]

theorem expAt_stop {s : ByteArray} {j e : Nat} {us : Bool} (hc : ¬ (48 ≤ bt s j ∧ bt s j ≤ 57)) (h2 : bt s j ≠ 95) : expAt s j e us = (j, e, us) := by
 unfold expAt
 generalize s.size - j = n
 cases n with
 | zero => rfl
 | succ n => rw [expFrom, if_neg hc, if_neg h2]

theorem expFrom_bound {s : ByteArray} : ∀ (n j e : Nat) (us : Bool), e ≤ 99999 → (expFrom s n j e us).2.1 ≤ 99999 ∧ j ≤ (expFrom s n j e us).1 ∧ (expFrom s n j e us).1 ≤ j + n
 | 0, j, e, us, h => ⟨h, Nat.le_refl _, Nat.le_refl _⟩
 | n + 1, j, e, us, h => by
  unfold expFrom
  split
  ·rename_i hc
   obtain ⟨a, b, c⟩ := expFrom_bound (s := s) n (j + 1) (if e < 10000 then e * 10 + (bt s j - 48).toNat else e) us (by split <;> omega)
   exact ⟨a, by omega, by omega⟩
  ·split
   ·obtain ⟨a, b, c⟩ := expFrom_bound (s := s) n (j + 1) e true h
    exact ⟨a, by omega, by omega⟩
   ·exact ⟨h, Nat.le_refl _, by omega⟩

/-- What stands behind the digits: an exponent, if it is there; none: it is not a number. -/
def tailAt (hex : Bool) (s : ByteArray) (j : Nat) (us : Bool) : Option (Nat × Int × Bool) :=
 if j < s.size ∧ lowB (bt s j) = (if hex then 112 else 101) then
  let neg := decide (j + 1 < s.size ∧ bt s (j + 1) = 45)
  let j2 := if j + 1 < s.size ∧ (bt s (j + 1) = 43 ∨ bt s (j + 1) = 45) then j + 2 else j + 1
  if j2 < s.size ∧ 48 ≤ bt s j2 ∧ bt s j2 ≤ 57 then
   let r := expAt s j2 0 us
   some (r.1, if neg then -(r.2.1 : Int) else r.2.1, r.2.2)
  else none
 else if hex then none else some (j, 0, us)

/-- How many octets the sign has. -/
def signLen (s : ByteArray) : Nat := if 0 < s.size ∧ (bt s 0 = 43 ∨ bt s 0 = 45) then 1 else 0
def negB (s : ByteArray) : Bool := decide (0 < s.size ∧ bt s 0 = 45)

/-- Whether a number is told in hexadecimal. -/
def hexAt (s : ByteArray) : Bool := decide (signLen s + 2 < s.size ∧ bt s (signLen s) = 48 ∧ lowB (bt s (signLen s + 1)) = 120)
/-- Where the digits begin. -/
def digFrom (s : ByteArray) : Nat := if hexAt s then signLen s + 2 else signLen s

/-- All that is read of a text, but for the rule on underscores. -/
structure Read where
 hex : Bool
 st : Sc
 stop : Nat
 ex : Int
 us : Bool

def readOf (s : ByteArray) : Option Read :=
 let r := scanAt (hexAt s) s (digFrom s) sc0
 if r.2.sm then (tailAt (hexAt s) s r.1 r.2.us).map fun t => ⟨hexAt s, r.2, t.1, t.2.1, t.2.2⟩ else none

/-- The rule on underscores, as a machine over the octets: the last one counts as a digit (1), an underscore (2), something else (0), or the beginning (0). -/
def usFrom (hex : Bool) (s : ByteArray) : Nat → Nat → Nat → Bool
 | 0, j, l => decide (l ≠ 2)
 | n + 1, j, l =>
  if (48 ≤ bt s j ∧ bt s j ≤ 57) ∨ (hex = true ∧ 97 ≤ lowB (bt s j) ∧ lowB (bt s j) ≤ 102) then usFrom hex s n (j + 1) 1
  else if bt s j = 95 then (if l = 1 then usFrom hex s n (j + 1) 2 else false)
  else if l = 2 then false
  else usFrom hex s n (j + 1) 0

/-- A text without its sign. -/
def bodyT (s : ByteArray) : ByteArray := if signLen s = 1 then s.extract 1 s.size else s
def preAt (t : ByteArray) : Bool := decide (2 ≤ t.size ∧ bt t 0 = 48 ∧ (lowB (bt t 1) = 98 ∨ lowB (bt t 1) = 111 ∨ lowB (bt t 1) = 120))
def usT (t : ByteArray) : Bool :=
 if preAt t then usFrom (decide (lowB (bt t 1) = 120)) t (t.size - 2) 2 1 else usFrom false t t.size 0 0
def usOK (s : ByteArray) : Bool := usT (bodyT s)

theorem usFrom_end (hex : Bool) (s : ByteArray) (j l : Nat) : usFrom hex s 0 j l = decide (l ≠ 2) := rfl
theorem usFrom_digit {hex : Bool} {s : ByteArray} {j l : Nat} (hj : j < s.size) (h : (48 ≤ bt s j ∧ bt s j ≤ 57) ∨ (hex = true ∧ 97 ≤ lowB (bt s j) ∧ lowB (bt s j) ≤ 102)) : usFrom hex s (s.size - j) j l = usFrom hex s (s.size - (j + 1)) (j + 1) 1 := by
 rw [show s.size - j = (s.size - (j + 1)) + 1 by omega, usFrom, if_pos h]
theorem usFrom_under {hex : Bool} {s : ByteArray} {j l : Nat} (hj : j < s.size) (h : ¬ ((48 ≤ bt s j ∧ bt s j ≤ 57) ∨ (hex = true ∧ 97 ≤ lowB (bt s j) ∧ lowB (bt s j) ≤ 102))) (hc : bt s j = 95) : usFrom hex s (s.size - j) j l = if l = 1 then usFrom hex s (s.size - (j + 1)) (j + 1) 2 else false := by
 rw [show s.size - j = (s.size - (j + 1)) + 1 by omega, usFrom, if_neg h, if_pos hc]
theorem usFrom_other {hex : Bool} {s : ByteArray} {j l : Nat} (hj : j < s.size) (h : ¬ ((48 ≤ bt s j ∧ bt s j ≤ 57) ∨ (hex = true ∧ 97 ≤ lowB (bt s j) ∧ lowB (bt s j) ≤ 102))) (hc : bt s j ≠ 95) : usFrom hex s (s.size - j) j l = if l = 2 then false else usFrom hex s (s.size - (j + 1)) (j + 1) 0 := by
 rw [show s.size - j = (s.size - (j + 1)) + 1 by omega, usFrom, if_neg h, if_neg hc]

end Go.Proofs.YtgolhmiocjpohaaGreatDoor

namespace Go.Proofs.YtgolhmiocjpohaaGreatDoor
open Go.RowKit Go.PlainAid

/-- The number that digits spell in a base. -/
def wnat (b : Nat) (l : List Nat) : Nat := l.foldl (fun a d => a * b + d) 0

theorem wnat_snoc (b : Nat) (l : List Nat) (d : Nat) : wnat b (l ++ [d]) = wnat b l * b + d := by simp [wnat]

theorem wnat_lt {b : Nat} (hb : 0 < b) : ∀ (l : List Nat), (∀ d ∈ l, d < b) → wnat b l < b ^ l.length := by
 intro l h
 have key : ∀ (l : List Nat) (a n : Nat), (∀ d ∈ l, d < b) → a < b ^ n → l.foldl (fun a d => a * b + d) a < b ^ (n + l.length) := by
  intro l
  induction l with
  | nil => intro a n _ h; simpa using h
  | cons x l ih =>
   intro a n h h2
   have hx := h x List.mem_cons_self
   have h3 : a * b + x < b ^ (n + 1) := by
    have : (a + 1) * b ≤ b ^ n * b := Nat.mul_le_mul_right _ h2
    rw [Nat.pow_succ]
    rw [Nat.add_mul, Nat.one_mul] at this
    omega
   have := ih (a * b + x) (n + 1) (fun d hd => h d (List.mem_cons_of_mem _ hd)) h3
   rw [List.length_cons, show n + (l.length + 1) = n + 1 + l.length by omega]
   exact this
 have := key l 0 0 h (by simp)
 rwa [Nat.zero_add] at this

theorem wnat_dval (l : List Nat) : wnat 10 l = dval l := by
 have key : ∀ (n : Nat) (l : List Nat), l.length = n → wnat 10 l = dval l := by
  intro n
  induction n with
  | zero => intro l h; rw [List.eq_nil_of_length_eq_zero h]; rfl
  | succ n ih =>
   intro l h
   have hne : l ≠ [] := by rintro rfl; simp at h
   obtain ⟨xs, x, rfl⟩ : ∃ xs x, l = xs ++ [x] := ⟨l.dropLast, l.getLast hne, (List.dropLast_concat_getLast hne).symm⟩
   rw [wnat_snoc, dval_snoc, ih xs (by simpa using h)]
 exact key _ l rfl

def radix (hex : Bool) : Nat := if hex then 16 else 10
/-- How many digits of the mantissa are kept. -/
def cap (hex : Bool) : Nat := if hex then 16 else 19
/-- The mantissa of the digits that are kept. -/
def mantOf (hex : Bool) (ds : List Nat) : Nat := wnat (radix hex) (ds.take (cap hex))
/-- Whether a digit that is not kept is not 0. -/
def truncOf (hex : Bool) (ds : List Nat) : Bool := (ds.drop (cap hex)).any (· != 0)

theorem mantOf_nil (hex : Bool) : mantOf hex [] = 0 := by simp [mantOf, wnat]
theorem truncOf_nil (hex : Bool) : truncOf hex [] = false := by simp [truncOf]

theorem mantOf_kept {hex : Bool} {ds : List Nat} {d : Nat} (h : ds.length < cap hex) : mantOf hex (ds ++ [d]) = mantOf hex ds * radix hex + d := by
 unfold mantOf
 rw [List.take_of_length_le (by simp; omega), List.take_of_length_le (by omega), wnat_snoc]

theorem mantOf_left {hex : Bool} {ds : List Nat} {d : Nat} (h : cap hex ≤ ds.length) : mantOf hex (ds ++ [d]) = mantOf hex ds := by
 unfold mantOf
 rw [List.take_append_of_le_length h]

theorem truncOf_kept {hex : Bool} {ds : List Nat} {d : Nat} (h : ds.length < cap hex) : truncOf hex (ds ++ [d]) = truncOf hex ds := by
 unfold truncOf
 rw [List.drop_of_length_le (by simp; omega), List.drop_of_length_le (by omega)]

theorem truncOf_left {hex : Bool} {ds : List Nat} {d : Nat} (h : cap hex ≤ ds.length) : truncOf hex (ds ++ [d]) = (truncOf hex ds || d != 0) := by
 unfold truncOf
 rw [List.drop_append_of_le_length h, List.any_append]
 simp

theorem cap_bound {hex : Bool} {ds : List Nat} (h : ∀ d ∈ ds, d < if hex then 16 else 10) : mantOf hex ds < radix hex ^ min ds.length (cap hex) := by
 unfold mantOf
 have := wnat_lt (b := radix hex) (by unfold radix; cases hex <;> simp) (ds.take (cap hex)) (fun d hd => h d (List.mem_of_mem_take hd))
 rwa [List.length_take, Nat.min_comm] at this

theorem mantOf_room {hex : Bool} {st : Sc} (h : ScOk hex st) (hl : st.ds.length < cap hex) : mantOf hex st.ds ≤ (if hex then 1152921504606846975 else 999999999999999999) := by
 have h1 := cap_bound h.digits
 cases hex
 ·have h2 : (10 : Nat) ^ min st.ds.length (cap false) ≤ 10 ^ 18 := Nat.pow_le_pow_right (by omega) (by unfold cap at *; simp at *; omega)
  have h3 : mantOf false st.ds < 10 ^ min st.ds.length (cap false) := h1
  simp only [Bool.false_eq_true, if_false]
  omega
 ·have h2 : (16 : Nat) ^ min st.ds.length (cap true) ≤ 16 ^ 15 := Nat.pow_le_pow_right (by omega) (by unfold cap at *; simp at *; omega)
  have h3 : mantOf true st.ds < 16 ^ min st.ds.length (cap true) := h1
  simp only [if_true]
  omega

theorem mantOf_lt {hex : Bool} {ds : List Nat} (h : ∀ d ∈ ds, d < if hex then 16 else 10) : mantOf hex ds < 2 ^ 64 ∧ (hex = false → mantOf hex ds < 10 ^ 19) := by
 have h1 := cap_bound h
 cases hex
 ·have h2 : (10 : Nat) ^ min ds.length (cap false) ≤ 10 ^ 19 := Nat.pow_le_pow_right (by omega) (Nat.min_le_right _ _)
  have h3 : mantOf false ds < 10 ^ min ds.length (cap false) := h1
  exact ⟨by omega, fun _ => by omega⟩
 ·have h2 : (16 : Nat) ^ min ds.length (cap true) ≤ 16 ^ 16 := Nat.pow_le_pow_right (by omega) (Nat.min_le_right _ _)
  have h3 : mantOf true ds < 16 ^ min ds.length (cap true) := h1
  exact ⟨by omega, fun h => by cases h⟩

/-- How the slots of Go's own reading stand at place j. -/
structure StdAt (hex : Bool) (s : ByteArray) (E : Nat × Sc) (st : Sc) (j : Nat) (dpv : Int) : Prop where
 ok : ScOk hex st
 scan : scanAt hex s j st = E
 from' : digFrom s ≤ j
 le : j ≤ s.size
 len : st.ds.length ≤ j
 lo : -(j : Int) ≤ dpv
 hi : dpv ≤ j
 dot : st.dot = true → dpv = st.dp

theorem StdAt.start (hex : Bool) (s : ByteArray) (h : digFrom s ≤ s.size) : StdAt hex s (scanAt hex s (digFrom s) sc0) sc0 (digFrom s) 0 :=
 ⟨scok0 hex, rfl, Nat.le_refl _, h, by simp [sc0], by omega, by omega, fun h => by cases h⟩

theorem StdAt.under {hex : Bool} {s : ByteArray} {E : Nat × Sc} {st : Sc} {j : Nat} {dpv : Int} (h : StdAt hex s E st j dpv) (hj : j < s.size) (hc : bt s j = 95) : StdAt hex s E ⟨st.ds, st.sm, st.dot, true, st.dp⟩ (j + 1) dpv := by
 have hs : stepC hex st (bt s j) = some ⟨st.ds, st.sm, st.dot, true, st.dp⟩ := by unfold stepC; rw [if_pos hc]
 exact ⟨h.ok.step hs, by rw [← scanAt_step hj hs]; exact h.scan, by have := h.from'; omega, hj, by have := h.len; simp; omega, by have := h.lo; omega, by have := h.hi; omega, h.dot⟩

theorem StdAt.point {hex : Bool} {s : ByteArray} {E : Nat × Sc} {st : Sc} {j : Nat} {dpv : Int} (h : StdAt hex s E st j dpv) (hj : j < s.size) (hc : bt s j = 46) (hd : st.dot = false) : StdAt hex s E ⟨st.ds, st.sm, true, st.us, st.dp⟩ (j + 1) (st.ds.length : Nat) := by
 have hs : stepC hex st (bt s j) = some ⟨st.ds, st.sm, true, st.us, st.dp⟩ := by
  unfold stepC
  rw [if_neg (by omega), if_pos hc, hd]
  rfl
 exact ⟨h.ok.step hs, by rw [← scanAt_step hj hs]; exact h.scan, by have := h.from'; omega, hj, by have := h.len; simp; omega, by have := h.len; omega, by have := h.len; omega, fun _ => (h.ok.whole hd).symm⟩

theorem StdAt.stops {hex : Bool} {s : ByteArray} {E : Nat × Sc} {st : Sc} {j : Nat} {dpv : Int} (h : StdAt hex s E st j dpv) (hs : stepC hex st (bt s j) = none) : E = (j, st) := by rw [← h.scan, scanAt_stop hs]
theorem StdAt.ends {hex : Bool} {s : ByteArray} {E : Nat × Sc} {st : Sc} {dpv : Int} (h : StdAt hex s E st s.size dpv) : E = (s.size, st) := by rw [← h.scan, scanAt_end (Nat.le_refl _)]

theorem stepC_digit {hex : Bool} {st : Sc} {c : Int} {d : Nat} (h1 : c ≠ 95) (h2 : c ≠ 46) (hd : digV hex c = some d) : stepC hex st c = some (addD st d) := by
 unfold stepC
 rw [if_neg h1, if_neg h2, hd]
 rfl

theorem StdAt.zero {hex : Bool} {s : ByteArray} {E : Nat × Sc} {st : Sc} {j : Nat} {dpv : Int} (h : StdAt hex s E st j dpv) (hj : j < s.size) (hs : stepC hex st (bt s j) = some (addD st 0)) (h0 : st.ds.length = 0) : StdAt hex s E ⟨st.ds, true, st.dot, st.us, if st.dot then st.dp - 1 else st.dp⟩ (j + 1) (dpv - 1) := by
 have e : addD st 0 = ⟨st.ds, true, st.dot, st.us, if st.dot then st.dp - 1 else st.dp⟩ := by unfold addD; rw [if_pos ⟨h0, rfl⟩]
 rw [e] at hs
 refine ⟨h.ok.step hs, by rw [← scanAt_step hj hs]; exact h.scan, by have := h.from'; omega, hj, by have := h.len; simp; omega, by have := h.lo; omega, by have := h.hi; omega, fun e => ?_⟩
 simp only at e ⊢
 rw [if_pos e, h.dot e]

theorem StdAt.digit {hex : Bool} {s : ByteArray} {E : Nat × Sc} {st : Sc} {j d : Nat} {dpv : Int} (h : StdAt hex s E st j dpv) (hj : j < s.size) (hs : stepC hex st (bt s j) = some (addD st d)) (h0 : ¬ (st.ds.length = 0 ∧ d = 0)) : StdAt hex s E ⟨st.ds ++ [d], true, st.dot, st.us, if st.dot then st.dp else st.dp + 1⟩ (j + 1) dpv := by
 have e : addD st d = ⟨st.ds ++ [d], true, st.dot, st.us, if st.dot then st.dp else st.dp + 1⟩ := by unfold addD; rw [if_neg h0]
 rw [e] at hs
 refine ⟨h.ok.step hs, by rw [← scanAt_step hj hs]; exact h.scan, by have := h.from'; omega, hj, by have := h.len; simp; omega, by have := h.lo; omega, by have := h.hi; omega, fun e => ?_⟩
 simp only at e ⊢
 rw [if_pos e, h.dot e]

/-- The exponent of the mantissa's last digit that is kept. -/
def expOfRead (R : Read) : Int :=
 if mantOf R.hex R.st.ds = 0 then 0 else R.st.dp * (if R.hex then 4 else 1) + R.ex - (min R.st.ds.length (cap R.hex) : Nat) * (if R.hex then 4 else 1)

/-- Go's own reading refuses it. -/
def ReadBad (s : ByteArray) : Prop := readOf s = none ∨ ∃ R, readOf s = some R ∧ R.us = true ∧ usOK (s.extract 0 R.stop) = false
/-- Go's own reading takes it. -/
def ReadGood (s : ByteArray) (R : Read) : Prop := readOf s = some R ∧ (R.us = true → usOK (s.extract 0 R.stop) = true)

/-- What stands behind the digits, as it is walked. -/
structure TailIs (hex : Bool) (s : ByteArray) (j : Nat) (us : Bool) (j' : Nat) (ex : Int) (us' : Bool) : Prop where
 eq : tailAt hex s j us = some (j', ex, us')
 lo : j ≤ j'
 hi : j' ≤ s.size
 e1 : -99999 ≤ ex
 e2 : ex ≤ 99999

theorem readOf_sm {s : ByteArray} {j : Nat} {st : Sc} (h : scanAt (hexAt s) s (digFrom s) sc0 = (j, st)) (hs : st.sm = false) : readOf s = none := by
 unfold readOf
 simp only [h]
 rw [hs]
 rfl

theorem readOf_tail {s : ByteArray} {j : Nat} {st : Sc} (h : scanAt (hexAt s) s (digFrom s) sc0 = (j, st)) (hs : st.sm = true) : readOf s = (tailAt (hexAt s) s j st.us).map fun t => ⟨hexAt s, st, t.1, t.2.1, t.2.2⟩ := by
 unfold readOf
 simp only [h]
 rw [hs]
 rfl

theorem scan_low {s : ByteArray} {hex : Bool} {P j : Nat} {st : Sc} (h : scanAt hex s P sc0 = (j, st)) : -((j - P : Nat) : Int) ≤ st.dp ∧ P ≤ j := by
 have := scanFrom_good (hex := hex) (s := s) (s.size - P) P sc0 (scok0 hex)
 unfold scanAt at h
 rw [h] at this
 obtain ⟨_, a2, _, _, a5⟩ := this
 simp only [sc0] at a5
 simp only at a2 a5
 exact ⟨by omega, a2⟩

theorem tail_none {hex : Bool} {s : ByteArray} {j : Nat} {us : Bool} (h : ¬ (j < s.size ∧ lowB (bt s j) = (if hex then 112 else 101))) : tailAt hex s j us = if hex then none else some (j, 0, us) := by
 unfold tailAt
 rw [if_neg h]

/-- Where an exponent's digits begin, and whether it is negative. -/
def expFromAt (s : ByteArray) (j : Nat) : Nat := if j + 1 < s.size ∧ (bt s (j + 1) = 43 ∨ bt s (j + 1) = 45) then j + 2 else j + 1
def expNeg (s : ByteArray) (j : Nat) : Bool := decide (j + 1 < s.size ∧ bt s (j + 1) = 45)

theorem tail_bad {hex : Bool} {s : ByteArray} {j : Nat} {us : Bool} (h : j < s.size ∧ lowB (bt s j) = (if hex then 112 else 101)) (h2 : ¬ (expFromAt s j < s.size ∧ 48 ≤ bt s (expFromAt s j) ∧ bt s (expFromAt s j) ≤ 57)) : tailAt hex s j us = none := by
 unfold tailAt
 rw [if_pos h]
 exact if_neg h2

theorem tail_good {hex : Bool} {s : ByteArray} {j : Nat} {us : Bool} (h : j < s.size ∧ lowB (bt s j) = (if hex then 112 else 101)) (h2 : expFromAt s j < s.size ∧ 48 ≤ bt s (expFromAt s j) ∧ bt s (expFromAt s j) ≤ 57) {j' e : Nat} {us' : Bool} (hr : expAt s (expFromAt s j) 0 us = (j', e, us')) :
  tailAt hex s j us = some (j', if expNeg s j then -(e : Int) else e, us') := by
 unfold tailAt
 rw [if_pos h]
 have e1 : (if expFromAt s j < s.size ∧ 48 ≤ bt s (expFromAt s j) ∧ bt s (expFromAt s j) ≤ 57 then
   some ((expAt s (expFromAt s j) 0 us).1, (if expNeg s j then -((expAt s (expFromAt s j) 0 us).2.1 : Int) else ((expAt s (expFromAt s j) 0 us).2.1 : Int)), (expAt s (expFromAt s j) 0 us).2.2) else none) = some (j', if expNeg s j then -(e : Int) else e, us') := by
  rw [if_pos h2, hr]
 exact e1

/-- How the slots of an exponent's digits stand. -/
def ExpAt (s : ByteArray) (F : Nat × Nat × Bool) (lo : Nat) (v7 v9 v20 : Value) : Prop :=
 ∃ (j e : Nat) (us : Bool), v7 = .int .i64 (j : Nat) ∧ v9 = .bool us ∧ v20 = .int .i64 (e : Nat) ∧ j ≤ s.size ∧ lo ≤ j ∧ e ≤ 99999 ∧ expAt s j e us = F

/-- How they stand behind them. -/
def ExpOut (s : ByteArray) (F : Nat × Nat × Bool) (lo : Nat) (v7 v9 v20 : Value) : Prop :=
 ∃ (j e : Nat) (us : Bool), v7 = .int .i64 (j : Nat) ∧ v9 = .bool us ∧ v20 = .int .i64 (e : Nat) ∧ j ≤ s.size ∧ lo ≤ j ∧ e ≤ 99999 ∧ F = (j, e, us)

end Go.Proofs.YtgolhmiocjpohaaGreatDoor

namespace Go.Proofs.YtgolhmiocjpohaaGreatDoor

/-- The decimal digits of a number. -/
def decL (n : Nat) : List Nat := if n < 10 then [n] else decL (n / 10) ++ [n % 10]
termination_by n
decreasing_by omega

theorem decL_small {n : Nat} (h : n < 10) : decL n = [n] := by rw [decL, if_pos h]
theorem decL_big {n : Nat} (h : ¬ n < 10) : decL n = decL (n / 10) ++ [n % 10] := by rw [decL, if_neg h]

theorem decL_ind {P : Nat → Prop} (h1 : ∀ n, n < 10 → P n) (h2 : ∀ n, ¬ n < 10 → P (n / 10) → P n) (n : Nat) : P n := by
 induction n using Nat.strongRecOn with
 | ind n ih =>
  by_cases h : n < 10
  ·exact h1 n h
  ·exact h2 n h (ih (n / 10) (by omega))

theorem decL_lt (n : Nat) : ∀ d ∈ decL n, d < 10 := by
 refine decL_ind (P := fun n => ∀ d ∈ decL n, d < 10) (fun n h d hd => ?_) (fun n h ih d hd => ?_) n
 ·rw [decL_small h] at hd
  rw [List.mem_singleton.1 hd]; exact h
 ·rw [decL_big h] at hd
  rcases List.mem_append.1 hd with h1 | h1
  ·exact ih d h1
  ·rw [List.mem_singleton.1 h1]; omega

theorem decL_pos (n : Nat) : 0 < (decL n).length := by
 by_cases h : n < 10
 ·rw [decL_small h]; simp
 ·rw [decL_big h]; simp

theorem decL_val (n : Nat) : wnat 10 (decL n) = n := by
 refine decL_ind (P := fun n => wnat 10 (decL n) = n) (fun n h => ?_) (fun n h ih => ?_) n
 ·rw [decL_small h]; simp [wnat]
 ·rw [decL_big h, wnat_snoc, ih]; omega

theorem decL_first (n : Nat) (h0 : n ≠ 0) : dAt (decL n) 0 ≠ 0 := by
 refine decL_ind (P := fun n => n ≠ 0 → dAt (decL n) 0 ≠ 0) (fun n h h0 => ?_) (fun n h ih h0 => ?_) n h0
 ·rw [decL_small h]; exact h0
 ·rw [decL_big h, dAt_snoc, if_pos (decL_pos _)]
  exact ih (by omega)

theorem decL_len (n k : Nat) (h : n < 10 ^ (k + 1)) : (decL n).length ≤ k + 1 := by
 induction k generalizing n with
 | zero => rw [decL_small (by simpa using h)]; simp
 | succ k ih =>
  by_cases h1 : n < 10
  ·rw [decL_small h1]; simp
  ·rw [decL_big h1, List.length_append, List.length_singleton]
   have := ih (n / 10) (by rw [Nat.pow_succ] at h; omega)
   omega

/-- What is still to come of a number's digits, ahead of those that are written. -/
def restD (m : Nat) (ds : List Nat) : List Nat := if m = 0 ∧ ds.length ≠ 0 then ds else decL m ++ ds

theorem restD_start (m : Nat) : restD m [] = decL m := by simp [restD]
theorem restD_end {ds : List Nat} (h : ds.length ≠ 0) : restD 0 ds = ds := by simp [restD]; intro h2; simp [h2] at h

theorem restD_step {m : Nat} {ds : List Nat} (h : ds.length = 0 ∨ 0 < m) : restD (m / 10) (m % 10 :: ds) = restD m ds := by
 unfold restD
 rw [if_neg (show ¬ (m = 0 ∧ ds.length ≠ 0) by omega)]
 by_cases h1 : m < 10
 ·rw [if_pos ⟨by omega, by simp⟩, decL_small h1, show m % 10 = m by omega]
  rfl
 ·rw [if_neg (by omega), decL_big h1, List.append_assoc]
  rfl

/-- The octets of digits. -/
def digNums (ds : List Nat) : List Int := ds.map fun d => ((48 + d : Nat) : Int)
/-- The text of a number. -/
def natText (n : Nat) : ByteArray := strOfNums (digNums (decL n))
/-- The text of an integer. -/
def intText (n : Int) : ByteArray := if n < 0 then strOfNums (45 :: digNums (decL n.natAbs)) else natText n.natAbs

theorem digNums_length (ds : List Nat) : (digNums ds).length = ds.length := by simp [digNums]
theorem digNums_getD (ds : List Nat) {i : Nat} (h : i < ds.length) : (digNums ds).getD i 0 = ((48 + ds.getD i 0 : Nat) : Int) := by
 simp [digNums, List.getD_eq_getElem?_getD, h]

end Go.Proofs.YtgolhmiocjpohaaGreatDoor

namespace Go.Proofs.YtgolhmiocjpohaaGreatDoor
open Go.RowKit Go.PlainAid

/-- The digits that are written lie behind place 64 - their number. -/
def FmtRow (w wr : World) (ds : List Nat) : Prop :=
 Below w.heap.size w wr ∧ ∃ f, wr.rowIs w.heap.size 271 64 f ∧ ∀ j, j < ds.length → f (64 - ds.length + j) = .int .u8 ((48 + ds.getD j 0 : Nat) : Int)

def FmtAt (n : Nat) (w wr : World) (v0 v6 : Value) : Prop :=
 ∃ (m : Nat) (ds : List Nat), v0 = .int .u64 (m : Nat) ∧ v6 = .int .i64 (64 - (ds.length : Int)) ∧ ds.length ≤ 20 ∧ restD m ds = decL n ∧ m * 10 ^ ds.length ≤ n ∧ FmtRow w wr ds

theorem FmtRow.push {w wr : World} {ds : List Nat} (h : FmtRow w wr ds) (hl : ds.length < 64) (d : Nat) (a : Nat) (ha : a = 64 - (ds.length + 1)) : FmtRow w (wr.setCell ⟨w.heap.size, a, none⟩ (.int .u8 ((48 + d : Nat) : Int))) (d :: ds) := by
 obtain ⟨hb, f, hf, hc⟩ := h
 refine ⟨hb.setCell (p := ⟨w.heap.size, a, none⟩) (Nat.le_refl _) _, _, hf.set a _, fun j hj => ?_⟩
 have hj' : j < ds.length + 1 := by simpa using hj
 show (if 64 - (d :: ds).length + j = a then _ else _) = _
 rw [List.length_cons]
 by_cases h0 : j = 0
 ·subst h0
  rw [if_pos (by omega)]
  rfl
 ·obtain ⟨i, rfl⟩ : ∃ i, j = i + 1 := ⟨j - 1, by omega⟩
  rw [if_neg (by omega), show 64 - (ds.length + 1) + (i + 1) = 64 - ds.length + i by omega, hc i (by omega)]
  rfl

theorem row64 (w : World) (c : Array Value) (hc : c = (List.replicate 64 (.int .u8 0)).toArray) : FmtRow w (w.alloc (.cells c 271)) [] := by
 subst hc
 refine ⟨(Below.refl _ _).alloc (Nat.le_refl _) _, fun _ => .int .u8 0, ?_, fun j hj => by simp at hj⟩
 have := World.rowIs_alloc w (List.replicate 64 (Value.int .u8 0)).toArray 271 (fun _ => .int .u8 0) (fun i hi => by
  rw [List.getElem?_toArray, List.getElem?_replicate, if_pos (by simpa using hi)])
 simpa using this

theorem alph {r : Nat} (h : r < 10) : ∀ h2 : r < (⟨#[48, 49, 50, 51, 52, 53, 54, 55, 56, 57, 97, 98, 99, 100, 101, 102, 103, 104, 105, 106, 107, 108, 109, 110, 111, 112, 113, 114, 115, 116, 117, 118, 119, 120, 121, 122]⟩ : ByteArray).size,
  (((⟨#[48, 49, 50, 51, 52, 53, 54, 55, 56, 57, 97, 98, 99, 100, 101, 102, 103, 104, 105, 106, 107, 108, 109, 110, 111, 112, 113, 114, 115, 116, 117, 118, 119, 120, 121, 122]⟩ : ByteArray)[r]).toNat : Int) = ((48 + r : Nat) : Int) := by
 intro h2
 have : r = 0 ∨ r = 1 ∨ r = 2 ∨ r = 3 ∨ r = 4 ∨ r = 5 ∨ r = 6 ∨ r = 7 ∨ r = 8 ∨ r = 9 := by omega
 rcases this with rfl | rfl | rfl | rfl | rfl | rfl | rfl | rfl | rfl | rfl <;> rfl

theorem slice64 (w : World) (b a : Nat) (h : a < 64) : (Instr.sliceAt 271 (.pointer (some ⟨b, 0, none⟩)) (some (.int .i64 (a : Int))) none none).run Tryz.prog w = .ok (.slice (some ⟨b, a, none⟩) (64 - a) (64 - a)) w := by
 have h1 : Tryz.prog.arrayLen 271 = 64 := by kernel_rfl
 have h2 : (sizeOf (Tryz.prog.elem 271)).run Tryz.prog w = .ok 1 w := by kernel_rfl
 rw [run_sliceAt_array_l (P := Tryz.prog) w 271 ⟨b, 0, none⟩ (by kernel_rfl) .i64 (a : Int) (by omega) (by rw [h1]; omega), h2, h1]
 have h3 : (⟨b, 0, none⟩ : Addr).add a = ⟨b, a, none⟩ := by unfold Addr.add; split <;> simp_all
 simp only [Result.andThen, slicedAt, Int.toNat_natCast, Nat.mul_one, h3]
 rw [if_neg (by omega)]

set_option maxHeartbeats 1600000 in
set_option maxRecDepth 100000 in
theorem fmt_uint (n : Nat) (w : World) (hn : n < 2 ^ 64) : Calls Tryz.prog 149 #[.int .u64 (n : Int), .int .i64 10] w (fun e w' => e = .returned (.string (natText n)) ∧ Below w.heap.size w w') := by
 have HN := Lib.hid hn
 clear hn
 go_enter Tryz.func149, Tryz.ntmps149
 go_wp2_with fail
 go_loopw [0, 6] (fun v0 v6 wr => FmtAt n w wr v0 v6) (fun _ v _ => (intOf v).toNat)
 case atStart => exact ⟨n, [], rfl, rfl, by simp, restD_start n, by simp, row64 w _ rfl⟩
 case round =>
  obtain ⟨m, ds, rfl, rfl, hl, hrest, hmul, hrow⟩ := hrel
  have HR := Lib.hid hrest
  have HROW := Lib.hid hrow
  have HM := Lib.hid hmul
  have hm64 : m < 2 ^ 64 := by
   have h1 : m * 1 ≤ m * 10 ^ ds.length := Nat.mul_le_mul_left _ (ten_pos _)
   have := HN.out
   omega
  clear hrest hrow hmul
  by_cases hgo : ds.length = 0 ∨ 0 < m
  ·have hl2 : ds.length ≤ 19 := by
    rcases hgo with h | h
    ·omega
    ·apply Classical.byContradiction
     intro hc
     have h1 : 10 ^ 20 ≤ 10 ^ ds.length := Nat.pow_le_pow_right (by omega) (by omega)
     have h2 : 1 * 10 ^ ds.length ≤ m * 10 ^ ds.length := Nat.mul_le_mul_right _ h
     have h3 := HM.out
     have h4 := HN.out
     omega
   obtain ⟨q, hq⟩ : ∃ q, q = m / 10 := ⟨_, rfl⟩
   obtain ⟨r, hr⟩ : ∃ r, r = m % 10 := ⟨_, rfl⟩
   obtain ⟨a, ha⟩ : ∃ a, a = 64 - (ds.length + 1) := ⟨_, rfl⟩
   have e1 : (m : Int) % 10 = (r : Int) := by omega
   have e2 : (m : Int) / 10 = (q : Int) := by omega
   have e3 : 64 - (ds.length : Int) - 1 = (a : Int) := by omega
   have hr10 : r < 10 := by omega
   have ha64 : a < 64 := by omega
   have hal := alph hr10
   have HRS : Hid (restD q (r :: ds) = decL n) := by show _ = _; rw [hq, hr, restD_step hgo]; exact HR.out
   have HMS : Hid (q * 10 ^ (r :: ds).length ≤ n) := by
    show _ ≤ _
    rw [List.length_cons, Nat.pow_succ, Nat.mul_comm (10 ^ ds.length), ← Nat.mul_assoc]
    exact Nat.le_trans (Nat.mul_le_mul_right _ (by omega)) HM.out
   have HPU := Lib.hid (HROW.out.push (by omega) r a ha)
   obtain ⟨hb, f, hf, hc⟩ := HROW.out
   have hcell : wr.cell? ⟨w.heap.size, a, none⟩ = some (f a) := hf.cell ha64
   have hfree : wr.frozen? ⟨w.heap.size, a, none⟩ = false := hf.frozen a
   have hcs : (((64 - (ds.length : Int)) == 64) = true ∧ True) ∨ (((64 - (ds.length : Int)) == 64) = false ∧ 0 < m) := by
    by_cases e : ds.length = 0
    ·exact Or.inl ⟨beq_iff_eq.2 (by omega), trivial⟩
    ·exact Or.inr ⟨beq_eq_false_iff_ne.2 (by omega), by omega⟩
   have HA := Lib.hid ha
   clear hgo hq hr ha hb hf hc
   rcases hcs with ⟨k1, k2⟩ | ⟨k1, k2⟩
   all_goals
    go_wp2_with fail
    go_roundw
    case rel => exact ⟨q, r :: ds, rfl, by rw [List.length_cons]; have := HA.out; go_num, by simp; omega, HRS.out, HMS.out, HPU.out⟩
    case measure => simp [intOf]; have := HA.out; omega
  ·have hm0 : m = 0 := by omega
   subst hm0
   have hd0 : ds.length ≠ 0 := by omega
   have k1 : ((64 - (ds.length : Int)) == 64) = false := beq_eq_false_iff_ne.2 (by omega)
   obtain ⟨a, ha⟩ : ∃ a, a = 64 - ds.length := ⟨_, rfl⟩
   have e3 : 64 - (ds.length : Int) = (a : Int) := by omega
   have e4 : 64 - a = ds.length := by omega
   obtain ⟨hb, f, hf, hc⟩ := HROW.out
   have hback := run_convert_bytes_arg (P := Tryz.prog) wr 122 5 Tryz.underlying122 Tryz.underlying5 w.heap.size a ds.length ds.length (digNums ds) (digNums_length ds) (fun i hi => by rw [hf.cell (by omega), digNums_getD ds hi, ha, hc i hi]) 9 Tryz.underlying9
   have HB := Lib.hid hb
   have HE : Hid (ds = decL n) := by show _ = _; rw [← HR.out, restD_end hd0]
   have hsl := slice64 wr w.heap.size a (by omega)
   rw [e4] at hsl
   clear hb hf hc hgo HR HM ha e4
   go_wp2_with fail
   go_ret
   refine ⟨?_, HB.out⟩
   rw [HE.out]
   rfl

end Go.Proofs.YtgolhmiocjpohaaGreatDoor

namespace Go.Proofs.YtgolhmiocjpohaaGreatDoor
open Go.RowKit Go.PlainAid

theorem strOf_append (xs ys : List Int) : strOfNums xs ++ strOfNums ys = strOfNums (xs ++ ys) := by
 apply ByteArray.ext
 rw [ByteArray.data_append]
 apply Array.ext'
 simp [strOfNums_data]

theorem minus_text : (⟨#[45]⟩ : ByteArray) = strOfNums [45] := rfl

theorem natText_size {k : Nat} (h : k < 2 ^ 64) : (natText k).size ≤ 20 := by
 unfold natText
 rw [strOfNums_size, digNums_length]
 exact decL_len k 19 (by omega)
theorem intText_size {n : Int} (h1 : -9223372036854775808 ≤ n) (h2 : n ≤ 9223372036854775807) : (intText n).size ≤ 21 := by
 unfold intText
 split
 ·rw [strOfNums_size, List.length_cons, digNums_length]
  have := decL_len n.natAbs 19 (by omega)
  omega
 ·have := natText_size (k := n.natAbs) (by omega)
  omega

/-- A post: a text is handed back, old memory is as it was. -/
def TextOut (s : ByteArray) (w : World) (e : Ending) (w' : World) : Prop := e = .returned (.string s) ∧ Below w.heap.size w w'

theorem intText_nat (k : Nat) : intText (k : Int) = natText k := by
 unfold intText
 rw [if_neg (by omega)]
 rfl

theorem intText_neg {k : Nat} (h : 0 < k) : intText (-(k : Int)) = strOfNums (45 :: digNums (decL k)) := by
 unfold intText
 rw [if_pos (by omega), show (-(k : Int)).natAbs = k by omega]

theorem intText_minus {k : Nat} (h : 0 < k) : (⟨#[45]⟩ : ByteArray) ++ natText k = intText (-(k : Int)) := by
 rw [intText_neg h, minus_text]
 unfold natText
 rw [strOf_append]
 rfl

set_option maxHeartbeats 400000 in
theorem fmt_int (n : Int) (w : World) (h1 : -9223372036854775808 ≤ n) (h2 : n ≤ 9223372036854775807) : Calls Tryz.prog 119 #[.int .i64 n, .int .i64 10] w (TextOut (intText n) w) := by
 by_cases hn : n < 0
 ·obtain ⟨k, rfl⟩ : ∃ k : Nat, n = -(k : Int) := ⟨n.natAbs, by omega⟩
  have K := Lib.hid (fun w => fmt_uint k w (by omega))
  have HT := Lib.hid (intText_minus (k := k) (by omega))
  have hsz := natText_size (k := k) (by omega)
  have e1 : IntKind.u64.wrap (-IntKind.u64.wrap (-(k : Int))) = (k : Int) := by rw [IntKind.wrap_u64, IntKind.wrap_u64]; omega
  have d1 : decide (-(k : Int) < 0) = true := decide_eq_true hn
  go_enter Tryz.func119, Tryz.ntmps119
  go_wp2_with (go_at_call 149; (with_reducible refine (K.out _).mono ?_); rintro e w1 ⟨rfl, hb⟩; have HB := Lib.hid hb; clear hb)
  go_ret
  exact ⟨by rw [← HT.out]; rfl, HB.out⟩
 ·obtain ⟨k, rfl⟩ : ∃ k : Nat, n = (k : Int) := ⟨n.natAbs, by omega⟩
  have K := Lib.hid (fun w => fmt_uint k w (by omega))
  have HT := Lib.hid (intText_nat k)
  have d1 : decide ((k : Int) < 0) = false := decide_eq_false hn
  have e1 : (k : Int) % 18446744073709551616 = (k : Int) := by omega
  go_enter Tryz.func119, Tryz.ntmps119
  go_wp2_with (go_at_call 149; (with_reducible refine (K.out _).mono ?_); rintro e w1 ⟨rfl, hb⟩; have HB := Lib.hid hb; clear hb)
  go_ret
  exact ⟨by rw [HT.out]; rfl, HB.out⟩

set_option maxHeartbeats 400000 in
theorem light_itoa (n : Int) (w : World) (h1 : -9223372036854775808 ≤ n) (h2 : n ≤ 9223372036854775807) : Calls Tryz.prog 87 #[.int .i64 n] w (TextOut (intText n) w) := by
 have K := Lib.hid (fun w => fmt_int n w h1 h2)
 go_enter Tryz.func87, Tryz.ntmps87
 go_wp2_with (go_at_call 119; (with_reducible refine (K.out _).mono ?_); rintro e w1 ⟨rfl, hb⟩; have HB := Lib.hid hb; clear hb)
 go_ret
 exact ⟨rfl, HB.out⟩

theorem conv_one (w : World) (b : Nat) (c : Int) (h : w.cell? ⟨b, 0, none⟩ = some (.int .u8 c)) : (convert 122 9 (.slice (some ⟨b, 0, none⟩) 1 1)).run Tryz.prog w = .ok (.string (strOfNums [c])) w :=
 run_convert_bytes_arg (P := Tryz.prog) w 122 5 Tryz.underlying122 Tryz.underlying5 b 0 1 1 [c] rfl (fun i hi => by
  obtain rfl : i = 0 := by omega
  exact h) 9 Tryz.underlying9

theorem one_below {w w1 : World} {c : Int} (hb : Below (w.alloc (.cells #[.int .u8 c] 5)).drew.heap.size (w.alloc (.cells #[.int .u8 c] 5)).drew w1) : w1.cell? ⟨w.heap.size, 0, none⟩ = some (.int .u8 c) := by
 refine (hb.cell (p := ⟨w.heap.size, 0, none⟩) (by show w.heap.size < (w.alloc (.cells #[.int .u8 c] 5)).heap.size; simp)).trans ?_
 show (w.alloc (.cells #[.int .u8 c] 5)).cell? ⟨w.heap.size, 0, none⟩ = _
 rw [World.cell?_alloc_at _ _ _ _ rfl]
 rfl

/-- One octet in a new block, as a text. -/
theorem one_text (c : Int) (wx : World) : (convert 122 9 (.slice (some ⟨wx.heap.size, 0, none⟩) 1 1)).run Tryz.prog (wx.alloc (.cells #[.int .u8 c] 5)) = .ok (.string (strOfNums [c])) (wx.alloc (.cells #[.int .u8 c] 5)) :=
 run_convert_bytes_arg (P := Tryz.prog) (wx.alloc (.cells #[.int .u8 c] 5)) 122 5 Tryz.underlying122 Tryz.underlying5 wx.heap.size 0 1 1 [c] rfl (fun i hi => by
  obtain rfl : i = 0 := by omega
  rw [World.cell?_alloc_at _ _ _ _ rfl]; rfl) 9 Tryz.underlying9

theorem natText_small {k : Nat} (h : k < 10) : natText k = strOfNums [((48 + k : Nat) : Int)] := by
 unfold natText
 rw [decL_small h]
 rfl
theorem natText_big {k : Nat} (h : ¬ k < 10) : natText k = natText (k / 10) ++ strOfNums [((48 + k % 10 : Nat) : Int)] := by
 unfold natText
 rw [decL_big h, strOf_append]
 simp [digNums]
theorem negText_small {k : Nat} (h : k < 10) (h0 : 0 < k) : intText (-(k : Int)) = (⟨#[45]⟩ : ByteArray) ++ strOfNums [((48 + k : Nat) : Int)] := by
 rw [← intText_minus h0, natText_small h]
theorem negText_big {k : Nat} (h : ¬ k < 10) : intText (-(k : Int)) = intText (-((k / 10 : Nat) : Int)) ++ strOfNums [((48 + k % 10 : Nat) : Int)] := by
 rw [intText_neg (by omega), intText_neg (by omega), decL_big h, strOf_append]
 simp [digNums]

set_option maxHeartbeats 800000 in
set_option maxRecDepth 100000 in
theorem spec_dec_nat (k : Nat) : k ≤ 9223372036854775807 → ∀ w, Calls Tryz.prog 44 #[.int .i64 (k : Int)] w (TextOut (natText k) w) := by
 induction k using Nat.strongRecOn with
 | ind k ih =>
  intro hk w
  have d1 : decide ((k : Int) < 0) = false := decide_eq_false (by omega)
  by_cases h : k < 10
  ·have d2 : decide ((k : Int) < 10) = true := decide_eq_true (by omega)
   have HT := Lib.hid (natText_small h)
   have hc := one_text (48 + (k : Int))
   clear ih
   go_enter Tryz.func44, Tryz.ntmps44
   go_wp2_with fail
   go_ret
   exact ⟨by rw [HT.out]; rfl, (Below.refl _ _).alloc (Nat.le_refl _) _⟩
  ·have d2 : decide ((k : Int) < 10) = false := decide_eq_false (by omega)
   obtain ⟨q, hq⟩ : ∃ q, q = k / 10 := ⟨_, rfl⟩
   obtain ⟨r, hr⟩ : ∃ r, r = k % 10 := ⟨_, rfl⟩
   have HT := Lib.hid (natText_big h)
   rw [← hq, ← hr] at HT
   have K := Lib.hid (ih q (by omega) (by omega))
   have e1 : (k : Int) / 10 = (q : Int) := by omega
   have e2 : (k : Int) % 10 = (r : Int) := by omega
   have hr10 : r < 10 := by omega
   have hc := one_text (48 + (r : Int))
   have hcd : ∀ wx : World, (convert 122 9 (.slice (some ⟨wx.heap.size, 0, none⟩) 1 1)).run Tryz.prog (wx.alloc (.cells #[.int .u8 (48 + (r : Int))] 5)).drew = .ok (.string (strOfNums [48 + (r : Int)])) (wx.alloc (.cells #[.int .u8 (48 + (r : Int))] 5)).drew := fun wx => conv_one _ _ _ (one_below (Below.refl _ _))
   have e2' : (k : Int).tmod 10 = (r : Int) := by rw [IntWalk.rem_in _ _ (by omega)]; exact e2
   have hsz := natText_size (k := q) (by omega)
   have hs1 : (strOfNums [48 + (r : Int)]).size = 1 := rfl
   have e3 : IntKind.i64.wrap (q : Int) = (q : Int) := IntWalk.i64_in _ (by omega)
   have e4 : IntKind.i64.wrap (r : Int) = (r : Int) := IntWalk.i64_in _ (by omega)
   have e5 : IntKind.i64.wrap (48 + (r : Int)) = 48 + (r : Int) := IntWalk.i64_in _ (by omega)
   have e6 : IntKind.u8.wrap (48 + (r : Int)) = 48 + (r : Int) := IntWalk.u8_in _ (by omega)
   clear ih hq hr h
   go_enter Tryz.func44, Tryz.ntmps44
   go_wp2_with fail
   go_region_with (go_at_call 44; (with_reducible refine (K.out _).mono ?_); rintro e w1 ⟨rfl, hb⟩; (first | (have hn : Below w.drew.heap.size w.drew w1 := hb) | (have hq2 := conv_one w1 w.heap.size _ (one_below (c := 48 + (r : Int)) hb))); have HB := Lib.hid hb; clear hb)
   all_goals
    go_wp2_with fail
    go_ret
    refine ⟨by rw [HT.out]; rfl, ?_⟩
    first
     | exact ((Below.refl _ _).drew.trans HB.out).alloc (((Below.refl _ _).drew.trans HB.out).size) _
     | exact ((Below.refl _ _).alloc (Nat.le_refl _) _).drew.trans (HB.out.mono (by show _ ≤ (w.alloc _).heap.size; simp))

set_option maxHeartbeats 800000 in
set_option maxRecDepth 100000 in
theorem spec_dec_neg (k : Nat) : 0 < k → k ≤ 9223372036854775808 → ∀ w, Calls Tryz.prog 44 #[.int .i64 (-(k : Int))] w (TextOut (intText (-(k : Int))) w) := by
 induction k using Nat.strongRecOn with
 | ind k ih =>
  intro h0 hk w
  have d1 : decide (-(k : Int) < 0) = true := decide_eq_true (by omega)
  by_cases h : k < 10
  ·have d2 : decide ((k : Int) < 10) = true := decide_eq_true (by omega)
   have HT := Lib.hid (negText_small h h0)
   have hc := one_text (48 + (k : Int))
   have hs1 : (strOfNums [48 + (k : Int)]).size = 1 := rfl
   clear ih
   go_enter Tryz.func44, Tryz.ntmps44
   go_wp2_with fail
   go_ret
   exact ⟨by rw [HT.out]; rfl, (Below.refl _ _).alloc (Nat.le_refl _) _⟩
  ·have d2 : decide ((k : Int) < 10) = false := decide_eq_false (by omega)
   obtain ⟨q, hq⟩ : ∃ q, q = k / 10 := ⟨_, rfl⟩
   obtain ⟨r, hr⟩ : ∃ r, r = k % 10 := ⟨_, rfl⟩
   have HT := Lib.hid (negText_big h)
   rw [← hq, ← hr] at HT
   have hsz := intText_size (n := -(q : Int)) (by omega) (by omega)
   have K := Lib.hid (ih q (by omega) (by omega) (by omega))
   generalize intText (-(q : Int)) = tq at *
   have hw : wrap64 (-(q : Int)) = -(q : Int) := IntWalk.wrap64_in _ (by omega)
   have e1 : (k : Int).tdiv 10 = (q : Int) := by rw [Int.tdiv_eq_ediv_of_nonneg (by omega)]; omega
   have e2 : (k : Int).tmod 10 = (r : Int) := by rw [IntWalk.rem_in _ _ (by omega)]; omega
   have hr10 : r < 10 := by omega
   have hc := one_text (48 + (r : Int))
   have hs1 : (strOfNums [48 + (r : Int)]).size = 1 := rfl
   clear ih hq hr h
   go_enter Tryz.func44, Tryz.ntmps44
   go_wp2_with (go_at_call 44; (with_reducible refine (K.out _).mono ?_); rintro e w1 ⟨rfl, hb⟩; have HB := Lib.hid hb; clear hb)
   go_ret
   exact ⟨by rw [HT.out]; rfl, ((Below.refl _ _).alloc (Nat.le_refl _) _).trans (HB.out.mono (by simp))⟩

theorem spec_decimal (n : Int) (w : World) (h1 : -9223372036854775808 ≤ n) (h2 : n ≤ 9223372036854775807) : Calls Tryz.prog 44 #[.int .i64 n] w (TextOut (intText n) w) := by
 by_cases hn : n < 0
 ·obtain ⟨k, rfl⟩ : ∃ k : Nat, n = -(k : Int) := ⟨n.natAbs, by omega⟩
  exact spec_dec_neg k (by omega) (by omega) w
 ·obtain ⟨k, rfl⟩ : ∃ k : Nat, n = (k : Int) := ⟨n.natAbs, by omega⟩
  rw [intText_nat]
  exact spec_dec_nat k (by omega) w

end Go.Proofs.YtgolhmiocjpohaaGreatDoor
