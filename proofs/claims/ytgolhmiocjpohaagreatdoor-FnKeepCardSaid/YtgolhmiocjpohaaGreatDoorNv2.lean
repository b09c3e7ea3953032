/- The float that a text tells, by its definition: a name, or the nearest float of its value. Plain. No condition. A number's text, cut behind its number, reads alike. Plain. No condition. -/
import Derived.Test.YtgolhmiocjpohaaGreatDoorVr
import Derived.Test.YtgolhmiocjpohaaGreatDoorFl3
import Derived.Test.YtgolhmiocjpohaaGreatDoorRd1
import Derived.Test.YtgolhmiocjpohaaGreatDoorND1
set_option linter.unusedVariables false
set_option linter.unusedSimpArgs false
namespace Go.Proofs.YtgolhmiocjpohaaGreatDoor
open Go.RowKit Go.PlainAid

/-- The mantissa of hexadecimal digits, those that are cut told by its last bit. -/
def hexM (R : Read) : Nat := if truncOf R.hex R.st.ds then mantOf R.hex R.st.ds ||| 1 else mantOf R.hex R.st.ds
/-- The value of what was read, A through B. -/
def numA (R : Read) : Nat := if R.hex then twoA (hexM R) (expOfRead R) else dval R.st.ds * 10 ^ (R.st.dp + R.ex).toNat
def numB (R : Read) : Nat := if R.hex then twoB (expOfRead R) else 10 ^ (R.st.ds.length + (-(R.st.dp + R.ex)).toNat)

theorem numB_pos (R : Read) : 0 < numB R := by
 unfold numB
 split
 ·exact twoB_pos _
 ·exact Nat.pow_pos (by omega)

noncomputable def rungOf (R : Read) : Nat := Classical.choose (Rung.exists (numA R) (numB_pos R))
theorem rungOf_is (R : Read) : Rung (numA R) (numB R) (rungOf R) := Classical.choose_spec (Rung.exists (numA R) (numB_pos R))

open Classical in
/-- The float of a number's text. -/
noncomputable def valueOf (s : ByteArray) : Option Nat :=
 match readOf s with
 | some R => if R.stop = s.size ∧ (R.us = true → usOK s = true) ∧ overRung (rungOf R) = false then some (sgv (negB s) + cutRung (rungOf R)) else none
 | none => none

open Classical in
/-- The float of a text; none: it tells no float, or too large a number. -/
noncomputable def fltOf (s : ByteArray) : Option Nat :=
 if FoldP s wNan then some 9221120237041090561
 else if FoldP (bodyT s) wInf ∨ FoldP (bodyT s) wInfinity then some (sgv (negB s) + 9218868437227405312)
 else valueOf s

/-- No name of a float. -/
structure NoNames (s : ByteArray) : Prop where
 nan : ¬ FoldP s wNan
 inf : ¬ FoldP (bodyT s) wInf
 infinity : ¬ FoldP (bodyT s) wInfinity

theorem fltOf_value {s : ByteArray} (h : NoNames s) : fltOf s = valueOf s := by
 unfold fltOf
 rw [if_neg h.nan, if_neg (fun h2 => h2.elim h.inf h.infinity)]

theorem fltOf_nan {s : ByteArray} (h : FoldP s wNan) : fltOf s = some 9221120237041090561 := by
 unfold fltOf
 rw [if_pos h]

theorem valueOf_none {s : ByteArray} (h : readOf s = none) : valueOf s = none := by
 unfold valueOf
 rw [h]

theorem sign_cases (s : ByteArray) : (signLen s = 0 ∧ negB s = false ∧ (0 < s.size → bt s 0 ≠ 43 ∧ bt s 0 ≠ 45)) ∨ (signLen s = 1 ∧ 0 < s.size ∧ bt s 0 = 43 ∧ negB s = false) ∨ (signLen s = 1 ∧ 0 < s.size ∧ bt s 0 = 45 ∧ negB s = true) := by
 unfold signLen negB
 by_cases h : 0 < s.size ∧ (bt s 0 = 43 ∨ bt s 0 = 45)
 ·rw [if_pos h]
  rcases h.2 with e | e
  ·exact Or.inr (Or.inl ⟨rfl, h.1, e, decide_eq_false (by omega)⟩)
  ·exact Or.inr (Or.inr ⟨rfl, h.1, e, decide_eq_true ⟨h.1, e⟩⟩)
 ·rw [if_neg h]
  exact Or.inl ⟨rfl, decide_eq_false (by omega), fun h0 => by omega⟩

theorem sign_le (s : ByteArray) : signLen s ≤ 1 ∧ signLen s ≤ s.size := by
 rcases sign_cases s with ⟨h, _⟩ | ⟨h, h2, _⟩ | ⟨h, h2, _⟩ <;> omega

theorem bodyT_size (s : ByteArray) : (bodyT s).size + signLen s = s.size := by
 have := sign_le s
 unfold bodyT
 split
 ·rename_i h; simp; omega
 ·omega

theorem bodyT_at {s : ByteArray} {i : Nat} (h : i < (bodyT s).size) : bt (bodyT s) i = bt s (signLen s + i) := by
 have h1 := bodyT_size s
 have h2 := sign_le s
 revert h h1
 unfold bodyT
 split
 ·rename_i h; intro h3 h4; rw [h, Nat.add_comm]; exact bt_tail s i (by simp at h3; omega)
 ·intro h3 h4; rw [show signLen s = 0 by omega, Nat.zero_add]

theorem head_fold {s word : ByteArray} {k : Nat} (h : HeadIs s (signLen s) word k) (f : FoldP (bodyT s) word) : k = word.size := by
 obtain ⟨h1, h2, h3, h4⟩ := h
 have hz := bodyT_size s
 have hf := f.1
 rcases h4 with h4 | h4 | h4
 ·exact h4
 ·omega
 ·apply Classical.byContradiction
  intro hk
  have := f.2 k (by omega)
  rw [bodyT_at (by omega)] at this
  exact h4 this

theorem inf_pre : ∀ i, i < 3 → bt wInf i = bt wInfinity i := by decide

theorem head_fold3 {s : ByteArray} {k : Nat} (h : HeadIs s (signLen s) wInfinity k) (f : FoldP (bodyT s) wInf) : k = 3 := by
 obtain ⟨h1, h2, h3, h4⟩ := h
 have hz := bodyT_size s
 have hf : (bodyT s).size = 3 := f.1
 have h8 : wInfinity.size = 8 := rfl
 rcases h4 with h4 | h4 | h4
 ·omega
 ·omega
 ·apply Classical.byContradiction
  intro hk
  have := f.2 k (by omega)
  rw [bodyT_at (by omega), inf_pre k (by omega)] at this
  exact h4 this

theorem fold_of_head {s word : ByteArray} (h : HeadIs s (signLen s) word word.size) (hs : s.size = signLen s + word.size) : FoldP (bodyT s) word := by
 have hz := bodyT_size s
 refine ⟨by omega, fun i hi => ?_⟩
 rw [bodyT_at hi]
 exact h.2.2.1 i (by omega)

theorem fold_of_head3 {s : ByteArray} {k : Nat} (h : HeadIs s (signLen s) wInfinity k) (hk : 3 ≤ k) (hs : s.size = signLen s + 3) : FoldP (bodyT s) wInf := by
 have hz := bodyT_size s
 refine ⟨by show (bodyT s).size = 3; omega, fun i hi => ?_⟩
 rw [bodyT_at hi, inf_pre i (by omega)]
 exact h.2.2.1 i (by omega)

theorem bodyT_self {s : ByteArray} (h : signLen s = 0) : bodyT s = s := by
 unfold bodyT
 rw [if_neg (by omega)]

theorem no_nan {s : ByteArray} (h : signLen s = 1 ∨ (0 < s.size ∧ lowerI (bt s 0) ≠ 110)) : ¬ FoldP s wNan := by
 intro f
 have hs : s.size = 3 := f.1
 have h0 := f.2 0 (by omega)
 rw [show bt wNan 0 = 110 from by decide] at h0
 rcases h with h | h
 ·rcases sign_cases s with ⟨h1, _⟩ | ⟨_, _, h1, _⟩ | ⟨_, _, h1, _⟩
  ·omega
  ·rw [h1] at h0; revert h0; decide
  ·rw [h1] at h0; revert h0; decide
 ·exact h.2 h0

theorem readOf_letter {s : ByteArray} (h : signLen s < s.size) (hc : lowerI (bt s (signLen s)) = 105 ∨ lowerI (bt s (signLen s)) = 110) : readOf s = none := by
 have hc2 : bt s (signLen s) = 105 ∨ bt s (signLen s) = 73 ∨ bt s (signLen s) = 110 ∨ bt s (signLen s) = 78 := by
  unfold lowerI at hc
  split at hc <;> omega
 have hx : hexAt s = false := by
  unfold hexAt
  exact decide_eq_false (by omega)
 have hd : digFrom s = signLen s := by unfold digFrom; rw [hx]; rfl
 refine readOf_sm (j := signLen s) (st := sc0) ?_ rfl
 rw [hx, hd]
 exact scanAt_stop (stop_other (by omega) (by omega) (by omega) (fun h => by simp at h))

theorem inf_bits (s : ByteArray) : (if negB s then 18442240474082181120 else 9218868437227405312) = sgv (negB s) + 9218868437227405312 := by
 cases negB s <;> rfl

theorem fltOf_inf {s : ByteArray} (hn : ¬ FoldP s wNan) (h : FoldP (bodyT s) wInf ∨ FoldP (bodyT s) wInfinity) : fltOf s = some (sgv (negB s) + 9218868437227405312) := by
 unfold fltOf
 rw [if_neg hn, if_pos h]

theorem fltOf_letter {s : ByteArray} (hn : NoNames s) (h : signLen s < s.size) (hc : lowerI (bt s (signLen s)) = 105 ∨ lowerI (bt s (signLen s)) = 110) : fltOf s = none := by
 rw [fltOf_value hn, valueOf_none (readOf_letter h hc)]

/-- What the look for names says of a text. -/
theorem name_law {s : ByteArray} {x n : Nat} {ok : Bool} (h : NameIs s x n ok) :
  (ok = true → (n = s.size → fltOf s = some x) ∧ (n ≠ s.size → fltOf s = none)) ∧ (ok = false → NoNames s) := by
 have hz := bodyT_size s
 have h8 : wInfinity.size = 8 := rfl
 have h3 : wNan.size = 3 := rfl
 rcases h with ⟨k, m, hh, hp, hm, hok, hres⟩ | ⟨k, ho, hh, hp, hok, hres⟩ | ⟨hok, ho, hi, hn⟩
 ·have hk8 : k ≤ 8 := hh.2.1
  have hso := hh.1
  have hnan : 0 < k ∨ signLen s = 1 → ¬ FoldP s wNan := fun h => by
   refine no_nan ?_
   by_cases h1 : signLen s = 1
   ·exact Or.inl h1
   ·have h0 : signLen s = 0 := by have := sign_le s; omega
    have hk0 : 0 < k := by omega
    have := hh.2.2.1 0 hk0
    rw [h0, Nat.zero_add] at this
    refine Or.inr ⟨by omega, ?_⟩
    rw [this]
    decide
  have hnan' := hnan (by omega)
  constructor
  ·intro h1
   obtain ⟨r1, r2⟩ := hres h1
   rw [h1] at hok
   have hmm := of_decide_eq_true hok.symm
   have hk : 3 ≤ k := by split at hm <;> omega
   have hl : lowerI (bt s (signLen s)) = 105 := by
    have := hh.2.2.1 0 (by omega)
    rw [Nat.add_zero] at this
    rw [this]
    decide
   rw [r2, inf_bits]
   constructor
   ·intro hn
    refine fltOf_inf hnan' ?_
    rcases hmm with e | e
    ·exact Or.inl (fold_of_head3 hh hk (by omega))
    ·have : k = 8 := by split at hm <;> omega
     subst this
     exact Or.inr (fold_of_head hh (by omega))
   ·intro hn
    refine fltOf_letter ⟨hnan', fun f => ?_, fun f => ?_⟩ (by omega) (Or.inl hl)
    ·have := head_fold3 hh f
     have hf : (bodyT s).size = 3 := f.1
     rw [if_neg (by omega)] at hm
     omega
    ·have := head_fold hh f
     have hf : (bodyT s).size = 8 := f.1
     rw [if_neg (by omega)] at hm
     omega
  ·intro h1
   rw [h1] at hok
   have hmm := of_decide_eq_false hok.symm
   refine ⟨hnan', fun f => ?_, fun f => ?_⟩
   ·have := head_fold3 hh f
    rw [if_neg (by omega)] at hm
    omega
   ·have := head_fold hh f
    rw [if_neg (by omega)] at hm
    omega
 ·have hb := bodyT_self ho
  have hk3 : k ≤ 3 := hh.2.1
  have hso := hh.1
  have hl : lowerI (bt s 0) = 110 := by
   have := hh.2.2.1 0 hp
   rw [Nat.add_zero] at this
   rw [this]
   decide
  have hinf : ¬ FoldP (bodyT s) wInf := fun f => by
   rw [hb] at f
   have := f.2 0 (by have : s.size = 3 := f.1; omega)
   rw [hl] at this
   revert this
   decide
  have hinf2 : ¬ FoldP (bodyT s) wInfinity := fun f => by
   rw [hb] at f
   have := f.2 0 (by have : s.size = 8 := f.1; omega)
   rw [hl] at this
   revert this
   decide
  have hh' : HeadIs s (signLen s) wNan k := by rw [ho]; exact hh
  constructor
  ·intro h1
   obtain ⟨r1, r2⟩ := hres h1
   rw [h1] at hok
   have hk := of_decide_eq_true hok.symm
   subst hk
   rw [r2]
   constructor
   ·intro hn
    have := fold_of_head (word := wNan) hh' (by omega)
    rw [hb] at this
    exact fltOf_nan this
   ·intro hn
    refine fltOf_letter ⟨fun f => ?_, hinf, hinf2⟩ (by omega) (Or.inr (by rw [ho]; exact hl))
    have : s.size = 3 := f.1
    omega
  ·intro h1
   rw [h1] at hok
   have hk := of_decide_eq_false hok.symm
   refine ⟨fun f => ?_, hinf, hinf2⟩
   have := head_fold (word := wNan) hh' (by rw [hb]; exact f)
   omega
 ·constructor
  ·intro h1; rw [h1] at hok; simp at hok
  ·intro _
   have hb := bodyT_self ho
   have hi' : HeadIs s (signLen s) wInfinity 0 := by rw [ho]; exact hi
   have hn' : HeadIs s (signLen s) wNan 0 := by rw [ho]; exact hn
   refine ⟨fun f => ?_, fun f => ?_, fun f => ?_⟩
   ·have := head_fold hn' (by rw [hb]; exact f); omega
   ·have := head_fold3 hi' f; omega
   ·have := head_fold hi' f; omega

/-- What was read of a text is within bounds. -/
structure ReadFacts (s : ByteArray) (R : Read) : Prop where
 ok : ScOk R.hex R.st
 hex : R.hex = hexAt s
 pos : 0 < s.size
 len : R.st.ds.length ≤ s.size
 lo : -(s.size : Int) ≤ R.st.dp
 e1 : -99999 ≤ R.ex
 e2 : R.ex ≤ 99999
 stop : R.stop ≤ s.size
 stop0 : 0 < R.stop

theorem tail_bounds {hex : Bool} {s : ByteArray} {j j' : Nat} {us us' : Bool} {ex : Int} (h : tailAt hex s j us = some (j', ex, us')) (hj : j ≤ s.size) : j ≤ j' ∧ j' ≤ s.size ∧ -99999 ≤ ex ∧ ex ≤ 99999 := by
 by_cases h1 : j < s.size ∧ lowB (bt s j) = (if hex then 112 else 101)
 ·by_cases h2 : expFromAt s j < s.size ∧ 48 ≤ bt s (expFromAt s j) ∧ bt s (expFromAt s j) ≤ 57
  ·obtain ⟨r, hr⟩ : ∃ r, expAt s (expFromAt s j) 0 us = r := ⟨_, rfl⟩
   have hb := expFrom_bound (s := s) (s.size - expFromAt s j) (expFromAt s j) 0 us (by omega)
   rw [show expFrom s (s.size - expFromAt s j) (expFromAt s j) 0 us = r from hr] at hb
   obtain ⟨r1, r2, r3⟩ := r
   rw [tail_good h1 h2 hr] at h
   simp only [Option.some.injEq, Prod.mk.injEq] at h
   obtain ⟨e1, e2, _⟩ := h
   have hf : j < expFromAt s j := by unfold expFromAt; split <;> omega
   simp only at hb
   refine ⟨by omega, by omega, ?_, ?_⟩ <;> (rw [← e2]; split <;> omega)
  ·rw [tail_bad h1 h2] at h; simp at h
 ·rw [tail_none h1] at h
  cases hex with
  | true => simp at h
  | false =>
   simp only [Bool.false_eq_true, if_false, Option.some.injEq, Prod.mk.injEq] at h
   obtain ⟨e1, e2, _⟩ := h
   omega

theorem hex_sizes {s : ByteArray} (h : hexAt s = true) : signLen s + 2 < s.size ∧ bt s (signLen s) = 48 ∧ lowB (bt s (signLen s + 1)) = 120 := by
 unfold hexAt at h
 exact of_decide_eq_true h

theorem dig_le (s : ByteArray) : digFrom s ≤ s.size := by
 unfold digFrom
 have := sign_le s
 cases h : hexAt s with
 | true => have := hex_sizes h; simp; omega
 | false => simp; omega

theorem read_facts {s : ByteArray} {R : Read} (h : readOf s = some R) : ReadFacts s R := by
 obtain ⟨E, hE⟩ : ∃ E, scanAt (hexAt s) s (digFrom s) sc0 = E := ⟨_, rfl⟩
 obtain ⟨j, st⟩ := E
 have hg := scanFrom_good (hex := hexAt s) (s := s) (s.size - digFrom s) (digFrom s) sc0 (scok0 _)
 rw [show scanFrom (hexAt s) s (s.size - digFrom s) (digFrom s) sc0 = (j, st) from hE] at hg
 obtain ⟨g1, g2, g3, g4, g5⟩ := hg
 simp only [sc0, List.length_nil] at g2 g3 g4 g5
 have hd := dig_le s
 cases hsm : st.sm with
 | false => rw [readOf_sm hE hsm] at h; simp at h
 | true =>
  rw [readOf_tail hE hsm] at h
  have hj0 : 0 < j := by
   apply Classical.byContradiction
   intro hj
   have hj' : j = 0 := by omega
   have hd0 : digFrom s = 0 := by omega
   have := hE
   rw [hd0] at this
   by_cases h0 : 0 < s.size
   ·cases hst : stepC (hexAt s) sc0 (bt s 0) with
    | none => rw [scanAt_stop hst] at this; simp only [Prod.mk.injEq] at this; rw [← this.2] at hsm; simp [sc0] at hsm
    | some st' =>
     rw [scanAt_step h0 hst] at this
     have hg2 := scanFrom_good (hex := hexAt s) (s := s) (s.size - (0 + 1)) (0 + 1) st' ((scok0 _).step hst)
     rw [show scanFrom (hexAt s) s (s.size - (0 + 1)) (0 + 1) st' = (j, st) from this] at hg2
     have := hg2.2.1
     simp only at this
     omega
   ·rw [scanAt_end (by omega)] at this
    simp only [Prod.mk.injEq] at this
    rw [← this.2] at hsm
    simp [sc0] at hsm
  cases ht : tailAt (hexAt s) s j st.us with
  | none => rw [ht] at h; simp at h
  | some t =>
   obtain ⟨t1, t2, t3⟩ := t
   rw [ht] at h
   simp only [Option.map_some, Option.some.injEq] at h
   obtain ⟨b1, b2, b3, b4⟩ := tail_bounds ht (by omega)
   subst h
   exact ⟨g1, rfl, by omega, by simp only; omega, by simp only; omega, b3, b4, b2, by simp only; omega⟩

theorem ScOk.digs {st : Sc} (h : ScOk false st) : Digits st.ds := fun i hi => by
 have := h.digits (st.ds[i]) (List.getElem_mem hi)
 unfold dAt
 rw [List.getD_eq_getElem?_getD, List.getElem?_eq_getElem hi]
 simpa using this

theorem mant_zero {st : Sc} (h : ScOk false st) (h0 : mantOf false st.ds = 0) : st.ds = [] := by
 rcases h.first with e | e
 ·exact e
 ·exfalso
  rw [mant_pre] at h0
  by_cases hl : 0 < st.ds.length
  ·have h1 := (pre_head h.digs (min st.ds.length 19 - 1)).1
   rw [show min st.ds.length 19 - 1 + 1 = min st.ds.length 19 by omega, h0] at h1
   have h2 := ten_pos (min st.ds.length 19 - 1)
   have h3 : 1 * 10 ^ (min st.ds.length 19 - 1) ≤ dAt st.ds 0 * 10 ^ (min st.ds.length 19 - 1) := Nat.mul_le_mul_right _ (by omega)
   omega
  ·exact e (dAt_beyond (by omega))

theorem rung_dec {R : Read} (hx : R.hex = false) {A B : Nat} (hB : 0 < B) (h : Same R.st.ds (R.st.dp + R.ex) A B) : Rung A B (rungOf R) := by
 refine (rungOf_is R).congr (numB_pos R) hB ?_
 unfold numA numB
 rw [hx]
 exact h _ _ (by omega)

theorem same_num {R : Read} (hx : R.hex = false) : Same R.st.ds (R.st.dp + R.ex) (numA R) (numB R) := by
 unfold numA numB
 rw [hx]
 exact Same.self _ _

/-- Nothing but zeros was read. -/
theorem dec_zero {R : Read} (hx : R.hex = false) (h : ScOk R.hex R.st) (h0 : mantOf R.hex R.st.ds = 0) : rungOf R = 0 := by
 rw [hx] at h h0
 have he := mant_zero h h0
 have h1 : numA R = 0 := by unfold numA; rw [hx, he]; simp [dval, pre]
 have := rungOf_is R
 rw [h1] at this
 rcases this with ⟨_, h2⟩ | ⟨h2, _⟩
 ·exact h2
 ·omega

theorem exp_dec {R : Read} (hx : R.hex = false) (h0 : mantOf R.hex R.st.ds ≠ 0) : expOfRead R = R.st.dp + R.ex - (min R.st.ds.length 19 : Nat) := by
 unfold expOfRead
 rw [if_neg h0, hx]
 simp [cap]

theorem dec_exact {R : Read} (hx : R.hex = false) (h0 : mantOf R.hex R.st.ds ≠ 0) (ht : truncOf R.hex R.st.ds = false) : Rung (mantOf R.hex R.st.ds * 10 ^ (expOfRead R).toNat) (10 ^ (-(expOfRead R)).toNat) (rungOf R) := by
 have he := exp_dec hx h0
 rw [hx] at ht ⊢
 exact rung_dec hx (ten_pos _) (mant_exact ht _ _ he)

theorem dec_between {R : Read} (hx : R.hex = false) (h : ScOk R.hex R.st) (h0 : mantOf R.hex R.st.ds ≠ 0) {r1 r2 : Nat} (hr1 : Rung (mantOf R.hex R.st.ds * 10 ^ (expOfRead R).toNat) (10 ^ (-(expOfRead R)).toNat) r1)
  (hr2 : Rung ((mantOf R.hex R.st.ds + 1) * 10 ^ (expOfRead R).toNat) (10 ^ (-(expOfRead R)).toNat) r2) : r1 ≤ rungOf R ∧ rungOf R ≤ r2 := by
 have he := exp_dec hx h0
 rw [hx] at h hr1 hr2
 obtain ⟨b1, b2⟩ := mant_between h.digs (numB_pos R) _ _ he (same_num hx)
 exact ⟨hr1.mono (ten_pos _) (numB_pos R) b1 (rungOf_is R), (rungOf_is R).mono (numB_pos R) (ten_pos _) (Nat.le_of_lt b2) hr2⟩

theorem ten_over : ∀ N K : Nat, N = 1024 → K = 310 → 2 ^ N ≤ 10 ^ K := by
 rintro _ _ rfl rfl
 exact ten310'
theorem ten_under : ∀ M K : Nat, M = 1074 → K = 346 → 10 ^ 19 * 2 ^ (M + 1) < 10 ^ K := by
 rintro _ _ rfl rfl
 decide +kernel

theorem dec_over {R : Read} (hx : R.hex = false) (h : ScOk R.hex R.st) (h0 : mantOf R.hex R.st.ds ≠ 0) (hp : 310 < expOfRead R) : 9218868437227405312 ≤ rungOf R := by
 obtain ⟨r1, hr1⟩ := Rung.exists (mantOf R.hex R.st.ds * 10 ^ (expOfRead R).toNat) (ten_pos (-(expOfRead R)).toNat)
 obtain ⟨r2, hr2⟩ := Rung.exists ((mantOf R.hex R.st.ds + 1) * 10 ^ (expOfRead R).toNat) (ten_pos (-(expOfRead R)).toNat)
 have hb := (dec_between hx h h0 hr1 hr2).1
 have hz : (-(expOfRead R)).toNat = 0 := by omega
 have hm : 1 ≤ mantOf R.hex R.st.ds := by omega
 obtain ⟨K, hK, hp'⟩ : ∃ K : Nat, K = 310 ∧ K ≤ (expOfRead R).toNat := ⟨310, rfl, by omega⟩
 obtain ⟨N, hN⟩ : ∃ N : Nat, N = 1024 := ⟨_, rfl⟩
 have h3 := hr1.over_at hN (ten_pos _) (by
  rw [hz, Nat.pow_zero, Nat.one_mul]
  have h2 : 1 * 10 ^ (expOfRead R).toNat ≤ mantOf R.hex R.st.ds * 10 ^ (expOfRead R).toNat := Nat.mul_le_mul_right _ hm
  rw [Nat.one_mul] at h2
  exact Nat.le_trans (ten_over N K hN hK) (Nat.le_trans (Nat.pow_le_pow_right (by decide) hp') h2))
 have e : 2047 * 2 ^ 52 = 9218868437227405312 := by decide
 omega

theorem dec_under {R : Read} (hx : R.hex = false) (h : ScOk R.hex R.st) (h0 : mantOf R.hex R.st.ds ≠ 0) (hp : expOfRead R < -345) : rungOf R = 0 := by
 obtain ⟨r1, hr1⟩ := Rung.exists (mantOf R.hex R.st.ds * 10 ^ (expOfRead R).toNat) (ten_pos (-(expOfRead R)).toNat)
 obtain ⟨r2, hr2⟩ := Rung.exists ((mantOf R.hex R.st.ds + 1) * 10 ^ (expOfRead R).toNat) (ten_pos (-(expOfRead R)).toNat)
 have hb := (dec_between hx h h0 hr1 hr2).2
 have hm : mantOf R.hex R.st.ds < 10 ^ 19 := (mantOf_lt h.digits).2 hx
 have hA : 0 < (mantOf R.hex R.st.ds + 1) * 10 ^ (expOfRead R).toNat := Nat.mul_pos (by omega) (ten_pos _)
 obtain ⟨E, hE⟩ := IsLog.exists hA (ten_pos (-(expOfRead R)).toNat)
 have hz : (expOfRead R).toNat = 0 := by omega
 obtain ⟨K, hK, hp'⟩ : ∃ K : Nat, K = 346 ∧ K ≤ (-(expOfRead R)).toNat := ⟨346, rfl, by omega⟩
 obtain ⟨M, hM⟩ : ∃ M : Nat, M = 1074 := ⟨_, rfl⟩
 have hm' : mantOf R.hex R.st.ds + 1 ≤ 10 ^ 19 := by omega
 have h0 : r2 = 0 := hr2.unique (Rung.none_at hM (ten_pos _) hA (by
  rw [hz, Nat.pow_zero, Nat.mul_one]
  exact Nat.lt_of_le_of_lt (Nat.mul_le_mul_right _ hm') (Nat.lt_of_lt_of_le (ten_under M K hM hK) (Nat.pow_le_pow_right (by decide) hp'))) hE)
 omega

/-- The bounds of the exponent of what was read. -/
theorem exp_bounds {s : ByteArray} {R : Read} (h : ReadFacts s R) (hs : s.size ≤ 100000) : -1000000 ≤ expOfRead R ∧ expOfRead R ≤ 1000000 := by
 have h1 := h.ok.hi
 have h2 := h.lo
 have h3 := h.e1
 have h4 := h.e2
 have h5 := h.len
 unfold expOfRead
 split
 ·omega
 ·cases R.hex <;> simp [cap] <;> omega

end Go.Proofs.YtgolhmiocjpohaaGreatDoor

namespace Go.Proofs.YtgolhmiocjpohaaGreatDoor
open Go.RowKit Go.PlainAid

/-- The first octets of a text. -/
structure Head (s t : ByteArray) (n : Nat) : Prop where
 size : t.size = n
 le : n ≤ s.size
 at' : ∀ i, i < n → bt t i = bt s i

theorem Head.of {s : ByteArray} {n : Nat} (h : n ≤ s.size) : Head s (s.extract 0 n) n := by
 refine ⟨by simp; omega, h, fun i hi => ?_⟩
 unfold bt
 rw [dif_pos (by simp; omega), dif_pos (by omega)]
 simp [ByteArray.getElem_extract]

theorem scan_pre {hex : Bool} {s t : ByteArray} {n j1 : Nat} {st1 : Sc} (ht : Head s t n) (hn : j1 ≤ n) : ∀ (m j : Nat) (st : Sc), ScOk hex st → m = s.size - j → j ≤ s.size → scanFrom hex s m j st = (j1, st1) → scanFrom hex t (n - j) j st = (j1, st1) := by
 intro m
 induction m with
 | zero =>
  intro j st hok hm hj h
  have h' := h
  simp only [scanFrom, Prod.mk.injEq] at h'
  have := ht.le
  rw [show n - j = 0 by omega]
  exact h
 | succ m ih =>
  intro j st hok hm hj h
  have hlen := ht.le
  rw [scanFrom] at h
  cases hs : stepC hex st (bt s j) with
  | none =>
   rw [hs] at h
   simp only [Prod.mk.injEq] at h
   obtain ⟨e1, e2⟩ := h
   by_cases hlt : j < n
   ·rw [show n - j = (n - j - 1) + 1 by omega, scanFrom, ht.at' j hlt, hs]
    simp only [e1, e2]
   ·rw [show n - j = 0 by omega, scanFrom, e1, e2]
  | some st' =>
   rw [hs] at h
   simp only at h
   have hg := scanFrom_good (hex := hex) (s := s) m (j + 1) st' (hok.step hs)
   rw [h] at hg
   have hj1 := hg.2.1
   simp only at hj1
   rw [show n - j = (n - (j + 1)) + 1 by omega, scanFrom, ht.at' j (by omega), hs]
   exact ih (j + 1) st' (hok.step hs) (by omega) (by omega) h

theorem exp_pre {s t : ByteArray} {n : Nat} {r : Nat × Nat × Bool} (ht : Head s t n) (hn : r.1 = n) : ∀ (m j e : Nat) (us : Bool), e ≤ 99999 → m = s.size - j → j ≤ s.size → expFrom s m j e us = r → expFrom t (n - j) j e us = r := by
 intro m
 induction m with
 | zero =>
  intro j e us he hm hj h
  have hlen := ht.le
  have h1 : j = r.1 := by rw [← h]; rfl
  rw [show n - j = 0 by omega]
  exact h
 | succ m ih =>
  intro j e us he hm hj h
  have hlen := ht.le
  have hb := expFrom_bound (s := s) (m + 1) j e us he
  rw [h] at hb
  by_cases hlt : j < n
  ·rw [expFrom] at h
   rw [show n - j = (n - (j + 1)) + 1 by omega, expFrom, ht.at' j hlt]
   by_cases h1 : 48 ≤ bt s j ∧ bt s j ≤ 57
   ·rw [if_pos h1] at h ⊢
    exact ih (j + 1) _ us (by split <;> omega) (by omega) (by omega) h
   ·rw [if_neg h1] at h ⊢
    by_cases h2 : bt s j = 95
    ·rw [if_pos h2] at h ⊢
     exact ih (j + 1) e true he (by omega) (by omega) h
    ·rw [if_neg h2] at h ⊢
     exact h
  ·have hjn : j = n := by omega
   rw [expFrom] at h
   rw [show n - j = 0 by omega, expFrom]
   by_cases h1 : 48 ≤ bt s j ∧ bt s j ≤ 57
   ·rw [if_pos h1] at h
    have hb2 := expFrom_bound (s := s) m (j + 1) (if e < 10000 then e * 10 + (bt s j - 48).toNat else e) us (by split <;> omega)
    rw [h] at hb2
    omega
   ·rw [if_neg h1] at h
    by_cases h2 : bt s j = 95
    ·rw [if_pos h2] at h
     have hb2 := expFrom_bound (s := s) m (j + 1) e true he
     rw [h] at hb2
     omega
    ·rw [if_neg h2] at h
     exact h

theorem tail_pre {s t : ByteArray} {n j : Nat} {us us' : Bool} {ex : Int} (ht : Head s t n) (hj : j ≤ s.size) (h : tailAt false s j us = some (n, ex, us')) : tailAt false t j us = some (n, ex, us') := by
 have hlen := ht.le
 by_cases h1 : j < s.size ∧ lowB (bt s j) = (if false then 112 else 101)
 ·by_cases h2 : expFromAt s j < s.size ∧ 48 ≤ bt s (expFromAt s j) ∧ bt s (expFromAt s j) ≤ 57
  ·obtain ⟨r, hr⟩ : ∃ r, expAt s (expFromAt s j) 0 us = r := ⟨_, rfl⟩
   obtain ⟨r1, r2, r3⟩ := r
   rw [tail_good h1 h2 hr] at h
   simp only [Option.some.injEq, Prod.mk.injEq] at h
   obtain ⟨e1, e2, e3⟩ := h
   have hr' := hr
   rw [expAt_digit h2.1 h2.2] at hr'
   have hb := expFrom_bound (s := s) (s.size - (expFromAt s j + 1)) (expFromAt s j + 1) (if (0:Nat) < 10000 then 0 * 10 + (bt s (expFromAt s j) - 48).toNat else 0) us (by split <;> omega)
   rw [show expFrom s (s.size - (expFromAt s j + 1)) (expFromAt s j + 1) (if (0:Nat) < 10000 then 0 * 10 + (bt s (expFromAt s j) - 48).toNat else 0) us = (r1, r2, r3) from hr'] at hb
   have hf : j < expFromAt s j := by unfold expFromAt; split <;> omega
   simp only at hb
   have hfe : expFromAt t j = expFromAt s j := by
    have hx := hb.2.1
    unfold expFromAt at hx ⊢
    rw [ht.size]
    by_cases hc : j + 1 < s.size ∧ (bt s (j + 1) = 43 ∨ bt s (j + 1) = 45)
    ·rw [if_pos hc] at hx ⊢
     rw [ht.at' (j + 1) (by omega), if_pos ⟨by omega, hc.2⟩]
    ·rw [if_neg hc] at hx ⊢
     by_cases hl : j + 1 < n
     ·rw [ht.at' (j + 1) hl, if_neg (fun hh => hc ⟨by omega, hh.2⟩)]
     ·rw [if_neg (fun hh => hl hh.1)]
   have hne : expNeg t j = expNeg s j := by
    unfold expNeg
    rw [ht.size, ht.at' (j + 1) (by omega)]
    congr 1
    exact propext ⟨fun hh => ⟨by omega, hh.2⟩, fun hh => ⟨by omega, hh.2⟩⟩
   have h1' : j < t.size ∧ lowB (bt t j) = (if false then 112 else 101) := ⟨by rw [ht.size]; omega, by rw [ht.at' j (by omega)]; exact h1.2⟩
   have h2' : expFromAt t j < t.size ∧ 48 ≤ bt t (expFromAt t j) ∧ bt t (expFromAt t j) ≤ 57 := by
    rw [hfe, ht.size, ht.at' _ (by omega)]
    exact ⟨by omega, h2.2⟩
   have hre : expAt t (expFromAt t j) 0 us = (r1, r2, r3) := by
    rw [hfe]
    unfold expAt
    rw [ht.size]
    exact exp_pre ht e1 _ _ 0 us (by omega) rfl (by omega) hr
   rw [tail_good h1' h2' hre, hne, e2, e1, e3]
  ·rw [tail_bad h1 h2] at h; simp at h
 ·have hjn : j = n := by
   rw [tail_none h1] at h
   simp only [Bool.false_eq_true, if_false, Option.some.injEq, Prod.mk.injEq] at h
   exact h.1
  rw [tail_none h1] at h
  rw [tail_none (by rw [ht.size]; omega)]
  exact h

theorem head_sign {s t : ByteArray} {n : Nat} (ht : Head s t n) (h0 : 0 < n) : signLen t = signLen s ∧ negB t = negB s := by
 have hl := ht.le
 have h1 := ht.at' 0 h0
 have h2 := ht.size
 unfold signLen negB
 rw [h1, h2]
 constructor
 ·by_cases h : bt s 0 = 43 ∨ bt s 0 = 45
  ·rw [if_pos ⟨h0, h⟩, if_pos ⟨by omega, h⟩]
  ·rw [if_neg (fun h' => h h'.2), if_neg (fun h' => h h'.2)]
 ·congr 1
  exact propext ⟨fun hh => ⟨by omega, hh.2⟩, fun hh => ⟨h0, hh.2⟩⟩

/-- A decimal number's text, cut behind the number. -/
structure CutText (s t : ByteArray) (R : Read) : Prop where
 size : t.size = R.stop
 pos : 0 < t.size
 hex : hexAt t = false
 read : readOf t = some R
 neg : negB t = negB s

theorem read_cut {s : ByteArray} {R : Read} (h : readOf s = some R) (hx : R.hex = false) : CutText s (s.extract 0 R.stop) R := by
 have hf := read_facts h
 have ht := Head.of hf.stop
 have hn0 := hf.stop0
 obtain ⟨t, htt⟩ : ∃ t, t = s.extract 0 R.stop := ⟨_, rfl⟩
 rw [← htt] at ht ⊢
 have hxs : hexAt s = false := by rw [← hf.hex]; exact hx
 obtain ⟨hs1, hs2⟩ := head_sign ht hn0
 have hxt : hexAt t = false := by
  apply Classical.byContradiction
  intro hc
  have hc' : hexAt t = true := by simpa using hc
  obtain ⟨c1, c2, c3⟩ := hex_sizes hc'
  rw [ht.size, hs1] at c1
  rw [hs1, ht.at' _ (by omega)] at c2 c3
  have : hexAt s = true := by
   unfold hexAt
   exact decide_eq_true ⟨by have := ht.le; omega, c2, c3⟩
  rw [hxs] at this
  simp at this
 refine ⟨ht.size, by rw [ht.size]; exact hn0, hxt, ?_, hs2⟩
 obtain ⟨E, hE⟩ : ∃ E, scanAt (hexAt s) s (digFrom s) sc0 = E := ⟨_, rfl⟩
 obtain ⟨j, st⟩ := E
 have hd := dig_le s
 have hdt : digFrom t = digFrom s := by unfold digFrom; rw [hxt, hxs, hs1]
 cases hsm : st.sm with
 | false => rw [readOf_sm hE hsm] at h; simp at h
 | true =>
  have hg := scanFrom_good (hex := hexAt s) (s := s) (s.size - digFrom s) (digFrom s) sc0 (scok0 _)
  rw [show scanFrom (hexAt s) s (s.size - digFrom s) (digFrom s) sc0 = (j, st) from hE] at hg
  obtain ⟨g1, g2, g3, g4, g5⟩ := hg
  simp only at g2 g3
  rw [readOf_tail hE hsm] at h
  cases hta : tailAt (hexAt s) s j st.us with
  | none => rw [hta] at h; simp at h
  | some r =>
   obtain ⟨t1, t2, t3⟩ := r
   rw [hta] at h
   simp only [Option.map_some, Option.some.injEq] at h
   obtain ⟨b1, b2, b3, b4⟩ := tail_bounds hta (by omega)
   have hstop : R.stop = t1 := by rw [← h]
   rw [hstop] at ht
   rw [hxs] at hE hta
   have hE' : scanAt (hexAt t) t (digFrom t) sc0 = (j, st) := by
    rw [hxt, hdt]
    unfold scanAt
    rw [ht.size]
    exact scan_pre ht b1 _ _ sc0 (scok0 _) rfl hd hE
   rw [readOf_tail hE' hsm, hxt, tail_pre ht (by omega) hta, ← h, hxs]
   rfl

end Go.Proofs.YtgolhmiocjpohaaGreatDoor
