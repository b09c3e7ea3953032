/- How two cells stand by a rule of sorting, as plain functions over texts, floats' bits and modes. No condition. Decimals as plain numbers: digits, what they spell, and a value as a quotient of whole numbers. No condition. Halving and doubling a decimal, digit by digit: the plain steps. No condition. The nearest floats of whole numbers below 2 to the power 53: their bits, and how they stand to each other. No condition. Rounding a quotient to the nearest whole number, between two to the even one; a decimal's value by a power of two. Plain. -/
import Derived.Laws.Cover2
import Derived.Laws.Cover1
set_option linter.unusedVariables false
set_option linter.unusedSimpArgs false
namespace Go.Proofs.YtgolhmiocjpohaaGreatDoor

def fEq (x y : Nat) : Bool := FloatKind.f64.format.order x y == some .eq
def fLt (x y : Nat) : Bool := FloatKind.f64.format.order x y == some .lt
def fGt (x y : Nat) : Bool := FloatKind.f64.format.order x y == some .gt
def sEq (a b : ByteArray) : Bool := a.toList == b.toList
end Go.Proofs.YtgolhmiocjpohaaGreatDoor

namespace Go.Proofs.YtgolhmiocjpohaaGreatDoor

/-- The i-th digit of a list (0 beyond it). -/
def dAt (ds : List Nat) (i : Nat) : Nat := ds.getD i 0

/-- The number that the first n digits spell (zeros beyond the list's end). -/
def pre (ds : List Nat) : Nat → Nat
 | 0 => 0
 | n + 1 => pre ds n * 10 + dAt ds n

/-- The number that all digits spell. -/
def dval (ds : List Nat) : Nat := pre ds ds.length

def Digits (ds : List Nat) : Prop := ∀ i, i < ds.length → dAt ds i < 10

theorem dAt_beyond {ds : List Nat} {i : Nat} (h : ds.length ≤ i) : dAt ds i = 0 := by simp [dAt, h]

theorem Digits.all {ds : List Nat} (h : Digits ds) (i : Nat) : dAt ds i < 10 := by
 by_cases hi : i < ds.length
 ·exact h i hi
 ·rw [dAt_beyond (by omega)]; omega

theorem pre_congr {xs ys : List Nat} : ∀ n, (∀ i, i < n → dAt xs i = dAt ys i) → pre xs n = pre ys n
 | 0, _ => rfl
 | n + 1, h => by
  unfold pre
  rw [pre_congr n (fun i hi => h i (by omega)), h n (by omega)]

theorem dAt_snoc (xs : List Nat) (d i : Nat) : dAt (xs ++ [d]) i = if i < xs.length then dAt xs i else if i = xs.length then d else 0 := by
 unfold dAt
 rw [List.getD_eq_getElem?_getD, List.getD_eq_getElem?_getD, List.getElem?_append]
 split
 ·rfl
 ·split
  ·rename_i h1 h2; subst h2; simp
  ·rename_i h1 h2
   rw [List.getElem?_eq_none (by simp; omega)]
   rfl

theorem dval_nil : dval [] = 0 := rfl

theorem dval_snoc (xs : List Nat) (d : Nat) : dval (xs ++ [d]) = dval xs * 10 + d := by
 unfold dval
 rw [List.length_append, List.length_singleton]
 show pre (xs ++ [d]) xs.length * 10 + dAt (xs ++ [d]) xs.length = _
 rw [pre_congr (ys := xs) xs.length (fun i hi => by rw [dAt_snoc, if_pos hi]), dAt_snoc, if_neg (by omega), if_pos rfl]

theorem Digits.snoc {xs : List Nat} {d : Nat} (h : Digits xs) (hd : d < 10) : Digits (xs ++ [d]) := by
 intro i hi
 rw [dAt_snoc]
 split
 ·rename_i h1; exact h i h1
 ·split <;> omega

theorem pre_beyond (ds : List Nat) : ∀ j, pre ds (ds.length + j) = dval ds * 10 ^ j
 | 0 => by simp [dval]
 | j + 1 => by
  show pre ds (ds.length + j) * 10 + dAt ds (ds.length + j) = _
  rw [pre_beyond ds j, dAt_beyond (by omega), Nat.pow_succ]
  rw [Nat.add_zero, Nat.mul_assoc]

theorem pre_ge {ds : List Nat} {i : Nat} (h : ds.length ≤ i) : pre ds i = dval ds * 10 ^ (i - ds.length) := by
 have := pre_beyond ds (i - ds.length)
 rwa [show ds.length + (i - ds.length) = i from by omega] at this

theorem pre_le {ds : List Nat} {i : Nat} : ∀ j, i ≤ j → pre ds i * 10 ^ (j - i) ≤ pre ds j
 | 0, h => by
  have : i = 0 := by omega
  subst this
  simp
 | j + 1, h => by
  by_cases e : i = j + 1
  ·subst e; simp
  ·have := pre_le (ds := ds) (i := i) j (by omega)
   rw [show j + 1 - i = (j - i) + 1 from by omega, Nat.pow_succ, ← Nat.mul_assoc]
   show _ ≤ pre ds j * 10 + dAt ds j
   omega

theorem pre_lt {ds : List Nat} (hd : Digits ds) : ∀ j, pre ds j < 10 ^ j
 | 0 => by simp [pre]
 | j + 1 => by
  have := pre_lt hd j
  have h1 := hd.all j
  show pre ds j * 10 + dAt ds j < _
  rw [Nat.pow_succ]
  omega

/-- The number of the first digit bounds what follows. -/
theorem pre_head {ds : List Nat} (hd : Digits ds) : ∀ j, dAt ds 0 * 10 ^ j ≤ pre ds (j + 1) ∧ pre ds (j + 1) < (dAt ds 0 + 1) * 10 ^ j
 | 0 => by simp [pre]
 | j + 1 => by
  have ⟨h1, h2⟩ := pre_head hd j
  have h3 := hd.all (j + 1)
  have e : pre ds (j + 1 + 1) = pre ds (j + 1) * 10 + dAt ds (j + 1) := rfl
  rw [e, Nat.pow_succ, ← Nat.mul_assoc, ← Nat.mul_assoc]
  omega

/-- Digits without a zero at either end, at least one. -/
structure Canon (ds : List Nat) : Prop where
 digits : Digits ds
 pos : 0 < ds.length
 first : dAt ds 0 ≠ 0
 last : dAt ds (ds.length - 1) ≠ 0

/-- What 0.d1d2d3.. times 10 to the power dp is: A through B. -/
def Same (ds : List Nat) (dp : Int) (A B : Nat) : Prop := ∀ p q : Nat, (p : Int) - q = dp - ds.length → dval ds * 10 ^ p * B = A * 10 ^ q

theorem Same.of {ds : List Nat} {dp : Int} {A B : Nat} (p q : Nat) (h : (p : Int) - q = dp - ds.length) (he : dval ds * 10 ^ p * B = A * 10 ^ q) : Same ds dp A B := by
 intro p' q' h'
 by_cases hp : p ≤ p'
 ·obtain ⟨c, rfl⟩ : ∃ c, p' = p + c := ⟨p' - p, by omega⟩
  have : q' = q + c := by omega
  subst this
  rw [Nat.pow_add, Nat.pow_add, ← Nat.mul_assoc, ← Nat.mul_assoc, ← he]
  rw [Nat.mul_assoc (dval ds * 10 ^ p) (10 ^ c) B, Nat.mul_comm (10 ^ c) B, ← Nat.mul_assoc]
 ·obtain ⟨c, rfl⟩ : ∃ c, p = p' + c := ⟨p - p', by omega⟩
  have : q = q' + c := by omega
  subst this
  rw [Nat.pow_add, Nat.pow_add, ← Nat.mul_assoc, ← Nat.mul_assoc, Nat.mul_assoc (dval ds * 10 ^ p') (10 ^ c) B, Nat.mul_comm (10 ^ c) B, ← Nat.mul_assoc] at he
  exact Nat.eq_of_mul_eq_mul_right (Nat.pow_pos (by omega)) he

theorem Canon.dval_ge {ds : List Nat} (h : Canon ds) : 10 ^ (ds.length - 1) ≤ dval ds := by
 obtain ⟨n, hn⟩ : ∃ n, ds.length = n + 1 := ⟨ds.length - 1, by have := h.pos; omega⟩
 have h1 := (pre_head h.digits n).1
 unfold dval
 rw [hn, Nat.add_sub_cancel]
 refine Nat.le_trans ?_ h1
 have h2 : 1 ≤ dAt ds 0 := by have := h.first; omega
 calc 10 ^ n = 1 * 10 ^ n := (Nat.one_mul _).symm
  _ ≤ _ := Nat.mul_le_mul_right _ h2

theorem dval_lt {ds : List Nat} (h : Digits ds) : dval ds < 10 ^ ds.length := pre_lt h _

theorem Canon.dval_pos {ds : List Nat} (h : Canon ds) : 0 < dval ds := Nat.lt_of_lt_of_le (Nat.pow_pos (by omega)) h.dval_ge

theorem ten_pos (n : Nat) : 0 < 10 ^ n := Nat.pow_pos (by omega)

/-- At least 1, if the point lies behind a digit: more precisely. -/
theorem Same.ge {ds : List Nat} {dp : Int} {A B : Nat} (h : Same ds dp A B) (hc : Canon ds) {n : Nat} (hn : dp = n + 1) : 10 ^ n * B ≤ A := by
 have h1 := h n (ds.length - 1) (by have := hc.pos; omega)
 have h2 := hc.dval_ge
 have h3 : 10 ^ (ds.length - 1) * (10 ^ n * B) ≤ 10 ^ (ds.length - 1) * A := by
  rw [Nat.mul_comm _ A, ← h1, Nat.mul_assoc]
  exact Nat.mul_le_mul_right _ h2
 exact Nat.le_of_mul_le_mul_left h3 (ten_pos _)

/-- Below 10 to the power dp. -/
theorem Same.lt {ds : List Nat} {dp : Int} {A B : Nat} (h : Same ds dp A B) (hd : Digits ds) (hB : 0 < B) {n m : Nat} (hn : dp = (n : Int) - m) : A * 10 ^ m < 10 ^ n * B := by
 have h1 := h n (ds.length + m) (by omega)
 have h2 := dval_lt hd
 have h3 : 10 ^ ds.length * (A * 10 ^ m) < 10 ^ ds.length * (10 ^ n * B) := by
  have e1 : 10 ^ ds.length * (A * 10 ^ m) = dval ds * 10 ^ n * B := by
   rw [h1, Nat.pow_add]
   rw [Nat.mul_left_comm]
  rw [e1, Nat.mul_assoc]
  exact Nat.mul_lt_mul_of_pos_right h2 (Nat.mul_pos (ten_pos _) hB)
 exact Nat.lt_of_mul_lt_mul_left h3

/-- With the point ahead of the first digit: this is below a half as the digit is below 5. -/
theorem Same.half_lt {ds : List Nat} {A B : Nat} (h : Same ds 0 A B) (hc : Canon ds) (hB : 0 < B) (h5 : dAt ds 0 < 5) : 2 * A < B := by
 obtain ⟨n, hn⟩ : ∃ n, ds.length = n + 1 := ⟨ds.length - 1, by have := hc.pos; omega⟩
 have h1 := h 0 (n + 1) (by omega)
 have h2 := (pre_head hc.digits n).2
 have h3 : dval ds < 5 * 10 ^ n := by
  unfold dval
  rw [hn]
  exact Nat.lt_of_lt_of_le h2 (Nat.mul_le_mul_right _ (by omega))
 rw [Nat.pow_zero, Nat.mul_one, Nat.pow_succ] at h1
 have h4 : 5 * 10 ^ n * (2 * A) < 5 * 10 ^ n * B := by
  have e1 : 5 * 10 ^ n * (2 * A) = A * (10 ^ n * 10) := by
   rw [Nat.mul_comm (5 * 10 ^ n) (2 * A), Nat.mul_comm 2 A, Nat.mul_assoc]
   congr 1
   omega
  rw [e1, ← h1]
  exact Nat.mul_lt_mul_of_pos_right h3 hB
 exact Nat.lt_of_mul_lt_mul_left h4

theorem Same.half_ge {ds : List Nat} {A B : Nat} (h : Same ds 0 A B) (hc : Canon ds) (h5 : 5 ≤ dAt ds 0) : B ≤ 2 * A := by
 obtain ⟨n, hn⟩ : ∃ n, ds.length = n + 1 := ⟨ds.length - 1, by have := hc.pos; omega⟩
 have h1 := h 0 (n + 1) (by omega)
 have h2 := (pre_head hc.digits n).1
 have h3 : 5 * 10 ^ n ≤ dval ds := by
  unfold dval
  rw [hn]
  exact Nat.le_trans (Nat.mul_le_mul_right _ h5) h2
 rw [Nat.pow_zero, Nat.mul_one, Nat.pow_succ] at h1
 have h4 : 5 * 10 ^ n * B ≤ 5 * 10 ^ n * (2 * A) := by
  have e1 : 5 * 10 ^ n * (2 * A) = A * (10 ^ n * 10) := by
   rw [Nat.mul_comm (5 * 10 ^ n) (2 * A), Nat.mul_comm 2 A, Nat.mul_assoc]
   congr 1
   omega
  rw [e1, ← h1]
  exact Nat.mul_le_mul_right _ h3
 exact Nat.le_of_mul_le_mul_left h4 (Nat.mul_pos (by omega) (ten_pos _))

theorem Same.double {ds ds' : List Nat} {dp dp' : Int} {A B k : Nat} (h : Same ds dp A B) (hv : dval ds' = dval ds * 2 ^ k) (hp : dp' - ds'.length = dp - ds.length) : Same ds' dp' (A * 2 ^ k) B := by
 intro p q he
 have h1 := h p q (by omega)
 calc dval ds' * 10 ^ p * B = dval ds * 10 ^ p * B * 2 ^ k := by rw [hv]; ac_rfl
  _ = A * 10 ^ q * 2 ^ k := by rw [h1]
  _ = A * 2 ^ k * 10 ^ q := by ac_rfl

theorem Same.halve {ds ds' : List Nat} {dp dp' : Int} {A B k e : Nat} (h : Same ds dp A B) (hv : 10 * 2 ^ k * dval ds' = dval ds * 10 ^ e) (hp : dp' - ds'.length = dp + 1 - ds.length - e) : Same ds' dp' A (B * 2 ^ k) := by
 intro p q he
 have h1 := h (p + e) (q + 1) (by omega)
 rw [Nat.pow_add, Nat.pow_succ] at h1
 have h2 : 10 * (dval ds' * 10 ^ p * (B * 2 ^ k)) = 10 * (A * 10 ^ q) := by
  calc 10 * (dval ds' * 10 ^ p * (B * 2 ^ k)) = (10 * 2 ^ k * dval ds') * (10 ^ p * B) := by ac_rfl
   _ = (dval ds * 10 ^ e) * (10 ^ p * B) := by rw [hv]
   _ = dval ds * (10 ^ p * 10 ^ e) * B := by ac_rfl
   _ = A * (10 ^ q * 10) := h1
   _ = 10 * (A * 10 ^ q) := by ac_rfl
 omega

/-- The zeros at the end cut off. -/
structure Trimmed (ds es : List Nat) : Prop where
 take : ∃ m, m ≤ ds.length ∧ es = ds.take m ∧ (∀ i, m ≤ i → i < ds.length → dAt ds i = 0) ∧ (m = 0 ∨ dAt ds (m - 1) ≠ 0)

theorem dAt_take (ds : List Nat) (m i : Nat) : dAt (ds.take m) i = if i < m then dAt ds i else 0 := by
 unfold dAt
 rw [List.getD_eq_getElem?_getD, List.getD_eq_getElem?_getD, List.getElem?_take]
 split <;> rfl

theorem pre_zeros {ds : List Nat} {m : Nat} : ∀ j, (∀ i, m ≤ i → i < m + j → dAt ds i = 0) → pre ds (m + j) = pre ds m * 10 ^ j
 | 0, _ => by simp
 | j + 1, h => by
  show pre ds (m + j) * 10 + dAt ds (m + j) = _
  rw [pre_zeros j (fun i h1 h2 => h i h1 (by omega)), h (m + j) (by omega) (by omega), Nat.pow_succ, Nat.mul_assoc, Nat.add_zero]

theorem Trimmed.dval {ds es : List Nat} (h : Trimmed ds es) : es.length ≤ ds.length ∧ dval ds = YtgolhmiocjpohaaGreatDoor.dval es * 10 ^ (ds.length - es.length) := by
 obtain ⟨m, hm, rfl, hz, _⟩ := h.take
 have hl : (ds.take m).length = m := by simp; omega
 refine ⟨by omega, ?_⟩
 have h1 := pre_zeros (ds := ds) (m := m) (ds.length - m) (fun i h1 h2 => hz i h1 (by omega))
 rw [show m + (ds.length - m) = ds.length from by omega] at h1
 unfold YtgolhmiocjpohaaGreatDoor.dval
 rw [hl, h1]
 congr 1
 exact pre_congr m (fun i hi => by rw [dAt_take, if_pos hi])

theorem Trimmed.canon {ds es : List Nat} (h : Trimmed ds es) (hd : Digits ds) (hf : dAt ds 0 ≠ 0) (hl : 0 < ds.length) : Canon es := by
 obtain ⟨m, hm, rfl, hz, hlast⟩ := h.take
 have hlen : (ds.take m).length = m := by simp; omega
 have hm0 : 0 < m := by
  apply Classical.byContradiction
  intro h0
  exact hf (hz 0 (by omega) hl)
 refine ⟨fun i hi => ?_, by omega, ?_, ?_⟩
 ·rw [dAt_take]
  split
  ·exact hd.all i
  ·omega
 ·rw [dAt_take, if_pos hm0]; exact hf
 ·rw [hlen, dAt_take, if_pos (by omega)]
  rcases hlast with h0 | h0
  ·omega
  ·exact h0

theorem Same.trim {ds es : List Nat} {dp : Int} {A B : Nat} (h : Same ds dp A B) (ht : Trimmed ds es) : Same es dp A B := by
 obtain ⟨hl, hv⟩ := ht.dval
 intro p q he
 have h1 := h p (q + (ds.length - es.length)) (by omega)
 rw [hv, Nat.pow_add] at h1
 have h2 : (dval es * 10 ^ p * B) * 10 ^ (ds.length - es.length) = (A * 10 ^ q) * 10 ^ (ds.length - es.length) := by
  calc (dval es * 10 ^ p * B) * 10 ^ (ds.length - es.length) = dval es * 10 ^ (ds.length - es.length) * 10 ^ p * B := by ac_rfl
   _ = A * (10 ^ q * 10 ^ (ds.length - es.length)) := h1
   _ = (A * 10 ^ q) * 10 ^ (ds.length - es.length) := by ac_rfl
 exact Nat.eq_of_mul_eq_mul_right (ten_pos _) h2

end Go.Proofs.YtgolhmiocjpohaaGreatDoor

namespace Go.Proofs.YtgolhmiocjpohaaGreatDoor

theorem two_pow_59 {k : Nat} (h : k ≤ 59) : 2 ^ k ≤ 576460752303423488 := by
 have : (2:Nat) ^ k ≤ 2 ^ 59 := Nat.pow_le_pow_right (by omega) h
 exact this

/-- How many digits make the first one. -/
theorem half_places {ds : List Nat} (hd : Digits ds) (hf : dAt ds 0 ≠ 0) {k i : Nat} (hk : k ≤ 59) (h : pre ds i < 2 ^ k) : i ≤ 18 := by
 apply Classical.byContradiction
 intro hn
 obtain ⟨j, rfl⟩ : ∃ j, i = j + 1 := ⟨i - 1, by omega⟩
 have h1 := (pre_head hd j).1
 have h2 : 10 ^ 18 ≤ 10 ^ j := Nat.pow_le_pow_right (by omega) (by omega)
 have h3 := two_pow_59 hk
 have h4 : 1 * 10 ^ j ≤ dAt ds 0 * 10 ^ j := Nat.mul_le_mul_right _ (by omega)
 omega

/-- A half's state: what is written, what is left. -/
structure Halving (ds : List Nat) (k i : Nat) (out : List Nat) (n : Nat) : Prop where
 eq : 10 * 2 ^ k * dval out + n = pre ds i
 lt : n < 10 * 2 ^ k
 digits : Digits out
 div : ds.length ≤ i → 2 ^ (i - ds.length) ∣ n
 done : ds.length + k < i → n = 0

theorem Halving.start {ds : List Nat} (hd : Digits ds) (hpos : 0 < ds.length) (hf : dAt ds 0 ≠ 0) {k i : Nat} (hk : 0 < k) (h : pre ds i < 2 ^ k) : Halving ds k (i + 1) [] (pre ds (i + 1)) := by
 have hl := hd.all i
 have e : pre ds (i + 1) = pre ds i * 10 + dAt ds i := rfl
 have hlt : pre ds (i + 1) < 10 * 2 ^ k := by omega
 refine ⟨by simp [dval_nil], hlt, fun j hj => by simp at hj, fun hle => ?_, fun hlt2 => ?_⟩
 ·rw [pre_ge hle, show (10:Nat) = 2 * 5 from rfl, Nat.mul_pow]
  exact Nat.dvd_trans (Nat.dvd_mul_right _ _) (Nat.dvd_mul_left _ _)
 ·exfalso
  rw [pre_ge (by omega)] at hlt
  have h1 : 0 < dval ds := by
   obtain ⟨m, hm⟩ : ∃ m, ds.length = m + 1 := ⟨ds.length - 1, by omega⟩
   have := (pre_head hd m).1
   unfold dval
   rw [hm]
   have h4 : 1 * 10 ^ m ≤ dAt ds 0 * 10 ^ m := Nat.mul_le_mul_right _ (by omega)
   have := ten_pos m
   omega
  have h2 : 10 ^ (k + 1) ≤ 10 ^ (i + 1 - ds.length) := Nat.pow_le_pow_right (by omega) (by omega)
  have h3 : (10:Nat) ^ (k + 1) = 10 ^ k * 10 := Nat.pow_succ _ _
  have h4 : 2 ^ k ≤ 10 ^ k := Nat.pow_le_pow_left (by omega) k
  have h5 : 1 * 10 ^ (i + 1 - ds.length) ≤ dval ds * 10 ^ (i + 1 - ds.length) := Nat.mul_le_mul_right _ h1
  omega

theorem Halving.digit {ds : List Nat} {k i : Nat} {out : List Nat} {n : Nat} (h : Halving ds k i out n) : n / 2 ^ k < 10 := by
 rw [Nat.div_lt_iff_lt_mul (Nat.pow_pos (by omega))]
 exact h.lt

theorem Halving.step {ds : List Nat} (hd : Digits ds) {k i : Nat} {out : List Nat} {n : Nat} (h : Halving ds k i out n) :
  Halving ds k (i + 1) (out ++ [n / 2 ^ k]) (n % 2 ^ k * 10 + dAt ds i) := by
 have hl := hd.all i
 have hp : 0 < 2 ^ k := Nat.pow_pos (by omega)
 have hm : n % 2 ^ k < 2 ^ k := Nat.mod_lt _ hp
 have hdm : 2 ^ k * (n / 2 ^ k) + n % 2 ^ k = n := Nat.div_add_mod _ _
 refine ⟨?_, by omega, h.digits.snoc h.digit, fun hle => ?_, fun hlt => ?_⟩
 ·rw [dval_snoc]
  show _ = pre ds i * 10 + dAt ds i
  rw [← h.eq]
  generalize n / 2 ^ k = q at *
  generalize n % 2 ^ k = r at *
  subst hdm
  rw [Nat.mul_add, Nat.add_mul, Nat.add_mul]
  have e1 : 10 * 2 ^ k * (dval out * 10) = 10 * 2 ^ k * dval out * 10 := by ac_rfl
  have e2 : 10 * 2 ^ k * q = 2 ^ k * q * 10 := by ac_rfl
  omega
 ·by_cases he : i + 1 = ds.length
  ·rw [he, Nat.sub_self]; exact Nat.one_dvd _
  ·have h1 := h.div (by omega)
   rw [dAt_beyond (by omega), Nat.add_zero]
   rw [show i + 1 - ds.length = (i - ds.length) + 1 from by omega, Nat.pow_succ]
   by_cases hik : i - ds.length ≤ k
   ·have h2 : 2 ^ (i - ds.length) ∣ n % 2 ^ k := (Nat.dvd_mod_iff (Nat.pow_dvd_pow 2 hik)).2 h1
    exact Nat.mul_dvd_mul h2 ⟨5, rfl⟩
   ·have h2 : 2 ^ k ∣ n := Nat.dvd_trans (Nat.pow_dvd_pow 2 (by omega)) h1
    rw [Nat.mod_eq_zero_of_dvd h2, Nat.zero_mul]
    exact Nat.dvd_zero _
 ·have h1 := h.div (by omega)
  rw [dAt_beyond (by omega), Nat.add_zero]
  have h2 : 2 ^ k ∣ n := Nat.dvd_trans (Nat.pow_dvd_pow 2 (by omega)) h1
  rw [Nat.mod_eq_zero_of_dvd h2]

theorem Halving.end {ds : List Nat} {k i : Nat} {out : List Nat} (h : Halving ds k i out 0) (hi : ds.length ≤ i) : 10 * 2 ^ k * dval out = dval ds * 10 ^ (i - ds.length) := by
 rw [← pre_ge hi, ← h.eq, Nat.add_zero]

/-- Digits from the last one on. -/
def lval : List Nat → Nat
 | [] => 0
 | d :: ds => d + 10 * lval ds

theorem lval_snoc (ds : List Nat) (d : Nat) : lval (ds ++ [d]) = lval ds + d * 10 ^ ds.length := by
 induction ds with
 | nil => simp [lval]
 | cons x xs ih =>
  show x + 10 * lval (xs ++ [d]) = (x + 10 * lval xs) + d * 10 ^ (xs.length + 1)
  rw [ih, Nat.pow_succ, Nat.mul_add, ← Nat.mul_assoc d]
  omega

theorem dval_reverse (ds : List Nat) : dval ds.reverse = lval ds := by
 induction ds with
 | nil => rfl
 | cons x xs ih =>
  rw [List.reverse_cons, dval_snoc, ih]
  show _ = x + 10 * lval xs
  omega

/-- The number that the digits from i on spell. -/
def suf (ds : List Nat) (i : Nat) : Nat := dval (ds.drop i)

theorem suf_end (ds : List Nat) : suf ds ds.length = 0 := by simp [suf, dval_nil]
theorem suf_zero (ds : List Nat) : suf ds 0 = dval ds := by simp [suf]

theorem lval_append (xs ys : List Nat) : lval (xs ++ ys) = lval xs + lval ys * 10 ^ xs.length := by
 induction xs with
 | nil => simp [lval]
 | cons x xs ih =>
  show x + 10 * lval (xs ++ ys) = (x + 10 * lval xs) + lval ys * 10 ^ (xs.length + 1)
  rw [ih, Nat.pow_succ, Nat.mul_add, ← Nat.mul_assoc (lval ys)]
  omega

theorem dval_cons (x : Nat) (xs : List Nat) : dval (x :: xs) = x * 10 ^ xs.length + dval xs := by
 have h1 := dval_reverse (xs.reverse ++ [x])
 rw [List.reverse_append, List.reverse_singleton, List.reverse_reverse] at h1
 have h2 := dval_reverse xs.reverse
 rw [List.reverse_reverse] at h2
 rw [show x :: xs = [x] ++ xs from rfl, h1, lval_append, h2, List.length_reverse]
 simp [lval]
 omega

theorem suf_step (ds : List Nat) (i : Nat) (h : i < ds.length) : suf ds i = dAt ds i * 10 ^ (ds.length - (i + 1)) + suf ds (i + 1) := by
 unfold suf
 rw [List.drop_eq_getElem_cons h, dval_cons, List.length_drop]
 simp [dAt, h]

/-- A double's state: what is written, from the last digit on, and what is carried. -/
structure Doubling (ds : List Nat) (k : Nat) (out : List Nat) (n : Nat) : Prop where
 eq : lval out + n * 10 ^ out.length = suf ds (ds.length - out.length) * 2 ^ k
 lt : n < 2 ^ k
 digits : Digits out
 bound : ds.length ≤ out.length → n * 10 ^ (out.length - ds.length) < 2 ^ k
 size : out.length ≤ ds.length + 18
 top : ds.length ≤ out.length → 0 < out.length → 0 < n ∨ dAt out (out.length - 1) ≠ 0

theorem Doubling.start (ds : List Nat) (k : Nat) : Doubling ds k [] 0 :=
 ⟨by simp [lval, suf_end], Nat.pow_pos (by omega), fun j hj => by simp at hj, fun _ => by rw [Nat.zero_mul]; exact Nat.pow_pos (by omega), by simp, fun _ h => by simp at h⟩

theorem dAt_snoc_last (xs : List Nat) (d : Nat) : dAt (xs ++ [d]) ((xs ++ [d]).length - 1) = d := by
 rw [dAt_snoc, List.length_append, List.length_singleton, Nat.add_sub_cancel, if_neg (by omega), if_pos rfl]

/-- One more digit of the old ones. -/
theorem Doubling.step {ds : List Nat} (hd : Digits ds) (hf : dAt ds 0 ≠ 0) {k : Nat} {out : List Nat} {n : Nat} (h : Doubling ds k out n) (hl : out.length < ds.length) (n1 : Nat) (hn1 : n1 = n + dAt ds (ds.length - 1 - out.length) * 2 ^ k) :
  n1 < 10 * 2 ^ k ∧ Doubling ds k (out ++ [n1 % 10]) (n1 / 10) := by
 have h9 := hd.all (ds.length - 1 - out.length)
 have hlt := h.lt
 have hdk : dAt ds (ds.length - 1 - out.length) * 2 ^ k ≤ 9 * 2 ^ k := Nat.mul_le_mul_right _ (by omega)
 have hb : n1 < 10 * 2 ^ k := by omega
 have hl1 : (out ++ [n1 % 10]).length = out.length + 1 := by simp
 refine ⟨hb, ?_, by omega, h.digits.snoc (Nat.mod_lt _ (by omega)), fun hle => ?_, by rw [hl1]; omega, fun hle _ => ?_⟩
 ·have hs := suf_step ds (ds.length - 1 - out.length) (by omega)
  rw [show ds.length - 1 - out.length + 1 = ds.length - out.length from by omega, show ds.length - (ds.length - out.length) = out.length from by omega] at hs
  rw [hl1, show ds.length - (out.length + 1) = ds.length - 1 - out.length from by omega, hs, Nat.add_mul, ← h.eq, lval_snoc, Nat.pow_succ]
  have e1 : n1 / 10 * (10 ^ out.length * 10) = (10 * (n1 / 10)) * 10 ^ out.length := by ac_rfl
  have e2 : dAt ds (ds.length - 1 - out.length) * 10 ^ out.length * 2 ^ k = (dAt ds (ds.length - 1 - out.length) * 2 ^ k) * 10 ^ out.length := by ac_rfl
  rw [e1, e2]
  have e3 : n1 % 10 * 10 ^ out.length + 10 * (n1 / 10) * 10 ^ out.length = n1 * 10 ^ out.length := by
   rw [← Nat.add_mul]
   congr 1
   omega
  have e4 : n1 * 10 ^ out.length = n * 10 ^ out.length + dAt ds (ds.length - 1 - out.length) * 2 ^ k * 10 ^ out.length := by rw [hn1, Nat.add_mul]
  omega
 ·rw [hl1, show out.length + 1 - ds.length = 0 from by omega, Nat.pow_zero, Nat.mul_one]
  omega
 ·rw [dAt_snoc_last]
  have e0 : ds.length - 1 - out.length = 0 := by rw [hl1] at hle; omega
  rw [e0] at hn1
  have h1 : 1 * 2 ^ k ≤ dAt ds 0 * 2 ^ k := Nat.mul_le_mul_right _ (by omega)
  have h2 : 0 < 2 ^ k := Nat.pow_pos (by omega)
  omega

/-- One more digit of what is carried. -/
theorem Doubling.carry {ds : List Nat} {k : Nat} (hk : k ≤ 59) {out : List Nat} {n : Nat} (h : Doubling ds k out n) (hl : ds.length ≤ out.length) (hn : 0 < n) :
  Doubling ds k (out ++ [n % 10]) (n / 10) := by
 have hlt := h.lt
 have hl1 : (out ++ [n % 10]).length = out.length + 1 := by simp
 have hb := h.bound hl
 have h18 : out.length - ds.length < 18 := by
  apply Classical.byContradiction
  intro hge
  have h1 : 10 ^ 18 ≤ 10 ^ (out.length - ds.length) := Nat.pow_le_pow_right (by omega) (by omega)
  have h2 := two_pow_59 hk
  have h3 : 1 * 10 ^ (out.length - ds.length) ≤ n * 10 ^ (out.length - ds.length) := Nat.mul_le_mul_right _ hn
  omega
 refine ⟨?_, by omega, h.digits.snoc (Nat.mod_lt _ (by omega)), fun hle => ?_, by rw [hl1]; omega, fun hle _ => ?_⟩
 ·rw [hl1, show ds.length - (out.length + 1) = ds.length - out.length from by omega, ← h.eq, lval_snoc, Nat.pow_succ]
  have e1 : n / 10 * (10 ^ out.length * 10) = (10 * (n / 10)) * 10 ^ out.length := by ac_rfl
  rw [e1, Nat.add_assoc, ← Nat.add_mul]
  congr 2
  omega
 ·rw [hl1, show out.length + 1 - ds.length = (out.length - ds.length) + 1 from by omega, Nat.pow_succ]
  have e1 : n / 10 * (10 ^ (out.length - ds.length) * 10) = (10 * (n / 10)) * 10 ^ (out.length - ds.length) := by ac_rfl
  rw [e1]
  exact Nat.lt_of_le_of_lt (Nat.mul_le_mul_right _ (by omega)) hb
 ·rw [dAt_snoc_last]
  omega

theorem dAt_reverse (ds : List Nat) (i : Nat) (h : i < ds.length) : dAt ds.reverse i = dAt ds (ds.length - 1 - i) := by
 unfold dAt
 rw [List.getD_eq_getElem?_getD, List.getD_eq_getElem?_getD, List.getElem?_reverse h]

/-- What a double ends with. -/
theorem Doubling.end {ds : List Nat} {k : Nat} {out : List Nat} (h : Doubling ds k out 0) (hl : ds.length ≤ out.length) (hp : 0 < ds.length) :
  dval out.reverse = dval ds * 2 ^ k ∧ Digits out.reverse ∧ dAt out.reverse 0 ≠ 0 := by
 have he := h.eq
 rw [show ds.length - out.length = 0 from by omega, suf_zero, Nat.zero_mul, Nat.add_zero] at he
 refine ⟨by rw [dval_reverse, he], fun i hi => ?_, ?_⟩
 ·rw [dAt_reverse _ _ (by simpa using hi)]
  exact h.digits.all _
 ·rw [dAt_reverse _ _ (by omega)]
  rcases h.top hl (by omega) with h1 | h1
  ·omega
  ·rw [Nat.sub_zero]; exact h1

end Go.Proofs.YtgolhmiocjpohaaGreatDoor

namespace Go.Proofs.YtgolhmiocjpohaaGreatDoor

/-- The bits of a float: a sign and a whole number. -/
def fBits (neg : Bool) (n : Nat) : Nat := Ieee.Format.nearest Ieee.double neg n 0

/-- The rung of a whole number. -/
def fRung (n : Nat) : Nat := if n = 0 then 0 else (n.log2 + 1022) * 2 ^ 52 + n * 2 ^ (52 - n.log2)

theorem log2_le {n : Nat} (h0 : n ≠ 0) (h : n < 2 ^ 53) : n.log2 ≤ 52 := by
 have := (Nat.log2_lt h0).2 h
 omega

theorem log2_bounds {n : Nat} (h0 : n ≠ 0) : 2 ^ n.log2 ≤ n ∧ n < 2 ^ (n.log2 + 1) := ⟨Nat.log2_self_le h0, Nat.lt_log2_self⟩

theorem scaled {n : Nat} (h0 : n ≠ 0) (h : n < 2 ^ 53) : 2 ^ 52 ≤ n * 2 ^ (52 - n.log2) ∧ n * 2 ^ (52 - n.log2) < 2 ^ 53 := by
 have hl := log2_le h0 h
 obtain ⟨h1, h2⟩ := log2_bounds h0
 generalize n.log2 = e at *
 obtain ⟨d, hd⟩ : ∃ d, 52 = e + d := ⟨52 - e, by omega⟩
 rw [show 52 - e = d from by omega]
 constructor
 ·rw [show (2:Nat) ^ 52 = 2 ^ e * 2 ^ d from by rw [hd, Nat.pow_add]]
  exact Nat.mul_le_mul_right _ h1
 ·rw [show (2:Nat) ^ 53 = 2 ^ (e + 1) * 2 ^ d from by rw [show 53 = (e + 1) + d from by omega, Nat.pow_add]]
  exact Nat.mul_lt_mul_of_pos_right h2 (Nat.pow_pos (by omega))

theorem fRung_lt {n : Nat} (h : n < 2 ^ 53) : fRung n < 2 ^ 63 := by
 unfold fRung
 split
 ·omega
 ·rename_i h0
  have h1 := scaled h0 h
  have h2 := log2_le h0 h
  generalize n * 2 ^ (52 - n.log2) = m at *
  omega

theorem cut_nothing (neg : Bool) (m : Nat) : Ieee.Toward.even.cut neg m 0 = m := by
 unfold Ieee.Toward.cut
 rw [show min 0 (m.log2 + 2) = 0 from by omega]
 simp [Nat.mod_one]

theorem fBits_eq (neg : Bool) {n : Nat} (h : n < 2 ^ 53) : fBits neg n = (if neg then 2 ^ 63 else 0) + fRung n := by
 unfold fBits Ieee.Format.nearest fRung
 by_cases h0 : n = 0
 ·rw [if_pos h0, if_pos h0]
  cases neg <;> rfl
 ·rw [if_neg h0, if_neg h0]
  have hl := log2_le h0 h
  have hs := scaled h0 h
  have hlp : Ieee.double.leastPlace = -1074 := by decide
  have hfb : Ieee.double.fractionBits = 52 := rfl
  have hmax : max ((0 : Int) + (n.log2 : Nat) - (Ieee.double.fractionBits : Nat)) Ieee.double.leastPlace = (n.log2 : Int) - 52 := by
   rw [hlp, hfb]; omega
  simp only [hmax]
  rw [show ((0 : Int) - ((n.log2 : Int) - 52)).toNat = 52 - n.log2 from by omega, show ((n.log2 : Int) - 52 - 0).toNat = 0 from by omega, cut_nothing, Nat.shiftLeft_eq, hlp]
  rw [show ((n.log2 : Int) - 52 - (-1074)).toNat = n.log2 + 1022 from by omega]
  have hb : Ieee.double.binade = 2 ^ 52 := rfl
  have hi : Ieee.double.infRung = 2047 * 2 ^ 52 := by decide
  rw [hb, hi]
  rw [Nat.min_eq_left (by generalize n * 2 ^ (52 - n.log2) = m at *; omega)]
  cases neg
  ·simp [Ieee.Format.word]
  ·simp only [Ieee.Format.word, if_true]
   rw [show Ieee.double.signWeight = 2 ^ 63 from by decide]

/-- What such a float's bits stand for. -/
theorem read_fBits (neg : Bool) {n : Nat} (h : n < 2 ^ 53) : ∃ (m : Nat) (i : Int), Ieee.double.read (fBits neg n) = .number neg m i ∧ -1074 ≤ i ∧ i ≤ 0 ∧ ∀ b : Int, b ≤ i → b ≤ 0 → m * 2 ^ (i - b).toNat = n * 2 ^ (-b).toNat := by
 have hr := fRung_lt h
 rw [fBits_eq neg h]
 have hsw : Ieee.double.signWeight = 2 ^ 63 := by decide
 have hlp : Ieee.double.leastPlace = -1074 := by decide
 have hb : Ieee.double.binade = 2 ^ 52 := rfl
 have hi : Ieee.double.infRung = 2047 * 2 ^ 52 := by decide
 have hneg : (((if neg then 2 ^ 63 else 0) + fRung n) / Ieee.double.signWeight % 2 == 1) = neg := by
  rw [hsw]
  cases neg
  ·show ((0 + fRung n) / 2 ^ 63 % 2 == 1) = false
   have : (0 + fRung n) / 2 ^ 63 = 0 := by omega
   rw [this]; rfl
  ·show ((2 ^ 63 + fRung n) / 2 ^ 63 % 2 == 1) = true
   have : (2 ^ 63 + fRung n) / 2 ^ 63 = 1 := by omega
   rw [this]; rfl
 have hrung : ((if neg then 2 ^ 63 else 0) + fRung n) % Ieee.double.signWeight = fRung n := by
  rw [hsw]
  cases neg <;> simp <;> omega
 unfold Ieee.Format.read
 simp only [hneg, hrung]
 by_cases h0 : n = 0
 ·subst h0
  have hz : fRung 0 = 0 := rfl
  rw [hz, if_pos (by rw [hb]; omega)]
  exact ⟨0, _, rfl, by rw [hlp]; omega, by rw [hlp]; omega, fun b _ _ => by simp⟩
 ·have hl := log2_le h0 h
  have hs := scaled h0 h
  have he : fRung n = (n.log2 + 1022) * 2 ^ 52 + n * 2 ^ (52 - n.log2) := by unfold fRung; rw [if_neg h0]
  have hge : ¬ fRung n < Ieee.double.binade := by rw [hb, he]; generalize n * 2 ^ (52 - n.log2) = m at *; omega
  have hlt : fRung n < Ieee.double.infRung := by rw [hi, he]; generalize n * 2 ^ (52 - n.log2) = m at *; omega
  rw [if_neg hge, if_pos hlt]
  obtain ⟨m, hm⟩ : ∃ m, n * 2 ^ (52 - n.log2) = 2 ^ 52 + m := ⟨n * 2 ^ (52 - n.log2) - 2 ^ 52, by omega⟩
  have hm2 : m < 2 ^ 52 := by omega
  have hq : fRung n = (n.log2 + 1023) * 2 ^ 52 + m := by rw [he, hm]; omega
  have hdiv : fRung n / Ieee.double.binade - 1 = n.log2 + 1022 := by
   rw [hb, hq, Nat.mul_comm, Nat.mul_add_div (Nat.pow_pos (by omega)), Nat.div_eq_of_lt hm2]
   omega
  have hmod : Ieee.double.binade + fRung n % Ieee.double.binade = n * 2 ^ (52 - n.log2) := by
   rw [hb, hq, Nat.mul_comm, Nat.mul_add_mod, Nat.mod_eq_of_lt hm2, hm]
  rw [hdiv, hmod, hlp]
  refine ⟨_, _, rfl, by omega, by omega, fun b h1 h2 => ?_⟩
  have ex : 52 - n.log2 + ((-1074 : Int) + ((n.log2 + 1022 : Nat) : Int) - b).toNat = (-b).toNat := by omega
  rw [Nat.mul_assoc, ← Nat.pow_add, ex]

/-- A sign and a whole number as one. -/
def sgn (neg : Bool) (n : Nat) : Int := if neg then -(n : Int) else n

theorem signed_eq (neg : Bool) {m n c : Nat} {i : Nat} (h : m * 2 ^ i = n * 2 ^ c) : Ieee.signed neg m i = sgn neg n * (2 ^ c : Nat) := by
 unfold Ieee.signed sgn
 rw [Nat.shiftLeft_eq, h]
 cases neg <;> simp [Int.natCast_mul, Int.neg_mul]

theorem compare_scale (x y : Int) {k : Nat} (hk : 0 < k) : compare (x * (k : Int)) (y * (k : Int)) = compare x y := by
 have hk' : (0 : Int) < k := by omega
 have h1 : x * (k : Int) < y * (k : Int) ↔ x < y := Int.mul_lt_mul_right hk'
 have h2 : x * (k : Int) = y * (k : Int) ↔ x = y := Int.mul_eq_mul_right_iff (by omega)
 show compareOfLessAndEq _ _ = compareOfLessAndEq _ _
 unfold compareOfLessAndEq
 simp only [h1, h2]

theorem order_fBits (s t : Bool) {m n : Nat} (hm : m < 2 ^ 53) (hn : n < 2 ^ 53) : FloatKind.f64.format.order (fBits s m) (fBits t n) = some (compare (sgn s m) (sgn t n)) := by
 obtain ⟨m', i, h1, hi, hi0, h2⟩ := read_fBits s hm
 obtain ⟨n', j, h3, hj, hj0, h4⟩ := read_fBits t hn
 show Ieee.double.order _ _ = _
 unfold Ieee.Format.order
 rw [h1, h3]
 show some (compare (Ieee.signed s m' (i - min i j).toNat) (Ieee.signed t n' (j - min i j).toNat)) = _
 rw [signed_eq s (h2 (min i j) (by omega) (by omega)), signed_eq t (h4 (min i j) (by omega) (by omega))]
 rw [compare_scale _ _ (Nat.pow_pos (by omega))]

end Go.Proofs.YtgolhmiocjpohaaGreatDoor

namespace Go.Proofs.YtgolhmiocjpohaaGreatDoor

/-- The nearest whole number of A through B; between two the even one. -/
def rnd (A B : Nat) : Nat := if 2 * (A % B) < B then A / B else if B < 2 * (A % B) then A / B + 1 else A / B + A / B % 2

theorem rnd_mul (A B c : Nat) (hc : 0 < c) : rnd (A * c) (B * c) = rnd A B := by
 unfold rnd
 rw [Nat.mul_div_mul_right _ _ hc, Nat.mul_mod_mul_right]
 have e1 : (2 * (A % B * c) < B * c) = (2 * (A % B) < B) := by
  rw [← Nat.mul_assoc]
  exact propext (Nat.mul_lt_mul_right hc)
 have e2 : (B * c < 2 * (A % B * c)) = (B < 2 * (A % B)) := by
  rw [← Nat.mul_assoc]
  exact propext (Nat.mul_lt_mul_right hc)
 simp only [e1, e2]

/-- The same quotient is rounded alike. -/
theorem rnd_congr {A B A' B' : Nat} (hB : 0 < B) (hB' : 0 < B') (h : A * B' = A' * B) : rnd A B = rnd A' B' := by
 rw [← rnd_mul A B B' hB', ← rnd_mul A' B' B hB, h, Nat.mul_comm B B']

/-- A quotient by its whole part and what is left. -/
theorem rnd_eq {A B q r : Nat} (h : A = q * B + r) (hr : r < B) : rnd A B = if 2 * r < B then q else if B < 2 * r then q + 1 else q + q % 2 := by
 have h1 : A / B = q := by
  rw [h, Nat.mul_comm, Nat.mul_add_div (by omega), Nat.div_eq_of_lt hr, Nat.add_zero]
 have h2 : A % B = r := by
  rw [h, Nat.mul_comm, Nat.mul_add_mod, Nat.mod_eq_of_lt hr]
 unfold rnd
 rw [h1, h2]

/-- The digits of a number up to place n, and those behind it. -/
theorem pre_split (ds : List Nat) (n m : Nat) : ∃ t, pre ds (n + m) = pre ds n * 10 ^ m + t ∧ (Digits ds → t < 10 ^ m) := by
 induction m with
 | zero => exact ⟨0, by simp, fun _ => by simp⟩
 | succ m ih =>
  obtain ⟨t, h1, h2⟩ := ih
  refine ⟨t * 10 + dAt ds (n + m), ?_, fun hd => ?_⟩
  ·show pre ds (n + m) * 10 + dAt ds (n + m) = _
   rw [h1, Nat.pow_succ, Nat.add_mul, ← Nat.mul_assoc, Nat.add_assoc]
  ·have := h2 hd
   have := hd.all (n + m)
   rw [Nat.pow_succ]
   omega

/-- Whether a decimal is rounded up behind n digits. -/
def upAt (ds : List Nat) (n : Nat) : Bool :=
 if ds.length ≤ n then false
 else if dAt ds n = 5 ∧ n + 1 = ds.length then decide (0 < n) && decide (dAt ds (n - 1) % 2 ≠ 0)
 else decide (5 ≤ dAt ds n)

/-- A decimal, rounded: the digits ahead of the point, and whether it is rounded up there. -/
theorem round_digits {ds : List Nat} {A B n : Nat} (hs : Same ds n A B) (hc : Canon ds) (hB : 0 < B) : rnd A B = pre ds n + (if upAt ds n then 1 else 0) := by
 by_cases hle : ds.length ≤ n
 ·-- a whole number
  have h1 := hs (n - ds.length) 0 (by omega)
  rw [Nat.pow_zero, Nat.mul_one] at h1
  have h2 : A = pre ds n * B + 0 := by rw [pre_ge hle, Nat.add_zero]; exact h1.symm
  rw [rnd_eq h2 hB]
  unfold upAt
  rw [if_pos hle, if_pos (by omega)]
  simp
 ·obtain ⟨m, hm⟩ : ∃ m, ds.length = n + (m + 1) := ⟨ds.length - n - 1, by omega⟩
  obtain ⟨t, h1, h2⟩ := pre_split ds n (m + 1)
  have ht := h2 hc.digits
  have h3 := hs 0 (m + 1) (by omega)
  rw [Nat.pow_zero, Nat.mul_one] at h3
  have hv : dval ds = pre ds n * 10 ^ (m + 1) + t := by unfold dval; rw [hm]; exact h1
  have hT : 0 < 10 ^ (m + 1) := ten_pos _
  -- A / B = dval / 10^(m+1)
  have e1 : rnd A B = rnd (dval ds) (10 ^ (m + 1)) := rnd_congr hB hT h3.symm
  rw [e1, rnd_eq hv ht]
  -- the first digit behind the point
  obtain ⟨u, h4, h5⟩ := pre_split ds (n + 1) m
  have hu := h5 hc.digits
  have hd9 := hc.digits.all n
  have e2 : t = dAt ds n * 10 ^ m + u := by
   have h6 : pre ds (n + 1 + m) = pre ds (n + (m + 1)) := by congr 1; omega
   rw [h6, h1] at h4
   have h7 : pre ds (n + 1) = pre ds n * 10 + dAt ds n := rfl
   rw [h7, Nat.add_mul] at h4
   have h8 : pre ds n * 10 * 10 ^ m = pre ds n * 10 ^ (m + 1) := by rw [Nat.pow_succ]; ac_rfl
   omega
  have hlast := hc.last
  rw [hm] at hlast
  have hpar : pre ds n % 2 = if 0 < n then dAt ds (n - 1) % 2 else 0 := by
   by_cases h0 : 0 < n
   ·obtain ⟨k, rfl⟩ : ∃ k, n = k + 1 := ⟨n - 1, by omega⟩
    rw [if_pos h0, Nat.add_sub_cancel]
    show (pre ds k * 10 + dAt ds k) % 2 = _
    omega
   ·have : n = 0 := by omega
    subst this
    rfl
  have hp10 : (10 : Nat) ^ (m + 1) = 10 * 10 ^ m := by rw [Nat.pow_succ]; omega
  have hpm : 0 < 10 ^ m := ten_pos m
  have fin : ∀ b : Bool, upAt ds n = b → (b = true → 10 ^ (m + 1) < 2 * t ∨ 10 ^ (m + 1) = 2 * t ∧ pre ds n % 2 = 1) → (b = false → 2 * t < 10 ^ (m + 1) ∨ 10 ^ (m + 1) = 2 * t ∧ pre ds n % 2 = 0) →
    (if 2 * t < 10 ^ (m + 1) then pre ds n else if 10 ^ (m + 1) < 2 * t then pre ds n + 1 else pre ds n + pre ds n % 2) = pre ds n + (if upAt ds n then 1 else 0) := by
   intro b hb ht1 ht2
   rw [hb]
   cases b with
   | true =>
    rcases ht1 rfl with h | ⟨h, h'⟩
    ·rw [if_neg (by omega), if_pos h]; rfl
    ·rw [if_neg (by omega), if_neg (by omega), h']; rfl
   | false =>
    rcases ht2 rfl with h | ⟨h, h'⟩
    ·rw [if_pos h]; rfl
    ·rw [if_neg (by omega), if_neg (by omega), h']; rfl
  by_cases hm0 : m = 0
  ·subst hm0
   have hu0 : u = 0 := by simpa using hu
   rw [Nat.pow_zero] at e2
   rw [hu0, Nat.add_zero, Nat.mul_one] at e2
   rw [Nat.pow_zero, Nat.mul_one] at hp10
   by_cases h5 : dAt ds n = 5
   ·have hup : upAt ds n = (decide (0 < n) && decide (dAt ds (n - 1) % 2 ≠ 0)) := by
     unfold upAt
     rw [if_neg hle, if_pos (show dAt ds n = 5 ∧ n + 1 = ds.length from ⟨h5, by omega⟩)]
    refine fin _ hup (fun hb => Or.inr ⟨by omega, ?_⟩) (fun hb => Or.inr ⟨by omega, ?_⟩)
    ·simp at hb
     rw [hpar, if_pos hb.1]
     exact hb.2
    ·rw [hpar]
     by_cases h0 : 0 < n
     ·rw [if_pos h0]
      simp [h0] at hb
      omega
     ·rw [if_neg h0]
   ·have hup : upAt ds n = decide (5 ≤ dAt ds n) := by
     unfold upAt
     rw [if_neg hle, if_neg (show ¬ (dAt ds n = 5 ∧ n + 1 = ds.length) from fun h => h5 h.1)]
    exact fin _ hup (fun hb => Or.inl (by have := of_decide_eq_true hb; omega)) (fun hb => Or.inl (by have := of_decide_eq_false hb; omega))
  ·-- something stands behind the digit
   have hu1 : 0 < u := by
    apply Nat.pos_of_ne_zero
    intro h0
    obtain ⟨k, rfl⟩ : ∃ k, m = k + 1 := ⟨m - 1, by omega⟩
    have h6 : pre ds (n + 1 + (k + 1)) = pre ds (n + 1 + k) * 10 + dAt ds (n + 1 + k) := rfl
    rw [h4, h0, Nat.add_zero, Nat.pow_succ, ← Nat.mul_assoc] at h6
    have h7 : dAt ds (n + 1 + k) ≠ 0 := by
     have : n + (k + 1 + 1) - 1 = n + 1 + k := by omega
     rwa [this] at hlast
    have := hc.digits.all (n + 1 + k)
    omega
   have hup : upAt ds n = decide (5 ≤ dAt ds n) := by
    unfold upAt
    rw [if_neg hle, if_neg (show ¬ (dAt ds n = 5 ∧ n + 1 = ds.length) from fun h => by omega)]
   refine fin _ hup (fun hb => Or.inl ?_) (fun hb => Or.inl ?_)
   ·have h6 := of_decide_eq_true hb
    have h7 : 5 * 10 ^ m ≤ dAt ds n * 10 ^ m := Nat.mul_le_mul_right _ h6
    omega
   ·have h6 := of_decide_eq_false hb
    have h7 : dAt ds n * 10 ^ m ≤ 4 * 10 ^ m := Nat.mul_le_mul_right _ (by omega)
    omega

/-- Below a tenth: rounded to nought. -/
theorem round_small {ds : List Nat} {dp : Int} {A B : Nat} (hs : Same ds dp A B) (hc : Canon ds) (hB : 0 < B) (hdp : dp < 0) : rnd A B = 0 := by
 obtain ⟨m, hm⟩ : ∃ m : Nat, dp = ((0 : Nat) : Int) - (m + 1 : Nat) := ⟨(-dp - 1).toNat, by omega⟩
 have h1 := hs.lt hc.digits hB hm
 rw [Nat.pow_zero, Nat.one_mul, Nat.pow_succ] at h1
 have h2 : A * 10 ≤ A * (10 ^ m * 10) := Nat.mul_le_mul_left _ (by have := ten_pos m; omega)
 have h3 : A = 0 * B + A := by omega
 rw [rnd_eq h3 (by omega), if_pos (by omega)]

end Go.Proofs.YtgolhmiocjpohaaGreatDoor
