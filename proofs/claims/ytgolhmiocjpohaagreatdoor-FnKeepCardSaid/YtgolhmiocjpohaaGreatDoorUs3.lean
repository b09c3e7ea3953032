/- How near a multiple of one number can come to a multiple of another one, told by two neighbouring fractions. No condition beyond those in the statements. The library's table of powers of ten: each of its rows is near enough to the power, and no float lies too near. No condition: the given table is looked through by the kernel. Unrounded scaling, as plain arithmetic: what the library's uscale computes is the quotient's whole part, its last bit told whether anything is left. No condition beyond those in the statements. -/
import GoSem.PinnedTables
set_option linter.unusedVariables false
namespace Go.Proofs.YtgolhmiocjpohaaGreatDoor

/-- Every pair of whole numbers is made of two neighbouring fractions. -/
theorem lattice (A B h1 k1 h2 k2 x K : Int) (hd : k1 * h2 - h1 * k2 = 1) :
  ∃ u v : Int, x = u * k1 + v * k2 ∧ x * A - K * B = u * (k1 * A - h1 * B) + v * (k2 * A - h2 * B) := by
 refine ⟨x * h2 - K * k2, K * k1 - x * h1, ?_, ?_⟩ <;> grind

theorem mul_ge_left {u r : Int} (hu : 1 ≤ u) (hr : 0 ≤ r) : r ≤ u * r := by
 have := Int.mul_le_mul_of_nonneg_right hu hr
 omega

/-- One neighbour alone. -/
theorem alone {u k r : Int} (hu : 1 ≤ u) (hk : 0 ≤ k) (hx : 2 ^ 63 ≤ u * k) (h : 2 ^ 64 < r ∨ 2 * k < r) : 2 ^ 64 < u * r := by
 rcases h with h | h
 ·have := mul_ge_left (u := u) (r := r) hu (by omega)
  omega
 ·have h1 : u * (2 * k) < u * r := Int.mul_lt_mul_of_pos_left h (by omega)
  have h2 : u * (2 * k) = 2 * (u * k) := by grind
  omega

/-- What two neighbours show: no multiple from 2^63 on and below 2^64 comes near. -/
theorem far {A B h1 k1 h2 k2 : Int} (hd : k1 * h2 - h1 * k2 = 1) (hk1 : 0 ≤ k1) (hk2 : 0 ≤ k2) (hr1 : 0 < k1 * A - h1 * B) (hr2 : k2 * A - h2 * B < 0)
  (hs : 2 ^ 64 ≤ k1 + k2) (hm : 2 ^ 64 < (k1 * A - h1 * B) - (k2 * A - h2 * B))
  (hp1 : 2 ^ 64 < k1 * A - h1 * B ∨ 2 * k1 < k1 * A - h1 * B) (hp2 : 2 ^ 64 < -(k2 * A - h2 * B) ∨ 2 * k2 < -(k2 * A - h2 * B))
  (x K : Int) (hx1 : 2 ^ 63 ≤ x) (hx2 : x < 2 ^ 64) (hlo : -2 ^ 64 ≤ x * A - K * B) (hhi : x * A - K * B ≤ 2 ^ 64) : False := by
 obtain ⟨u, v, e1, e2⟩ := lattice A B h1 k1 h2 k2 x K hd
 generalize k1 * A - h1 * B = r1 at *
 generalize k2 * A - h2 * B = r2 at *
 rw [e2] at hlo hhi
 rcases Int.lt_trichotomy u 0 with hu | hu | hu
 ·rcases Int.lt_trichotomy v 0 with hv | hv | hv
  ·have h1 : u * k1 ≤ 0 := Int.mul_nonpos_of_nonpos_of_nonneg (by omega) hk1
   have h2 : v * k2 ≤ 0 := Int.mul_nonpos_of_nonpos_of_nonneg (by omega) hk2
   omega
  ·subst hv
   have h1 : u * k1 ≤ 0 := Int.mul_nonpos_of_nonpos_of_nonneg (by omega) hk1
   omega
  ·have h1 := mul_ge_left (u := -u) (r := r1) (by omega) (by omega)
   have h2 := mul_ge_left (u := v) (r := -r2) (by omega) (by omega)
   rw [Int.neg_mul] at h1
   rw [Int.mul_neg] at h2
   omega
 ·subst hu
  simp only [Int.zero_mul, Int.zero_add] at e1 hlo hhi
  rcases Int.lt_trichotomy v 0 with hv | hv | hv
  ·have h2 : v * k2 ≤ 0 := Int.mul_nonpos_of_nonpos_of_nonneg (by omega) hk2
   omega
  ·subst hv
   omega
  ·have := alone (u := v) (k := k2) (r := -r2) (by omega) hk2 (by omega) hp2
   rw [Int.mul_neg] at this
   omega
 ·rcases Int.lt_trichotomy v 0 with hv | hv | hv
  ·have h1 := mul_ge_left (u := u) (r := r1) (by omega) (by omega)
   have h2 := mul_ge_left (u := -v) (r := -r2) (by omega) (by omega)
   rw [Int.neg_mul_neg] at h2
   omega
  ·subst hv
   simp only [Int.zero_mul, Int.add_zero] at e1 hlo hhi
   have := alone (u := u) (k := k1) (r := r1) (by omega) hk1 (by omega) hp1
   omega
  ·have h1 := mul_ge_left (u := u) (r := k1) (by omega) hk1
   have h2 := mul_ge_left (u := v) (r := k2) (by omega) hk2
   omega

/-- The two neighbours' looks, on natural numbers. -/
def okPair (A B h1 k1 h2 k2 : Nat) : Bool :=
 k1 * h2 == h1 * k2 + 1 && decide (h1 * B < k1 * A) && decide (k2 * A < h2 * B) && decide (2 ^ 64 ≤ k1 + k2) &&
 decide (2 ^ 64 < (k1 * A - h1 * B) + (h2 * B - k2 * A)) &&
 (decide (2 ^ 64 < k1 * A - h1 * B) || decide (2 * k1 < k1 * A - h1 * B)) && (decide (2 ^ 64 < h2 * B - k2 * A) || decide (2 * k2 < h2 * B - k2 * A))

theorem okPair_far {A B h1 k1 h2 k2 : Nat} (h : okPair A B h1 k1 h2 k2 = true) (x K : Nat) (hx1 : 2 ^ 63 ≤ x) (hx2 : x < 2 ^ 64) (hlo : K * B ≤ x * A + 2 ^ 64) (hhi : x * A ≤ K * B + 2 ^ 64) : False := by
 simp only [okPair, Bool.and_eq_true, Bool.or_eq_true, beq_iff_eq, decide_eq_true_eq] at h
 obtain ⟨⟨⟨⟨⟨⟨q1, q2⟩, q3⟩, q4⟩, q5⟩, q6⟩, q7⟩ := h
 have c1 : ((k1 : Int)) * (h2 : Int) - (h1 : Int) * (k2 : Int) = 1 := by
  have : ((k1 * h2 : Nat) : Int) = ((h1 * k2 + 1 : Nat) : Int) := by rw [q1]
  push_cast at this
  omega
 refine far (A := A) (B := B) (h1 := h1) (k1 := k1) (h2 := h2) (k2 := k2) c1 (by omega) (by omega) ?_ ?_ (by omega) ?_ ?_ ?_ x K (by omega) (by omega) ?_ ?_
 all_goals
  simp only [← Int.natCast_mul]
  omega

/-- Two neighbours, by the steps of Euclid. -/
def findPair (A B : Nat) : Nat → Nat → Nat → Nat → Nat → Nat → Nat → Nat × Nat × Nat × Nat
 | 0, _, _, _, _, _, _ => (0, 0, 0, 0)
 | f + 1, n, d, h0, k0, h1, k1 =>
  if d = 0 then (0, 0, 0, 0)
  else
   let q := n / d
   let t := (2 ^ 64 - 1 - k0) / k1
   if t < q then
    if h1 * B < k1 * A then (h1, k1, h0 + t * h1, k0 + t * k1) else (h0 + t * h1, k0 + t * k1, h1, k1)
   else findPair A B f d (n - q * d) h1 k1 (h0 + q * h1) (k0 + q * k1)

def nearOk (pm : Nat) : Bool :=
 let r := findPair pm (2 ^ 136) 200 (2 ^ 136) pm 1 0 0 1
 okPair pm (2 ^ 136) r.1 r.2.1 r.2.2.1 r.2.2.2

theorem nearOk_far {pm : Nat} (h : nearOk pm = true) (x K : Nat) (hx1 : 2 ^ 63 ≤ x) (hx2 : x < 2 ^ 64) (hlo : K * 2 ^ 136 ≤ x * pm + 2 ^ 64) (hhi : x * pm ≤ K * 2 ^ 136 + 2 ^ 64) : False :=
 okPair_far h x K hx1 hx2 hlo hhi

end Go.Proofs.YtgolhmiocjpohaaGreatDoor

namespace Go.Proofs.YtgolhmiocjpohaaGreatDoor

/-- The power of ten of row i, scaled to lie from 2^127 on and below 2^128: above and below the line. -/
def tenN (i : Nat) : Nat := if 348 ≤ i then 10 ^ (i - 348) * 2 ^ 127 else 2 ^ (127 + ((348 - i) * 108853 + 32767) / 32768)
def tenD (i : Nat) : Nat := if 348 ≤ i then 2 ^ ((i - 348) * 108853 / 32768) else 10 ^ (348 - i)

def rowOk (i hi lo : Nat) : Bool :=
 let pm := hi * 2 ^ 64 - lo
 decide (hi < 2 ^ 64) && decide (lo < 2 ^ 64) && decide (2 ^ 63 ≤ hi) && decide (tenN i ≤ pm * tenD i) && decide (pm * tenD i < tenN i + tenD i) &&
 decide (2 ^ 127 * tenD i ≤ tenN i) && decide (pm ≤ 2 ^ 128 - 2 ^ 76) &&
 (if 348 ≤ i && i ≤ 375 then lo == 0 && hi % 2 == 0 && tenN i == pm * tenD i else if 321 ≤ i && i < 348 then true else nearOk pm)

def allRows : Nat → List (Nat × Nat) → Bool
 | _, [] => true
 | i, x :: r => rowOk i x.1 x.2 && allRows (i + 1) r

theorem allRows_get : ∀ (l : List (Nat × Nat)) (i j : Nat) (x : Nat × Nat), allRows i l = true → l[j]? = some x → rowOk (i + j) x.1 x.2 = true
 | [], _, _, _, _, h => by simp at h
 | y :: r, i, 0, x, h, hx => by
  simp only [allRows, Bool.and_eq_true] at h
  simp at hx
  subst hx
  exact h.1
 | y :: r, i, j + 1, x, h, hx => by
  simp only [allRows, Bool.and_eq_true] at h
  have := allRows_get r (i + 1) j x h.2 (by simpa using hx)
  rwa [show i + (j + 1) = i + 1 + j by omega]

set_option maxRecDepth 100000 in
theorem rows_all : allRows 0 Go.Pinned.pow10Rows = true := by decide +kernel

set_option maxRecDepth 100000 in
theorem rows_length : Go.Pinned.pow10Rows.length = 696 := by decide +kernel

/-- Row i of the table. -/
def tabHi (i : Nat) : Nat := (Go.Pinned.pow10Rows.getD i (0, 0)).1
def tabLo (i : Nat) : Nat := (Go.Pinned.pow10Rows.getD i (0, 0)).2

theorem row_ok {i : Nat} (h : i < 696) : rowOk i (tabHi i) (tabLo i) = true := by
 have hl : i < Go.Pinned.pow10Rows.length := by rw [rows_length]; exact h
 have := allRows_get Go.Pinned.pow10Rows 0 i _ rows_all (List.getElem?_eq_getElem hl)
 rw [Nat.zero_add] at this
 unfold tabHi tabLo
 rw [List.getD_eq_getElem?_getD, List.getElem?_eq_getElem hl]
 exact this

end Go.Proofs.YtgolhmiocjpohaaGreatDoor

namespace Go.Proofs.YtgolhmiocjpohaaGreatDoor

/-- A quotient, unrounded: its last bit is set where anything is left. -/
def unr (A B : Nat) : Nat := A / B ||| (if A % B = 0 then 0 else 1)

theorem unr_between {A B T : Nat} (h1 : T * B < A) (h2 : A < (T + 1) * B) : unr A B = T ||| 1 := by
 have hd : A / B = T := Nat.div_eq_of_lt_le (by omega) h2
 have hm : A % B ≠ 0 := by
  have := Nat.div_add_mod A B
  rw [hd, Nat.mul_comm] at this
  omega
 unfold unr
 rw [hd, if_neg hm]

theorem unr_exact {A B T : Nat} (hB : 0 < B) (h : A = T * B) : unr A B = T := by
 unfold unr
 rw [h, Nat.mul_div_cancel _ hB, Nat.mul_mod_left, if_pos rfl, Nat.or_zero]

/-- A row of the table, by its looks. -/
structure RowIs (i hi lo : Nat) : Prop where
 h : hi < 2 ^ 64
 l : lo < 2 ^ 64
 top : 2 ^ 63 ≤ hi
 le : tenN i ≤ (hi * 2 ^ 64 - lo) * tenD i
 lt : (hi * 2 ^ 64 - lo) * tenD i < tenN i + tenD i
 big : 2 ^ 127 * tenD i ≤ tenN i
 most : hi * 2 ^ 64 - lo ≤ 2 ^ 128 - 2 ^ 76
 near : (348 ≤ i ∧ i ≤ 375 ∧ lo = 0 ∧ hi % 2 = 0 ∧ tenN i = (hi * 2 ^ 64 - lo) * tenD i) ∨ (321 ≤ i ∧ i < 348) ∨ nearOk (hi * 2 ^ 64 - lo) = true

theorem row_is {i : Nat} (h : i < 696) : RowIs i (tabHi i) (tabLo i) := by
 have := row_ok h
 generalize tabHi i = a at *
 generalize tabLo i = b at *
 simp only [rowOk, Bool.and_eq_true, decide_eq_true_eq] at this
 obtain ⟨⟨⟨⟨⟨⟨⟨q1, q2⟩, q3⟩, q4⟩, q5⟩, q6⟩, q7⟩, q8⟩ := this
 refine ⟨q1, q2, q3, q4, q5, q6, q7, ?_⟩
 split at q8
 ·rename_i hc
  simp only [Bool.and_eq_true, beq_iff_eq] at q8
  exact Or.inl ⟨hc.1, hc.2, q8.1.1, q8.1.2, q8.2⟩
 ·split at q8
  ·rename_i hc
   exact Or.inr (Or.inl hc)
  ·exact Or.inr (Or.inr q8)

theorem tenD_pos (i : Nat) : 0 < tenD i := by
 unfold tenD
 split
 ·exact Nat.pow_pos (by omega)
 ·exact Nat.pow_pos (by omega)

def smallTens (e : Nat) : Bool := decide (2 ^ 65 * 10 ^ e ≤ 2 ^ min (127 + (e * 108853 + 32767) / 32768) (136 + e))
theorem small_tens : (List.range 28).all smallTens = true := by decide +kernel

theorem dvd_of_mul_le {g a b : Nat} (h : g ≤ a) : 2 ^ g ∣ b * 2 ^ a := Nat.dvd_trans (Nat.pow_dvd_pow 2 h) (Nat.dvd_mul_left _ _)

/-- Two multiples that are close are one. -/
theorem close_eq {a b g : Nat} (ha : g ∣ a) (hb : g ∣ b) (h1 : a < b + g) (h2 : b < a + g) : a = b := by
 obtain ⟨c, rfl⟩ := ha
 obtain ⟨d, rfl⟩ := hb
 congr 1
 rcases Nat.lt_trichotomy c d with h | h | h
 ·exfalso
  have : g * (c + 1) ≤ g * d := Nat.mul_le_mul_left _ h
  rw [Nat.mul_succ] at this
  omega
 ·exact h
 ·exfalso
  have : g * (d + 1) ≤ g * c := Nat.mul_le_mul_left _ h
  rw [Nat.mul_succ] at this
  omega

/-- What comes near hits. -/
theorem near_hits {i hi lo x K : Nat} (hr : RowIs i hi lo) (hx1 : 2 ^ 63 ≤ x) (hx2 : x < 2 ^ 64) (h1 : K * 2 ^ 136 ≤ x * (hi * 2 ^ 64 - lo) + 2 ^ 64) (h2 : x * (hi * 2 ^ 64 - lo) ≤ K * 2 ^ 136 + 2 ^ 64) :
  x * tenN i = K * 2 ^ 136 * tenD i := by
 have hle := hr.le
 have hlt := hr.lt
 have hDp := tenD_pos i
 rcases hr.near with ⟨_, _, e1, e2, e3⟩ | ⟨e1, e2⟩ | e
 ·subst e1
  obtain ⟨c, hc⟩ : ∃ c, hi = 2 * c := ⟨hi / 2, by omega⟩
  subst hc
  rw [e3, ← Nat.mul_assoc]
  congr 1
  refine close_eq (g := 2 ^ 65) ?_ (dvd_of_mul_le (by omega)) (by omega) (by omega)
  exact ⟨x * c, by rw [Nat.sub_zero]; rw [show (2 : Nat) ^ 65 = 2 * 2 ^ 64 by decide]; ac_rfl⟩
 ·generalize hpm : hi * 2 ^ 64 - lo = pm at *
  obtain ⟨e, he⟩ : ∃ e, e = 348 - i := ⟨_, rfl⟩
  have he1 : 0 < e := by omega
  have he2 : e < 28 := by omega
  have hs : smallTens e = true := List.all_eq_true.1 small_tens e (by simpa using he2)
  unfold smallTens at hs
  have hs := of_decide_eq_true hs
  have hN : tenN i = 2 ^ (127 + (e * 108853 + 32767) / 32768) := by unfold tenN; rw [if_neg (by omega), he]
  have hD : tenD i = 10 ^ e := by unfold tenD; rw [if_neg (by omega), he]
  rw [hN, hD] at hle hlt
  rw [hN, hD]
  generalize (e * 108853 + 32767) / 32768 = l at *
  have t1 : x * pm * 10 ^ e < x * 2 ^ (127 + l) + x * 10 ^ e := by
   rw [Nat.mul_assoc, ← Nat.mul_add]
   exact Nat.mul_lt_mul_of_pos_left hlt (by omega)
  have t2 : x * 2 ^ (127 + l) ≤ x * pm * 10 ^ e := by rw [Nat.mul_assoc]; exact Nat.mul_le_mul_left _ hle
  have t3 : x * 10 ^ e < 2 ^ 64 * 10 ^ e := Nat.mul_lt_mul_of_pos_right hx2 (Nat.pow_pos (by omega))
  have t4 : K * 2 ^ 136 * 10 ^ e ≤ x * pm * 10 ^ e + 2 ^ 64 * 10 ^ e := by rw [← Nat.add_mul]; exact Nat.mul_le_mul_right _ h1
  have t5 : x * pm * 10 ^ e ≤ K * 2 ^ 136 * 10 ^ e + 2 ^ 64 * 10 ^ e := by rw [← Nat.add_mul]; exact Nat.mul_le_mul_right _ h2
  have t6 : 2 ^ 65 * 10 ^ e = 2 * (2 ^ 64 * 10 ^ e) := by rw [show (2 : Nat) ^ 65 = 2 * 2 ^ 64 by decide]; ac_rfl
  have hg : 0 < 2 ^ 64 * 10 ^ e := Nat.mul_pos (by decide) (Nat.pow_pos (by omega))
  refine close_eq (g := 2 ^ min (127 + l) (136 + e)) (dvd_of_mul_le (Nat.min_le_left _ _)) ?_ (by omega) (by omega)
  rw [show (10 : Nat) ^ e = 5 ^ e * 2 ^ e by rw [← Nat.mul_pow]]
  rw [show K * 2 ^ 136 * (5 ^ e * 2 ^ e) = K * 5 ^ e * 2 ^ (136 + e) by rw [Nat.pow_add]; ac_rfl]
  exact dvd_of_mul_le (Nat.min_le_right _ _)
 ·exact absurd (nearOk_far e x K hx1 hx2 h1 h2) (fun h => h)

/-- What a product is below and above. -/
structure Scaled (x pm N D hi mid mid2 low : Nat) : Prop where
 sum : x * pm + (mid2 * 2 ^ 64 + low) = hi * 2 ^ 128 + mid * 2 ^ 64
 mid : mid < 2 ^ 64
 mid2 : mid2 ≤ 2 ^ 64 - 2
 low : low < 2 ^ 64
 le : x * N ≤ x * pm * D
 lt : x * pm * D < x * N + 2 ^ 64 * D
 d : 0 < D

theorem Scaled.above {x pm N D hi mid mid2 low M : Nat} (h : Scaled x pm N D hi mid mid2 low) (hM : M + 2 ^ 64 ≤ x * pm) : M * D < x * N := by
 have h1 : (M + 2 ^ 64) * D ≤ x * pm * D := Nat.mul_le_mul_right _ hM
 have h2 := h.lt
 rw [Nat.add_mul] at h1
 omega

theorem Scaled.below {x pm N D hi mid mid2 low M : Nat} (h : Scaled x pm N D hi mid mid2 low) (hM : x * pm < M) : x * N < M * D := by
 have h1 : x * pm * D < M * D := Nat.mul_lt_mul_of_pos_right hM h.d
 have h2 := h.le
 omega

theorem scaled_of {i hi lo x : Nat} (hr : RowIs i hi lo) (hx1 : 2 ^ 63 ≤ x) (hx2 : x < 2 ^ 64) :
  Scaled x (hi * 2 ^ 64 - lo) (tenN i) (tenD i) (x * hi / 2 ^ 64) (x * hi % 2 ^ 64) (x * lo / 2 ^ 64) (x * lo % 2 ^ 64) := by
 have hl := hr.l
 have ht := hr.top
 have h1 := Nat.div_add_mod (x * hi) (2 ^ 64)
 have h2 := Nat.div_add_mod (x * lo) (2 ^ 64)
 refine ⟨?_, Nat.mod_lt _ (by decide), ?_, Nat.mod_lt _ (by decide), ?_, ?_, tenD_pos i⟩
 ·rw [Nat.mul_sub, ← Nat.mul_assoc]
  have h3 : x * lo ≤ x * hi * 2 ^ 64 := by
   rw [Nat.mul_assoc]; exact Nat.mul_le_mul_left _ (by omega)
  generalize x * hi = P at *
  generalize x * lo = Q at *
  omega
 ·have h3 : x * lo ≤ (2 ^ 64 - 1) * (2 ^ 64 - 1) := Nat.mul_le_mul (by omega) (by omega)
  generalize x * lo = Q at *
  omega
 ·rw [Nat.mul_assoc]; exact Nat.mul_le_mul_left _ hr.le
 ·have h3 : x * ((hi * 2 ^ 64 - lo) * tenD i) < x * (tenN i + tenD i) := Nat.mul_lt_mul_of_pos_left hr.lt (by omega)
  have h4 : x * tenD i ≤ 2 ^ 64 * tenD i := Nat.mul_le_mul_right _ (by omega)
  rw [Nat.mul_add] at h3
  rw [Nat.mul_assoc]
  omega

/-- uscale, where the product's upper part has a bit below. -/
theorem uscale_bits {i phi plo x s hi : Nat} (hr : RowIs i phi plo) (hx1 : 2 ^ 63 ≤ x) (hx2 : x < 2 ^ 64) (hhi : hi = x * phi / 2 ^ 64) (hne : hi % 2 ^ s ≠ 0) :
  unr (x * tenN i) (tenD i * 2 ^ (128 + s)) = hi / 2 ^ s ||| 1 := by
 have hS := scaled_of hr hx1 hx2
 rw [← hhi] at hS
 have hs := hS.sum
 have a1 := hS.mid
 have a2 := hS.mid2
 have a3 := hS.low
 have hsp : 0 < 2 ^ s := Nat.pow_pos (by omega)
 have hd := Nat.div_add_mod hi (2 ^ s)
 have hm := Nat.mod_lt hi hsp
 have e : ∀ T, T * (tenD i * 2 ^ (128 + s)) = 2 ^ s * T * 2 ^ 128 * tenD i := fun T => by rw [Nat.pow_add]; ac_rfl
 refine unr_between ?_ ?_
 ·rw [e]
  refine hS.above ?_
  generalize 2 ^ s * (hi / 2 ^ s) = t at *
  omega
 ·rw [e]
  refine hS.below ?_
  rw [Nat.mul_add]
  generalize 2 ^ s * (hi / 2 ^ s) = t at *
  omega

/-- uscale, where it has none. -/
theorem uscale_none {i phi plo x s hi mid mid2 : Nat} (hr : RowIs i phi plo) (hx1 : 2 ^ 63 ≤ x) (hx2 : x < 2 ^ 64) (hs1 : 8 ≤ s) (hhi : hi = x * phi / 2 ^ 64) (hmid : mid = x * phi % 2 ^ 64) (hmid2 : mid2 = x * plo / 2 ^ 64)
  (hz : hi % 2 ^ s = 0) :
  unr (x * tenN i) (tenD i * 2 ^ (128 + s)) = (if mid < mid2 then (hi - 1) / 2 ^ s ||| 1 else hi / 2 ^ s ||| (if 1 < mid - mid2 then 1 else 0)) := by
 have hS := scaled_of hr hx1 hx2
 rw [← hhi, ← hmid, ← hmid2] at hS
 have hs := hS.sum
 have a1 := hS.mid
 have a2 := hS.mid2
 have a3 := hS.low
 have hsp : 2 ≤ 2 ^ s := by
  have : 2 ^ 1 ≤ 2 ^ s := Nat.pow_le_pow_right (by omega) (by omega)
  omega
 have hd := Nat.div_add_mod hi (2 ^ s)
 have e : ∀ T, T * (tenD i * 2 ^ (128 + s)) = 2 ^ s * T * 2 ^ 128 * tenD i := fun T => by rw [Nat.pow_add]; ac_rfl
 have hpos : 0 < hi := by
  have ht := hr.top
  have h1 : 2 ^ 63 * 2 ^ 63 ≤ x * phi := Nat.mul_le_mul hx1 ht
  have : 0 < x * phi / 2 ^ 64 := Nat.div_pos (by omega) (by decide)
  omega
 split
 ·rename_i hlt
  have ht : (hi - 1) / 2 ^ s = hi / 2 ^ s - 1 := by
   have h2 : 0 < hi / 2 ^ s := by
    apply Nat.pos_of_ne_zero
    intro h0
    rw [h0] at hd
    omega
   have h3 : 2 ^ s * 1 ≤ 2 ^ s * (hi / 2 ^ s) := Nat.mul_le_mul_left _ h2
   refine Nat.div_eq_of_lt_le ?_ ?_
   ·rw [Nat.mul_comm, Nat.mul_sub]
    omega
   ·rw [Nat.mul_comm, show hi / 2 ^ s - 1 + 1 = hi / 2 ^ s by omega]
    omega
  have h2 : 0 < hi / 2 ^ s := by
   apply Nat.pos_of_ne_zero
   intro h0
   rw [h0] at hd
   omega
  rw [ht]
  have h3 : 2 ^ s * (hi / 2 ^ s - 1) + 2 ^ s = hi := by
   rw [Nat.mul_sub]
   have h3 : 2 ^ s * 1 ≤ 2 ^ s * (hi / 2 ^ s) := Nat.mul_le_mul_left _ h2
   omega
  refine unr_between ?_ ?_
  ·rw [e]
   refine hS.above ?_
   generalize 2 ^ s * (hi / 2 ^ s - 1) = t at *
   omega
  ·rw [e, show hi / 2 ^ s - 1 + 1 = hi / 2 ^ s by omega]
   refine hS.below ?_
   generalize 2 ^ s * (hi / 2 ^ s) = t at *
   omega
 ·rename_i hge
  split
  ·refine unr_between ?_ ?_
   ·rw [e]
    refine hS.above ?_
    generalize 2 ^ s * (hi / 2 ^ s) = t at *
    omega
   ·rw [e]
    refine hS.below ?_
    rw [Nat.mul_add]
    generalize 2 ^ s * (hi / 2 ^ s) = t at *
    omega
  ·rw [Nat.or_zero]
   refine unr_exact (Nat.mul_pos (tenD_pos i) (Nat.pow_pos (by omega))) ?_
   rw [e]
   obtain ⟨r, hr'⟩ : ∃ r, s = 8 + r := ⟨s - 8, by omega⟩
   have hK : 2 ^ s * (hi / 2 ^ s) * 2 ^ 128 = (2 ^ r * (hi / 2 ^ s)) * 2 ^ 136 := by
    rw [show (2 : Nat) ^ s = 2 ^ 8 * 2 ^ r by rw [hr', Nat.pow_add], show (2 : Nat) ^ 136 = 2 ^ 8 * 2 ^ 128 by decide]
    ac_rfl
   have hh : hi = 2 ^ s * (hi / 2 ^ s) := by omega
   rw [hK]
   refine near_hits hr hx1 hx2 ?_ ?_
   ·rw [← hK, ← hh]
    omega
   ·rw [← hK, ← hh]
    omega

end Go.Proofs.YtgolhmiocjpohaaGreatDoor
