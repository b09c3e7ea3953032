/- Rounding what is told unrounded: plain. No condition beyond those in the statements. The fast road's arithmetic gives the nearest float: plain. No condition beyond those in the statements. The nearest float grows with the value. Plain. No condition. The model's floats and the place of the nearest float: rounding, product, quotient: plain. No condition beyond those in the statements. Hexadecimal floats: what Go's own road computes is the nearest float: plain. No condition beyond those in the statements. The model's floats: the exact powers of ten, and how floats stand to 10^15: plain. No condition beyond those in the statements. Two floats of one sign that compare alike are one. Plain. No condition. -/
import Derived.Test.YtgolhmiocjpohaaGreatDoorUs3
import Derived.Test.YtgolhmiocjpohaaGreatDoorGen6
import Derived.Test.YtgolhmiocjpohaaGreatDoorGen1
import Derived.Test.YtgolhmiocjpohaaGreatDoorSl1
set_option linter.unusedVariables false
set_option linter.unusedSimpArgs false
namespace Go.Proofs.YtgolhmiocjpohaaGreatDoor

/-- Rounding to the even whole number of a quarter count. -/
def rnd4 (u : Nat) : Nat := (u + 1 + u / 4 % 2) / 4

theorem or_one (q : Nat) : q ||| 1 = 2 * (q / 2) + 1 := by
 have h1 : 2 ^ 1 * (q / 2) + q % 2 = 2 ^ 1 * (q / 2) ||| q % 2 := Nat.two_pow_add_eq_or_of_lt (by omega) _
 have h2 : 2 ^ 1 * (q / 2) + 1 = 2 ^ 1 * (q / 2) ||| 1 := Nat.two_pow_add_eq_or_of_lt (by omega) _
 have h3 : 2 ^ 1 * (q / 2) + q % 2 = q := by omega
 have h4 : q % 2 ||| 1 = 1 := by rcases Nat.mod_two_eq_zero_or_one q with h | h <;> rw [h] <;> rfl
 rw [h3] at h1
 have h5 : q ||| 1 = (2 ^ 1 * (q / 2) ||| q % 2) ||| 1 := by rw [← h1]
 rw [h5, Nat.or_assoc, h4, ← h2, Nat.pow_one]

/-- A quotient unrounded, by cases. -/
theorem unr_cases (X Y : Nat) (hY : 0 < Y) : ∃ q r, X = q * Y + r ∧ r < Y ∧ (r = 0 ∧ unr X Y = q ∨ 0 < r ∧ unr X Y = 2 * (q / 2) + 1) := by
 refine ⟨X / Y, X % Y, by rw [Nat.mul_comm]; exact (Nat.div_add_mod X Y).symm, Nat.mod_lt _ hY, ?_⟩
 unfold unr
 by_cases h : X % Y = 0
 ·exact Or.inl ⟨h, by rw [if_pos h, Nat.or_zero]⟩
 ·exact Or.inr ⟨by omega, by rw [if_neg h, or_one]⟩

theorem rnd4_unr (X Y : Nat) (hY : 0 < Y) : rnd4 (unr X Y) = rnd X (Y * 4) := by
 obtain ⟨q, r, hX, hr, hu⟩ := unr_cases X Y hY
 obtain ⟨n, j, hq, hj⟩ : ∃ n j, q = 4 * n + j ∧ j < 4 := ⟨q / 4, q % 4, by omega, by omega⟩
 have hX4 : X = n * (Y * 4) + (j * Y + r) := by
  rw [hX, hq, Nat.add_mul]
  have : 4 * n * Y = n * (Y * 4) := by ac_rfl
  omega
 have hlt : j * Y + r < Y * 4 := by
  have : j * Y ≤ 3 * Y := Nat.mul_le_mul_right _ (by omega)
  omega
 rw [rnd_eq hX4 hlt]
 unfold rnd4
 have hj4 : j = 0 ∨ j = 1 ∨ j = 2 ∨ j = 3 := by omega
 rcases hu with ⟨hr0, hu⟩ | ⟨hr0, hu⟩
 ·rw [hu, show q / 4 = n by omega]
  rcases hj4 with rfl | rfl | rfl | rfl <;> (repeat' split) <;> omega
 ·rw [hu, show (2 * (q / 2) + 1) / 4 = n by omega]
  rcases hj4 with rfl | rfl | rfl | rfl <;> (repeat' split) <;> omega

theorem unr_half (X Y : Nat) (hY : 0 < Y) : unr X (Y * 2) = unr X Y / 2 ||| unr X Y % 2 := by
 obtain ⟨q, r, hX, hr, hu⟩ := unr_cases X Y hY
 obtain ⟨a, b, hq, hb⟩ : ∃ a b, q = 2 * a + b ∧ b < 2 := ⟨q / 2, q % 2, by omega, by omega⟩
 have hX2 : X = a * (Y * 2) + (b * Y + r) := by
  rw [hX, hq, Nat.add_mul]
  have : 2 * a * Y = a * (Y * 2) := by ac_rfl
  omega
 have hlt : b * Y + r < Y * 2 := by
  have : b * Y ≤ 1 * Y := Nat.mul_le_mul_right _ (by omega)
  omega
 have hdiv : X / (Y * 2) = a := by
  rw [hX2, Nat.mul_comm a, Nat.mul_add_div (by omega), Nat.div_eq_of_lt hlt, Nat.add_zero]
 have hmod : X % (Y * 2) = b * Y + r := by
  rw [hX2, Nat.mul_comm a, Nat.mul_add_mod, Nat.mod_eq_of_lt hlt]
 have e : unr X (Y * 2) = a ||| (if b * Y + r = 0 then 0 else 1) := by
  unfold unr
  rw [hdiv, hmod]
 rw [e]
 rcases hu with ⟨hr0, hu⟩ | ⟨hr0, hu⟩
 ·rw [hu, show q / 2 = a by omega, show q % 2 = b by omega]
  congr 1
  have hb2 : b = 0 ∨ b = 1 := by omega
  rcases hb2 with rfl | rfl
  ·rw [if_pos (by omega)]
  ·rw [if_neg (by omega)]
 ·rw [hu, if_neg (by omega), show (2 * (q / 2) + 1) / 2 = a by omega, show (2 * (q / 2) + 1) % 2 = 1 by omega]

/-- Against an even number it stands as the quotient does. -/
theorem unr_ge (X Y t : Nat) (hY : 0 < Y) : 2 * t ≤ unr X Y ↔ 2 * t * Y ≤ X := by
 obtain ⟨q, r, hX, hr, hu⟩ := unr_cases X Y hY
 have key : 2 * t ≤ q ↔ 2 * t * Y ≤ X := by
  constructor
  ·intro h
   have := Nat.mul_le_mul_right Y h
   omega
  ·intro h
   apply Classical.byContradiction
   intro hn
   have h1 : (q + 1) * Y ≤ 2 * t * Y := Nat.mul_le_mul_right Y (by omega)
   rw [Nat.add_mul, Nat.one_mul] at h1
   omega
 rw [← key]
 rcases hu with ⟨_, hu⟩ | ⟨_, hu⟩ <;> rw [hu] <;> omega

theorem rnd_half {A B q : Nat} (h1 : q * B + (B + 1) / 2 ≤ A) (h2 : A < (q + 1) * B) (hq : q % 2 = 1) : rnd A B = q + 1 := by
 obtain ⟨r, hr⟩ : ∃ r, A = q * B + r := ⟨A - q * B, by omega⟩
 rw [Nat.add_mul, Nat.one_mul] at h2
 rw [rnd_eq hr (by omega), if_neg (by omega)]
 split
 ·rfl
 ·omega

end Go.Proofs.YtgolhmiocjpohaaGreatDoor

namespace Go.Proofs.YtgolhmiocjpohaaGreatDoor

/-- The binary exponent of a power of ten. -/
def lpOf (p : Int) : Int := p * 108853 / 32768

theorem tens_ratio {p : Int} {i : Nat} (hi : p + 348 = i) (u v : Nat) (h : (u : Int) - v = 127 - lpOf p) :
  tenN i * (10 ^ (-p).toNat * 2 ^ v) = 10 ^ p.toNat * 2 ^ u * tenD i := by
 unfold tenN tenD
 unfold lpOf at h
 by_cases hc : 348 ≤ i
 ·rw [if_pos hc, if_pos hc]
  obtain ⟨k, rfl⟩ : ∃ k : Nat, p = k := ⟨p.toNat, by omega⟩
  rw [show i - 348 = k by omega, show (-(k : Int)).toNat = 0 by omega, show ((k : Int)).toNat = k by omega, Nat.pow_zero, Nat.one_mul]
  have e : 127 + v = u + k * 108853 / 32768 := by omega
  rw [Nat.mul_assoc, ← Nat.pow_add, e, Nat.pow_add, Nat.mul_assoc]
 ·rw [if_neg hc, if_neg hc]
  obtain ⟨q, hq⟩ : ∃ q : Nat, p = -(q : Int) := ⟨(-p).toNat, by omega⟩
  subst hq
  rw [show 348 - i = q by omega, show (- -(q : Int)).toNat = q by omega, show (-(q : Int)).toNat = 0 by omega, Nat.pow_zero, Nat.one_mul]
  have e : 127 + (q * 108853 + 32767) / 32768 + v = u := by omega
  rw [← e, Nat.pow_add 2 (127 + (q * 108853 + 32767) / 32768) v]
  ac_rfl

/-- The value that the fast road scales, by its quotient. -/
theorem scaled_eq {d : Nat} {p e : Int} {i b s : Nat} (hi : p + 348 = i) (hb64 : b ≤ 64) (hs : (s : Int) = 61 - e - b - lpOf p) (he1 : -2000 ≤ e) (hl1 : -2000 ≤ lpOf p) (hl2 : lpOf p ≤ 2000) (he2 : e ≤ 1074) :
  ∃ u v : Nat, (u : Int) - v = e + 2 ∧ d * 2 ^ (64 - b) * tenN i * (10 ^ (-p).toNat * 2 ^ v) = d * 10 ^ p.toNat * 2 ^ u * (tenD i * 2 ^ (128 + s)) := by
 obtain ⟨u, hu⟩ : ∃ u : Nat, (u : Int) = 5000 + e + 2 := ⟨(5000 + e + 2).toNat, by omega⟩
 obtain ⟨t, ht⟩ : ∃ t : Nat, (t : Int) = 5000 + 127 - lpOf p := ⟨(5000 + 127 - lpOf p).toNat, by omega⟩
 obtain ⟨v, hv⟩ : ∃ v : Nat, v = 5000 := ⟨_, rfl⟩
 refine ⟨u, v, by omega, ?_⟩
 have h := tens_ratio hi t v (by omega)
 rw [Nat.mul_assoc, h]
 have e2 : (2 : Nat) ^ (64 - b) * 2 ^ t = 2 ^ u * 2 ^ (128 + s) := by
  rw [← Nat.pow_add, ← Nat.pow_add]
  congr 1
  omega
 have e3 : d * 2 ^ (64 - b) * (10 ^ p.toNat * 2 ^ t * tenD i) = d * 10 ^ p.toNat * tenD i * (2 ^ (64 - b) * 2 ^ t) := by ac_rfl
 rw [e3, e2]
 generalize (2 : Nat) ^ (128 + s) = W
 generalize (2 : Nat) ^ u = V
 ac_rfl

theorem isLog_lo {A B t u v : Nat} {E : Int} (hE : IsLog A B E) (hB : 0 < B) (h : 2 ^ t * (B * 2 ^ v) ≤ A * 2 ^ u) : (t : Int) + v - u ≤ E := by
 obtain ⟨k, hk⟩ : ∃ k : Nat, (k : Int) = E.natAbs := ⟨_, rfl⟩
 obtain ⟨q, hq⟩ : ∃ q : Nat, (q : Int) = u + k + E := ⟨(u + k + E).toNat, by omega⟩
 have h1 := (hE q (u + k) (by omega)).2
 have h2 : 2 ^ t * (B * 2 ^ v) * 2 ^ k ≤ A * 2 ^ u * 2 ^ k := Nat.mul_le_mul_right _ h
 have h3 : B * 2 ^ (t + v + k) < B * 2 ^ (q + 1) := by
  have e1 : B * 2 ^ (t + v + k) = 2 ^ t * (B * 2 ^ v) * 2 ^ k := by rw [Nat.pow_add, Nat.pow_add]; ac_rfl
  have e2 : A * 2 ^ (u + k) = A * 2 ^ u * 2 ^ k := by rw [Nat.pow_add]; ac_rfl
  have e3 : B * 2 ^ (q + 1) = 2 * (B * 2 ^ q) := by rw [Nat.pow_succ]; ac_rfl
  rw [e1, e3]
  rw [e2] at h1
  exact Nat.lt_of_le_of_lt h2 h1
 have := pow_lt_two (Nat.lt_of_mul_lt_mul_left h3)
 omega

theorem isLog_hi {A B t u v : Nat} {E : Int} (hE : IsLog A B E) (hB : 0 < B) (h : A * 2 ^ u < 2 ^ t * (B * 2 ^ v)) : E < (t : Int) + v - u := by
 obtain ⟨k, hk⟩ : ∃ k : Nat, (k : Int) = E.natAbs := ⟨_, rfl⟩
 obtain ⟨q, hq⟩ : ∃ q : Nat, (q : Int) = u + k + E := ⟨(u + k + E).toNat, by omega⟩
 have h1 := (hE q (u + k) (by omega)).1
 have h2 : A * 2 ^ u * 2 ^ k < 2 ^ t * (B * 2 ^ v) * 2 ^ k := Nat.mul_lt_mul_of_pos_right h (two_pos k)
 have h3 : B * 2 ^ q < B * 2 ^ (t + v + k) := by
  have e1 : B * 2 ^ (t + v + k) = 2 ^ t * (B * 2 ^ v) * 2 ^ k := by rw [Nat.pow_add, Nat.pow_add]; ac_rfl
  have e2 : A * 2 ^ (u + k) = A * 2 ^ u * 2 ^ k := by rw [Nat.pow_add]; ac_rfl
  rw [e1]
  rw [e2] at h1
  exact Nat.lt_of_le_of_lt h1 h2
 have := pow_lt_two (Nat.lt_of_mul_lt_mul_left h3)
 omega

/-- A bound on one form of a quotient is one on the other. -/
theorem cross_le {X Y P Q t : Nat} (hY : 0 < Y) (hQ : 0 < Q) (h : X * Q = P * Y) : t * Y ≤ X ↔ t * Q ≤ P := by
 constructor
 ·intro h1
  have h2 : t * Y * Q ≤ X * Q := Nat.mul_le_mul_right _ h1
  rw [h, Nat.mul_right_comm] at h2
  exact Nat.le_of_mul_le_mul_right h2 hY
 ·intro h1
  have h2 : t * Q * Y ≤ P * Y := Nat.mul_le_mul_right _ h1
  rw [← h, Nat.mul_right_comm] at h2
  exact Nat.le_of_mul_le_mul_right h2 hQ

theorem cross_lt {X Y P Q t : Nat} (hY : 0 < Y) (hQ : 0 < Q) (h : X * Q = P * Y) : X < t * Y ↔ P < t * Q := by
 have := cross_le (t := t) hY hQ h
 omega

/-- What the fast road computes. -/
theorem parse_rung {d : Nat} {p e : Int} {i b s : Nat} (hb0 : 0 < b) (hb1 : 2 ^ (b - 1) ≤ d) (hb2 : d < 2 ^ b) (hb64 : b ≤ 64) (hi : p + 348 = i) (hi2 : i < 696)
  (he : e = min 1074 (53 - b - lpOf p)) (hs : (s : Int) = 61 - e - b - lpOf p) (hs63 : s ≤ 63) :
  unr (d * 2 ^ (64 - b) * tenN i) (tenD i * 2 ^ (128 + s)) < 2 ^ 56 - 16 ∧
  (unr (d * 2 ^ (64 - b) * tenN i) (tenD i * 2 ^ (128 + s)) < 2 ^ 55 - 2 →
   rnd4 (unr (d * 2 ^ (64 - b) * tenN i) (tenD i * 2 ^ (128 + s))) < 2 ^ 53 ∧ (e ≠ 1074 → 2 ^ 52 ≤ rnd4 (unr (d * 2 ^ (64 - b) * tenN i) (tenD i * 2 ^ (128 + s)))) ∧
   ∀ c : Nat, (c : Int) = 1074 - e → Rung (d * 10 ^ p.toNat) (10 ^ (-p).toNat) (c * 2 ^ 52 + rnd4 (unr (d * 2 ^ (64 - b) * tenN i) (tenD i * 2 ^ (128 + s))))) ∧
  (2 ^ 55 - 2 ≤ unr (d * 2 ^ (64 - b) * tenN i) (tenD i * 2 ^ (128 + s)) →
   rnd4 (unr (d * 2 ^ (64 - b) * tenN i) (tenD i * 2 ^ (128 + s)) / 2 ||| unr (d * 2 ^ (64 - b) * tenN i) (tenD i * 2 ^ (128 + s)) % 2) < 2 ^ 53 ∧
   2 ^ 52 ≤ rnd4 (unr (d * 2 ^ (64 - b) * tenN i) (tenD i * 2 ^ (128 + s)) / 2 ||| unr (d * 2 ^ (64 - b) * tenN i) (tenD i * 2 ^ (128 + s)) % 2) ∧
   ∀ c : Nat, (c : Int) = 1074 - e → Rung (d * 10 ^ p.toNat) (10 ^ (-p).toNat) ((c + 1) * 2 ^ 52 + rnd4 (unr (d * 2 ^ (64 - b) * tenN i) (tenD i * 2 ^ (128 + s)) / 2 ||| unr (d * 2 ^ (64 - b) * tenN i) (tenD i * 2 ^ (128 + s)) % 2))) := by
 have hl1 : -1200 ≤ lpOf p := by unfold lpOf; omega
 have hl2 : lpOf p ≤ 1200 := by unfold lpOf; omega
 have hs8 : 8 ≤ s := by omega
 obtain ⟨u, v, huv, hcr⟩ := scaled_eq (d := d) hi hb64 hs (by omega) (by omega) (by omega) (by omega)
 have hr := row_is hi2
 have hdp : 0 < d := Nat.lt_of_lt_of_le (two_pos _) hb1
 have hx1 : 2 ^ 63 ≤ d * 2 ^ (64 - b) := by
  have h1 : 2 ^ (b - 1) * 2 ^ (64 - b) ≤ d * 2 ^ (64 - b) := Nat.mul_le_mul_right _ hb1
  rwa [← Nat.pow_add, show b - 1 + (64 - b) = 63 by omega] at h1
 have hx2 : d * 2 ^ (64 - b) < 2 ^ 64 := by
  have h1 : d * 2 ^ (64 - b) < 2 ^ b * 2 ^ (64 - b) := Nat.mul_lt_mul_of_pos_right hb2 (two_pos _)
  rwa [← Nat.pow_add, show b + (64 - b) = 64 by omega] at h1
 have hA : 0 < d * 10 ^ p.toNat := Nat.mul_pos hdp (Nat.pow_pos (by omega))
 have hB : 0 < 10 ^ (-p).toNat := Nat.pow_pos (by omega)
 generalize d * 10 ^ p.toNat = A at *
 generalize 10 ^ (-p).toNat = B at *
 generalize d * 2 ^ (64 - b) = x at *
 have hDp := tenD_pos i
 have hY : 0 < tenD i * 2 ^ (128 + s) := Nat.mul_pos hDp (two_pos _)
 have hQ : 0 < B * 2 ^ v := Nat.mul_pos hB (two_pos _)
 -- below
 have hlow : s = 8 → 2 ^ 54 * (tenD i * 2 ^ (128 + s)) ≤ x * tenN i := by
  intro h8
  have h1 : 2 ^ 63 * (2 ^ 127 * tenD i) ≤ x * tenN i := Nat.mul_le_mul hx1 hr.big
  rw [h8]
  have e1 : 2 ^ 54 * (tenD i * 2 ^ (128 + 8)) = 2 ^ 63 * (2 ^ 127 * tenD i) := by
   rw [show (2 : Nat) ^ (128 + 8) = 2 ^ 136 by decide]
   omega
  omega
 -- above
 have hhigh : x * tenN i < (2 ^ 56 - 16) * (tenD i * 2 ^ (128 + s)) := by
  have h1 : x * tenN i ≤ (2 ^ 64 - 1) * ((2 ^ 128 - 2 ^ 76) * tenD i) :=
   Nat.mul_le_mul (by omega) (Nat.le_trans hr.le (Nat.mul_le_mul_right _ hr.most))
  have h2 : tenD i * 2 ^ 136 ≤ tenD i * 2 ^ (128 + s) := Nat.mul_le_mul_left _ (Nat.pow_le_pow_right (by omega) (by omega))
  have h3 : (2 ^ 56 - 16) * (tenD i * 2 ^ 136) ≤ (2 ^ 56 - 16) * (tenD i * 2 ^ (128 + s)) := Nat.mul_le_mul_left _ h2
  have h4 : (2 ^ 64 - 1) * ((2 ^ 128 - 2 ^ 76) * tenD i) < (2 ^ 56 - 16) * (tenD i * 2 ^ 136) := by omega
  omega
 generalize tenD i * 2 ^ (128 + s) = Y at *
 generalize x * tenN i = X at *
 have g1 := unr_ge X Y (2 ^ 54 - 1) hY
 have g2 := unr_ge X Y (2 ^ 55 - 8) hY
 have g3 := unr_ge X Y (2 ^ 53) hY
 obtain ⟨E, hE⟩ := IsLog.exists hA hB
 have hU : unr X Y < 2 ^ 56 - 16 := by
  apply Classical.byContradiction
  intro hn
  have := g2.1 (by omega)
  have e1 : 2 * (2 ^ 55 - 8) * Y = (2 ^ 56 - 16) * Y := by rw [show 2 * (2 ^ 55 - 8) = 2 ^ 56 - 16 by decide]
  omega
 have hloE : s = 8 → 52 - e ≤ E := by
  intro h8
  have := isLog_lo (t := 54) hE hB ((cross_le hY hQ hcr).1 (hlow h8))
  omega
 have hs81 : e ≠ 1074 → s = 8 := by intro h; omega
 have hrA : rnd4 (unr X Y) = rnd (A * 2 ^ u) (B * 2 ^ (v + 2)) := by
  rw [rnd4_unr X Y hY]
  refine rnd_congr (Nat.mul_pos hY (by omega)) (Nat.mul_pos hB (two_pos _)) ?_
  rw [Nat.pow_add, ← Nat.mul_assoc B, show (2 : Nat) ^ 2 = 4 from rfl, ← Nat.mul_assoc X, hcr]
  exact Nat.mul_assoc _ _ _
 have hrB : rnd4 (unr X Y / 2 ||| unr X Y % 2) = rnd (A * 2 ^ u) (B * 2 ^ (v + 3)) := by
  rw [← unr_half X Y hY, rnd4_unr X (Y * 2) (by omega)]
  refine rnd_congr (Nat.mul_pos (Nat.mul_pos hY (by omega)) (by omega)) (Nat.mul_pos hB (two_pos _)) ?_
  rw [Nat.pow_add, ← Nat.mul_assoc B, show (2 : Nat) ^ 3 = 8 from rfl, ← Nat.mul_assoc X, hcr]
  rw [Nat.mul_assoc Y, show 2 * 4 = 8 from rfl]
  exact Nat.mul_assoc _ _ _
 refine ⟨hU, fun hlt => ?_, fun hge => ?_⟩
 ·have hXl : X < 2 ^ 55 * Y := by
   apply Classical.byContradiction
   intro hn
   have h1 := g1.2 (by
    have : 2 * (2 ^ 54 - 1) * Y ≤ 2 ^ 55 * Y := Nat.mul_le_mul_right _ (by decide)
    omega)
   omega
  have hEh := isLog_hi (t := 55) hE hB ((cross_lt hY hQ hcr).1 hXl)
  have hm1 : rnd4 (unr X Y) < 2 ^ 53 := by unfold rnd4; omega
  refine ⟨hm1, fun hne => ?_, fun c hc => ?_⟩
  ·have h1 := hlow (hs81 hne)
   have h2 := g3.2 (by rw [show 2 * 2 ^ 53 = 2 ^ 54 by decide]; exact h1)
   unfold rnd4
   omega
  ·rw [hrA]
   by_cases h74 : e = 1074
   ·refine Rung.of hA hB hE u (v + 2) c ?_ ?_ rfl
    ·unfold expOf; omega
    ·unfold expOf; omega
   ·have := hloE (hs81 h74)
    refine Rung.of hA hB hE u (v + 2) c ?_ ?_ rfl
    ·unfold expOf; omega
    ·unfold expOf; omega
 ·have hXg := g1.1 (by omega)
  have e1 : 2 * (2 ^ 54 - 1) * Y = (2 ^ 55 - 2) * Y := by rw [show 2 * (2 ^ 54 - 1) = 2 ^ 55 - 2 by decide]
  rw [e1] at hXg
  have hloE2 : 52 - e ≤ E := by
   have := isLog_lo (t := 54) hE hB ((cross_le hY hQ hcr).1 (by omega))
   omega
  have hhalf : unr X Y / 2 ||| unr X Y % 2 ≤ 2 ^ 55 - 9 + 1 := by
   rcases Nat.mod_two_eq_zero_or_one (unr X Y) with h | h
   ·rw [h, Nat.or_zero]; omega
   ·rw [h, or_one]; omega
  have hhalf2 : 2 ^ 54 - 1 ≤ unr X Y / 2 ||| unr X Y % 2 := by
   rcases Nat.mod_two_eq_zero_or_one (unr X Y) with h | h
   ·rw [h, Nat.or_zero]; omega
   ·rw [h, or_one]; omega
  refine ⟨by unfold rnd4; omega, ?_, fun c hc => ?_⟩
  ·unfold rnd4
   generalize unr X Y / 2 ||| unr X Y % 2 = U at *
   by_cases h : U = 2 ^ 54 - 1
   ·subst h; decide
   ·omega
  ·rw [hrB]
   by_cases hX : 2 ^ 55 * Y ≤ X
   ·have h1 := isLog_lo (t := 55) hE hB ((cross_le hY hQ hcr).1 hX)
    have h2 := isLog_hi (t := 56) hE hB ((cross_lt hY hQ hcr).1 (by omega))
    refine Rung.of hA hB hE u (v + 3) (c + 1) ?_ ?_ rfl
    ·unfold expOf; omega
    ·unfold expOf; omega
   ·have h2 := isLog_hi (t := 55) hE hB ((cross_lt hY hQ hcr).1 (by omega))
    refine Rung.of hA hB hE u (v + 2) c ?_ ?_ ?_
    ·unfold expOf; omega
    ·unfold expOf; omega
    ·rw [← hrA, ← hrB, rnd4_unr X Y hY, ← unr_half X Y hY, rnd4_unr X (Y * 2) (by omega)]
     have r1 : rnd X (Y * 4) = 2 ^ 53 - 1 + 1 := rnd_half (by omega) (by omega) (by decide)
     have r2 : rnd X (Y * 2 * 4) = 2 ^ 52 - 1 + 1 := rnd_half (by omega) (by omega) (by decide)
     rw [r1, r2]
     omega

/-- Too small for a float. -/
theorem parse_tiny {d : Nat} {p : Int} {i b : Nat} (hd : 0 < d) (hb2 : d < 2 ^ b) (hi : p + 348 = i) (hi2 : i < 696) (h : (b : Int) + lpOf p ≤ -1077) : Rung (d * 10 ^ p.toNat) (10 ^ (-p).toNat) 0 := by
 have hl1 : -2000 ≤ lpOf p := by unfold lpOf; omega
 have hl2 : lpOf p ≤ 2000 := by unfold lpOf; omega
 have hr := row_is hi2
 have hDp := tenD_pos i
 obtain ⟨v, hv⟩ : ∃ v : Nat, v = 5000 := ⟨_, rfl⟩
 obtain ⟨t, ht⟩ : ∃ t : Nat, (t : Int) = v + 127 - lpOf p := ⟨(v + 127 - lpOf p).toNat, by omega⟩
 have h1 := tens_ratio hi t v (by omega)
 have h2 : tenN i < 2 ^ 128 * tenD i := by
  have h3 : (tabHi i * 2 ^ 64 - tabLo i) * tenD i ≤ (2 ^ 128 - 2 ^ 76) * tenD i := Nat.mul_le_mul_right _ hr.most
  have := hr.le
  omega
 have hA : 0 < d * 10 ^ p.toNat := Nat.mul_pos hd (Nat.pow_pos (by omega))
 have hB : 0 < 10 ^ (-p).toNat := Nat.pow_pos (by omega)
 have h3 : 10 ^ p.toNat * 2 ^ t < 2 ^ 128 * (10 ^ (-p).toNat * 2 ^ v) := by
  have h4 : tenN i * (10 ^ (-p).toNat * 2 ^ v) < 2 ^ 128 * tenD i * (10 ^ (-p).toNat * 2 ^ v) := Nat.mul_lt_mul_of_pos_right h2 (Nat.mul_pos hB (two_pos _))
  rw [h1, show 2 ^ 128 * tenD i * (10 ^ (-p).toNat * 2 ^ v) = 2 ^ 128 * (10 ^ (-p).toNat * 2 ^ v) * tenD i by ac_rfl] at h4
  exact Nat.lt_of_mul_lt_mul_right h4
 obtain ⟨E, hE⟩ := IsLog.exists hA hB
 have h5 : d * 10 ^ p.toNat * 2 ^ t < 2 ^ (b + 128) * (10 ^ (-p).toNat * 2 ^ v) := by
  have h6 : d * (10 ^ p.toNat * 2 ^ t) < 2 ^ b * (2 ^ 128 * (10 ^ (-p).toNat * 2 ^ v)) := by
   have h7 : d * (10 ^ p.toNat * 2 ^ t) ≤ 2 ^ b * (10 ^ p.toNat * 2 ^ t) := Nat.mul_le_mul_right _ (by omega)
   have h8 : 2 ^ b * (10 ^ p.toNat * 2 ^ t) < 2 ^ b * (2 ^ 128 * (10 ^ (-p).toNat * 2 ^ v)) := Nat.mul_lt_mul_of_pos_left h3 (two_pos _)
   omega
  rw [Nat.pow_add, Nat.mul_assoc, Nat.mul_assoc (2 ^ b)]
  exact h6
 have hEh := isLog_hi hE hB h5
 have hlt : ∀ M : Nat, M = 1074 → d * 10 ^ p.toNat * 2 ^ (M + 1) < 10 ^ (-p).toNat := by
  intro M hM
  obtain ⟨k, hk⟩ : ∃ k : Nat, (k : Int) = E.natAbs := ⟨_, rfl⟩
  obtain ⟨q, hq⟩ : ∃ q : Nat, (q : Int) = k + E := ⟨(k + E).toNat, by omega⟩
  have h6 := (hE q k (by omega)).2
  have e1 : 2 * (10 ^ (-p).toNat * 2 ^ q) = 10 ^ (-p).toNat * 2 ^ (q + 1) := by rw [Nat.pow_succ]; ac_rfl
  rw [e1] at h6
  have h7 : d * 10 ^ p.toNat * 2 ^ (M + 1 + (q + 1)) ≤ d * 10 ^ p.toNat * 2 ^ k := mul_two_mono _ (by omega)
  rw [Nat.pow_add 2 (M + 1), ← Nat.mul_assoc] at h7
  exact Nat.lt_of_mul_lt_mul_right (Nat.lt_of_le_of_lt h7 h6)
 obtain ⟨M, hM⟩ : ∃ M : Nat, M = 1074 := ⟨_, rfl⟩
 exact Rung.none_at hM hB hA (hlt M hM) hE

end Go.Proofs.YtgolhmiocjpohaaGreatDoor

namespace Go.Proofs.YtgolhmiocjpohaaGreatDoor

theorem rnd_mono_same {X X' D : Nat} (hD : 0 < D) (h : X ≤ X') : rnd X D ≤ rnd X' D := by
 have h1 : X / D ≤ X' / D := Nat.div_le_div_right h
 have h2 := Nat.div_add_mod X D
 have h3 := Nat.div_add_mod X' D
 have h4 := Nat.mod_lt X hD
 have h5 := Nat.mod_lt X' hD
 unfold rnd
 generalize X / D = q at *
 generalize X' / D = q' at *
 generalize X % D = r at *
 generalize X' % D = r' at *
 by_cases hq : q = q'
 ·subst hq
  have : r ≤ r' := by omega
  split <;> split <;> (try split) <;> (try split) <;> omega
 ·have : q + 1 ≤ q' := by omega
  split <;> split <;> (try split) <;> (try split) <;> omega

theorem rnd_mono {A B A' B' : Nat} (hB : 0 < B) (hB' : 0 < B') (h : A * B' ≤ A' * B) : rnd A B ≤ rnd A' B' := by
 rw [← rnd_mul A B B' hB', ← rnd_mul A' B' B hB, Nat.mul_comm B' B]
 exact rnd_mono_same (Nat.mul_pos hB hB') h

theorem le_rnd' {A B n : Nat} (hB : 0 < B) (h : n * B ≤ A) : n ≤ rnd A B := by
 have h1 := rnd_mono_same hB h
 rwa [rnd_eq (q := n) (r := 0) (by omega) hB, if_pos (by omega)] at h1

theorem log_mono {A B A' B' : Nat} {E E' : Int} (hB : 0 < B) (hB' : 0 < B') (h : A * B' ≤ A' * B) (hE : IsLog A B E) (hE' : IsLog A' B' E') : E ≤ E' := by
 obtain ⟨q, hq⟩ : ∃ q : Nat, (q : Int) = E.natAbs := ⟨_, rfl⟩
 obtain ⟨p, hp⟩ : ∃ p : Nat, (p : Int) - q = E := ⟨(E + q).toNat, by omega⟩
 have h1 := (hE p q hp).1
 have h2 : B' * 2 ^ p ≤ A' * 2 ^ q := by
  have h3 : B * 2 ^ p * B' ≤ A * 2 ^ q * B' := Nat.mul_le_mul_right _ h1
  have h4 : A * B' * 2 ^ q ≤ A' * B * 2 ^ q := Nat.mul_le_mul_right _ h
  have e1 : B * 2 ^ p * B' = B * (B' * 2 ^ p) := by ac_rfl
  have e2 : A * 2 ^ q * B' = A * B' * 2 ^ q := by ac_rfl
  have e3 : A' * B * 2 ^ q = B * (A' * 2 ^ q) := by ac_rfl
  rw [e1, e2] at h3
  rw [e3] at h4
  exact Nat.le_of_mul_le_mul_left (Nat.le_trans h3 h4) hB
 have h5 := isLog_lo (t := 0) (u := q) (v := p) hE' hB' (by rw [Nat.pow_zero, Nat.one_mul]; exact h2)
 omega

/-- The nearest float grows with the value. -/
theorem Rung.mono {A B A' B' r r' : Nat} (hB : 0 < B) (hB' : 0 < B') (h : A * B' ≤ A' * B) (hr : Rung A B r) (hr' : Rung A' B' r') : r ≤ r' := by
 rcases hr with ⟨h0, hr⟩ | ⟨h0, E, hE, hr⟩
 ·omega
 rcases hr' with ⟨h0', hr'⟩ | ⟨h0', E', hE', hr'⟩
 ·rw [h0', Nat.zero_mul] at h
  have := Nat.mul_pos h0 hB'
  omega
 have hEE := log_mono hB hB' h hE hE'
 obtain ⟨v, hv⟩ : ∃ v : Nat, (v : Int) = 60 + (expOf E).natAbs + (expOf E').natAbs := ⟨_, rfl⟩
 obtain ⟨u, hu⟩ : ∃ u : Nat, (u : Int) - v = 52 - expOf E := ⟨(v + 52 - expOf E).toNat, by omega⟩
 obtain ⟨u', hu'⟩ : ∃ u' : Nat, (u' : Int) - v = 52 - expOf E' := ⟨(v + 52 - expOf E').toNat, by omega⟩
 obtain ⟨c, hc⟩ : ∃ c : Nat, (c : Int) = expOf E + 1022 := ⟨(expOf E + 1022).toNat, by unfold expOf; omega⟩
 obtain ⟨c', hc'⟩ : ∃ c' : Nat, (c' : Int) = expOf E' + 1022 := ⟨(expOf E' + 1022).toNat, by unfold expOf; omega⟩
 have h1 := hr u v c hu hc
 have h2 := hr' u' v c' hu' hc'
 have hexp : expOf E ≤ expOf E' := by unfold expOf; omega
 have hp : ∀ B : Nat, 0 < B → 0 < B * 2 ^ v := fun B hB => Nat.mul_pos hB (two_pos v)
 by_cases he : expOf E = expOf E'
 ·have e1 : u = u' := by omega
  have e2 : c = c' := by omega
  subst e1
  subst e2
  have h3 : rnd (A * 2 ^ u) (B * 2 ^ v) ≤ rnd (A' * 2 ^ u) (B' * 2 ^ v) := by
   refine rnd_mono (hp B hB) (hp B' hB') ?_
   have h4 : A * B' * (2 ^ u * 2 ^ v) ≤ A' * B * (2 ^ u * 2 ^ v) := Nat.mul_le_mul_right _ h
   have e1 : A * 2 ^ u * (B' * 2 ^ v) = A * B' * (2 ^ u * 2 ^ v) := by ac_rfl
   have e2 : A' * 2 ^ u * (B * 2 ^ v) = A' * B * (2 ^ u * 2 ^ v) := by ac_rfl
   rw [e1, e2]
   exact h4
  omega
 ·have hE2 : expOf E' = E' := by unfold expOf at *; omega
  have hup : rnd (A * 2 ^ u) (B * 2 ^ v) ≤ 2 ^ 53 := by
   refine rnd_le (hp B hB) ?_
   obtain ⟨d, hd⟩ : ∃ d : Nat, (d : Int) = E.natAbs := ⟨_, rfl⟩
   obtain ⟨p, hp'⟩ : ∃ p : Nat, (p : Int) = u + d + E := ⟨(u + d + E).toNat, by omega⟩
   have h3 := (hE p (u + d) (by omega)).2
   have hle : p ≤ v + 52 + d := by unfold expOf at *; omega
   have h4 : 2 * (B * 2 ^ p) ≤ 2 * (B * 2 ^ (v + 52 + d)) := Nat.mul_le_mul_left _ (mul_two_mono B hle)
   have h5 := Nat.lt_of_lt_of_le h3 h4
   rw [Nat.pow_add 2 u d, Nat.pow_add 2 (v + 52) d, Nat.pow_add 2 v 52] at h5
   have e1 : A * (2 ^ u * 2 ^ d) = A * 2 ^ u * 2 ^ d := by ac_rfl
   have e2 : 2 * (B * (2 ^ v * 2 ^ 52 * 2 ^ d)) = 2 * 2 ^ 52 * (B * 2 ^ v) * 2 ^ d := by ac_rfl
   rw [e1, e2] at h5
   have h6 := Nat.lt_of_mul_lt_mul_right h5
   exact Nat.le_of_lt h6
  have hdn : 2 ^ 52 ≤ rnd (A' * 2 ^ u') (B' * 2 ^ v) := by
   refine le_rnd' (hp B' hB') ?_
   have h3 := (hE' (v + 52) u' (by omega)).1
   rw [Nat.pow_add] at h3
   have e1 : 2 ^ 52 * (B' * 2 ^ v) = B' * (2 ^ v * 2 ^ 52) := by ac_rfl
   rw [e1]
   exact h3
  have hcc : c + 1 ≤ c' := by omega
  have h5 : (c + 1) * 2 ^ 52 ≤ c' * 2 ^ 52 := Nat.mul_le_mul_right _ hcc
  rw [Nat.add_mul] at h5
  omega

end Go.Proofs.YtgolhmiocjpohaaGreatDoor

namespace Go.Proofs.YtgolhmiocjpohaaGreatDoor

/-- The weight of a sign. -/
def sgv (neg : Bool) : Nat := if neg then 9223372036854775808 else 0

/-- 1074, as a name. -/
@[irreducible] def deep : Nat := 1074
theorem deep_eq : deep = 1074 := by unfold deep; rfl

theorem cut_even (neg : Bool) (n drop : Nat) : Ieee.Toward.even.cut neg n drop = rnd n (2 ^ drop) := by
 have key : ∀ k, k ≤ drop → (k = drop ∨ 2 * n < 2 ^ k) → n / 2 ^ k + (decide (2 ^ k < 2 * (n % 2 ^ k)) || (2 ^ k == 2 * (n % 2 ^ k) && n / 2 ^ k % 2 == 1)).toNat = rnd n (2 ^ drop) := by
  intro k hk h
  rcases h with rfl | h
  ·unfold rnd
   by_cases h1 : 2 * (n % 2 ^ k) < 2 ^ k
   ·rw [if_pos h1]
    have e1 : decide (2 ^ k < 2 * (n % 2 ^ k)) = false := decide_eq_false (by omega)
    have e2 : (2 ^ k == 2 * (n % 2 ^ k)) = false := beq_eq_false_iff_ne.2 (by omega)
    rw [e1, e2]; rfl
   ·rw [if_neg h1]
    by_cases h2 : 2 ^ k < 2 * (n % 2 ^ k)
    ·rw [if_pos h2, decide_eq_true h2]; rfl
    ·rw [if_neg h2, decide_eq_false h2]
     have e2 : (2 ^ k == 2 * (n % 2 ^ k)) = true := beq_iff_eq.2 (by omega)
     rw [e2]
     rcases Nat.mod_two_eq_zero_or_one (n / 2 ^ k) with h | h <;> rw [h] <;> rfl
  ·have hp := two_mono hk
   have hn : n < 2 ^ k := by omega
   rw [Nat.div_eq_of_lt hn, Nat.mod_eq_of_lt hn]
   unfold rnd
   have hn2 : n < 2 ^ drop := by omega
   rw [Nat.div_eq_of_lt hn2, Nat.mod_eq_of_lt hn2, if_pos (by omega)]
   have e1 : decide (2 ^ k < 2 * n) = false := decide_eq_false (by omega)
   have e2 : (2 ^ k == 2 * n) = false := beq_eq_false_iff_ne.2 (by omega)
   rw [e1, e2]; rfl
 unfold Ieee.Toward.cut
 simp only [Nat.one_shiftLeft]
 refine key (min drop (n.log2 + 2)) (Nat.min_le_left _ _) ?_
 by_cases h : drop ≤ n.log2 + 2
 ·exact Or.inl (Nat.min_eq_left h)
 ·right
  rw [Nat.min_eq_right (by omega)]
  rcases Nat.eq_zero_or_pos n with h0 | h0
  ·subst h0; exact two_pos _
  ·have := Nat.lt_log2_self (n := n)
   rw [Nat.pow_succ]
   omega

theorem word_eq (neg : Bool) (r : Nat) : Ieee.double.word neg r = sgv neg + r := by
 cases neg
 ·simp [Ieee.Format.word, sgv]
 ·simp only [Ieee.Format.word, sgv, if_true]
  rw [show Ieee.double.signWeight = 9223372036854775808 from by decide]

/-- The nearest word is the one at the nearest rung. -/
theorem nearest_is (neg : Bool) {mag r : Nat} {place : Int} {A B : Nat} (hB : 0 < B) (hr : Rung A B r) (he : mag * 2 ^ place.toNat * B = A * 2 ^ (-place).toNat) : Ieee.double.nearest neg mag place = sgv neg + cutRung r := by
 have hr' : Rung (mag * 2 ^ place.toNat) (2 ^ (-place).toNat) r := hr.congr hB (two_pos _) he.symm
 clear hr he hB
 unfold Ieee.Format.nearest
 by_cases h0 : mag = 0
 ·rw [if_pos h0, word_eq]
  subst h0
  rw [Nat.zero_mul] at hr'
  have : r = 0 := hr'.unique (Or.inl ⟨rfl, rfl⟩)
  subst this
  rfl
 ·rw [if_neg h0]
  have hlp : Ieee.double.leastPlace = -1074 := by decide
  have hfb : Ieee.double.fractionBits = 52 := rfl
  have hb : Ieee.double.binade = 2 ^ 52 := rfl
  have hi : Ieee.double.infRung = 9218868437227405312 := by decide
  simp only [hlp, hfb, hb, hi, word_eq, cut_even, Nat.shiftLeft_eq]
  congr 1
  have hlog : IsLog (mag * 2 ^ place.toNat) (2 ^ (-place).toNat) (place + mag.log2) := by
   obtain ⟨l1, l2⟩ := log2_bounds h0
   generalize mag.log2 = l at *
   refine IsLog.of (place.toNat + l) (-place).toNat (by omega) ?_ ?_
   ·rw [Nat.pow_add, Nat.mul_comm]
    have h1 : 2 ^ l * (2 ^ place.toNat * 2 ^ (-place).toNat) ≤ mag * (2 ^ place.toNat * 2 ^ (-place).toNat) := Nat.mul_le_mul_right _ l1
    have e1 : 2 ^ place.toNat * 2 ^ l * 2 ^ (-place).toNat = 2 ^ l * (2 ^ place.toNat * 2 ^ (-place).toNat) := by ac_rfl
    rw [e1, Nat.mul_assoc mag]
    exact h1
   ·have h1 : mag * (2 ^ place.toNat * 2 ^ (-place).toNat) < 2 ^ (l + 1) * (2 ^ place.toNat * 2 ^ (-place).toNat) := Nat.mul_lt_mul_of_pos_right l2 (Nat.mul_pos (two_pos _) (two_pos _))
    have e1 : 2 * (2 ^ (-place).toNat * 2 ^ (place.toNat + l)) = 2 ^ (l + 1) * (2 ^ place.toNat * 2 ^ (-place).toNat) := by
     rw [Nat.pow_add, Nat.pow_succ]; ac_rfl
    rw [e1, Nat.mul_assoc mag]
    exact h1
  rcases hr' with ⟨hz, _⟩ | ⟨_, E, hE, hrE⟩
  ·exact absurd hz (Nat.ne_of_gt (Nat.mul_pos (by omega) (two_pos _)))
  ·have hEe := hE.unique hlog
   subst hEe
   have hlast : max (place + (mag.log2 : Int) - ((52 : Nat) : Int)) (-1074) = expOf (place + mag.log2) - 52 := by unfold expOf; omega
   rw [hlast]
   obtain ⟨last, hl⟩ : ∃ last, last = expOf (place + mag.log2) - 52 := ⟨_, rfl⟩
   have hl2 : -1074 ≤ last := by unfold expOf at hl; omega
   rw [← hl]
   obtain ⟨c, hc⟩ : ∃ c : Nat, (c : Int) = last + 1074 := ⟨(last + 1074).toNat, by omega⟩
   have h1 := hrE ((-last).toNat) (last.toNat) c (by omega) (by omega)
   rw [show (last - -1074).toNat = c by omega]
   have h2 : rnd (mag * 2 ^ (place - last).toNat) (2 ^ (last - place).toNat) = rnd (mag * 2 ^ place.toNat * 2 ^ (-last).toNat) (2 ^ (-place).toNat * 2 ^ last.toNat) := by
    refine rnd_congr (two_pos _) (Nat.mul_pos (two_pos _) (two_pos _)) ?_
    rw [Nat.mul_assoc mag, Nat.mul_assoc mag, Nat.mul_assoc mag, ← Nat.pow_add, ← Nat.pow_add, ← Nat.pow_add, ← Nat.pow_add]
    congr 2
    omega
   rw [h2, ← h1]
   unfold cutRung
   by_cases h : 9218868437227405312 ≤ r
   ·rw [if_pos h, Nat.min_eq_right h]
   ·rw [if_neg h, Nat.min_eq_left (by omega)]

/-- A word stands for a whole number. -/
def WordIs (K v : Nat) (neg : Bool) : Prop := ∃ (m : Nat) (i : Int), Ieee.double.read K = .number neg m i ∧ -(deep : Int) ≤ i ∧ m * 2 ^ (i + deep).toNat = v * 2 ^ deep

theorem fBits_is (neg : Bool) {n : Nat} (h : n < 2 ^ 53) : WordIs (fBits neg n) n neg := by
 obtain ⟨m, i, h1, h2, h3, h4⟩ := read_fBits neg h
 have hd := deep_eq
 refine ⟨m, i, h1, by omega, ?_⟩
 have := h4 (-(deep : Int)) (by omega) (by omega)
 rw [show (i - -(deep : Int)).toNat = (i + deep).toNat by omega, show (- -(deep : Int)).toNat = deep by omega] at this
 exact this

theorem fBits_rung (neg : Bool) {n r : Nat} (hr : Rung n 1 r) : fBits neg n = sgv neg + cutRung r :=
 nearest_is neg (by omega) hr (by simp)

/-- The product of two whole numbers' words is the word nearest to their product. -/
theorem mul_is {x y a b r : Nat} {s : Bool} (hx : WordIs x a s) (hy : WordIs y b false) (hr : Rung (a * b) 1 r) : Ieee.double.mul x y = some (sgv s + cutRung r) := by
 obtain ⟨m, i, h1, h2, h3⟩ := hx
 obtain ⟨n, j, h4, h5, h6⟩ := hy
 unfold Ieee.Format.mul
 rw [h1, h4]
 show some (Ieee.double.nearest (s ^^ false) (m * n) (i + j)) = _
 rw [Bool.xor_false]
 congr 1
 refine nearest_is s (by omega) hr ?_
 have hp : 0 < 2 ^ (deep + deep) := two_pos _
 apply Nat.eq_of_mul_eq_mul_right hp
 have e1 : m * n * 2 ^ (i + j).toNat * 1 * 2 ^ (deep + deep) = (m * 2 ^ (i + deep).toNat) * (n * 2 ^ (j + deep).toNat) * 2 ^ (-(i + j)).toNat := by
  rw [Nat.mul_one]
  have e2 : (2 : Nat) ^ (i + j).toNat * 2 ^ (deep + deep) = 2 ^ (i + deep).toNat * 2 ^ (j + deep).toNat * 2 ^ (-(i + j)).toNat := by
   rw [← Nat.pow_add, ← Nat.pow_add, ← Nat.pow_add]
   congr 1
   omega
  rw [Nat.mul_assoc (m * n), e2]
  ac_rfl
 rw [e1, h3, h6, Nat.pow_add]
 ac_rfl

/-- Rounding further up does not ask more than whether anything is left. -/
theorem rnd_sticky {A B k : Nat} (hB : 0 < B) (hk : 1 ≤ k) : rnd A (B * 2 ^ k) = rnd (2 * (A / B) + (if A % B = 0 then 0 else 1)) (2 * 2 ^ k) := by
 obtain ⟨c, rfl⟩ : ∃ c, k = c + 1 := ⟨k - 1, by omega⟩
 have hq := Nat.div_add_mod A B
 have hr := Nat.mod_lt A hB
 generalize A / B = q at *
 generalize A % B = r at *
 have hP := two_pos c
 rw [Nat.pow_succ]
 generalize (2 : Nat) ^ c = P at *
 -- q by twice P
 obtain ⟨n, t, hn, ht⟩ : ∃ n t, q = n * (P * 2) + t ∧ t < P * 2 := ⟨q / (P * 2), q % (P * 2), by rw [Nat.mul_comm]; exact (Nat.div_add_mod _ _).symm, Nat.mod_lt _ (by omega)⟩
 have hA : A = n * (B * (P * 2)) + (B * t + r) := by
  rw [← hq, hn, Nat.mul_add]
  have : B * (n * (P * 2)) = n * (B * (P * 2)) := by ac_rfl
  omega
 have hle : B * (t + 1) ≤ B * (P * 2) := Nat.mul_le_mul_left _ ht
 rw [Nat.mul_add, Nat.mul_one] at hle
 rw [rnd_eq hA (by omega)]
 have hS : 2 * q + (if r = 0 then 0 else 1) = n * (2 * (P * 2)) + (2 * t + (if r = 0 then 0 else 1)) := by
  rw [hn]
  have : n * (2 * (P * 2)) = 2 * (n * (P * 2)) := by ac_rfl
  omega
 rw [rnd_eq hS (by split <;> omega)]
 have e1 : B * (P * 2) = 2 * (B * P) := by ac_rfl
 rw [e1]
 rcases Nat.lt_trichotomy t P with h | h | h
 ·have h1 : B * (t + 1) ≤ B * P := Nat.mul_le_mul_left _ h
  rw [Nat.mul_add, Nat.mul_one] at h1
  rw [if_pos (by omega), if_pos (by split <;> omega)]
 ·subst h
  by_cases h0 : r = 0
  ·rw [if_pos h0, if_neg (by omega), if_neg (by omega), if_neg (by omega), if_neg (by omega)]
  ·rw [if_neg h0, if_neg (by omega), if_pos (by omega), if_neg (by omega), if_pos (by omega)]
 ·have h1 : B * (P + 1) ≤ B * t := Nat.mul_le_mul_left _ h
  rw [Nat.mul_add, Nat.mul_one] at h1
  rw [if_neg (by omega), if_pos (by omega), if_neg (by split <;> omega), if_pos (by split <;> omega)]

/-- A quotient of at least 54 binary digits stands for the whole one. -/
theorem rung_sticky {A B u v r : Nat} (hB : 0 < B) (hq : 2 ^ 53 * B ≤ A) (hr : Rung ((2 * (A / B) + (if A % B = 0 then 0 else 1)) * 2 ^ u) (2 * 2 ^ v) r) : Rung (A * 2 ^ u) (B * 2 ^ v) r := by
 have hA : 0 < A := Nat.lt_of_lt_of_le (Nat.mul_pos (two_pos 53) hB) hq
 have hq1 : 2 ^ 53 ≤ A / B := (Nat.le_div_iff_mul_le hB).2 hq
 obtain ⟨S, hS⟩ : ∃ S, S = 2 * (A / B) + (if A % B = 0 then 0 else 1) := ⟨_, rfl⟩
 rw [← hS] at hr
 have hSp : 0 < S := by omega
 have hA' : 0 < A * 2 ^ u := Nat.mul_pos hA (two_pos u)
 have hB' : 0 < B * 2 ^ v := Nat.mul_pos hB (two_pos v)
 obtain ⟨F, hF⟩ := IsLog.exists hA hB
 -- both have one binary exponent
 have hF53 : 53 ≤ F := by
  have := isLog_lo (t := 53) (u := 0) (v := 0) hF hB (by simpa using hq)
  omega
 obtain ⟨f, rfl⟩ : ∃ f : Nat, F = f := ⟨F.toNat, by omega⟩
 obtain ⟨l1, l2⟩ := hF f 0 (by omega)
 rw [Nat.pow_zero, Nat.mul_one] at l1 l2
 have hSf : IsLog S 2 f := by
  have hq2 : 2 ^ f ≤ A / B := (Nat.le_div_iff_mul_le hB).2 (by rw [Nat.mul_comm]; exact l1)
  have hq3 : A / B < 2 ^ f * 2 := (Nat.div_lt_iff_lt_mul hB).2 (by
   have : 2 ^ f * 2 * B = 2 * (B * 2 ^ f) := by ac_rfl
   rw [this]; exact l2)
  refine IsLog.of f 0 (by omega) ?_ ?_
  ·rw [Nat.pow_zero, Nat.mul_one]; omega
  ·rw [Nat.pow_zero, Nat.mul_one, hS]
   split <;> omega
 have shift : ∀ {X Y : Nat}, IsLog X Y f → IsLog (X * 2 ^ u) (Y * 2 ^ v) ((f : Int) + u - v) := by
  intro X Y h
  refine IsLog.of (f + u) v (by omega) ?_ ?_
  ·have := (h f 0 (by omega)).1
   rw [Nat.pow_zero, Nat.mul_one] at this
   have h2 : Y * 2 ^ f * (2 ^ u * 2 ^ v) ≤ X * (2 ^ u * 2 ^ v) := Nat.mul_le_mul_right _ this
   rw [Nat.pow_add]
   have e1 : Y * 2 ^ v * (2 ^ f * 2 ^ u) = Y * 2 ^ f * (2 ^ u * 2 ^ v) := by ac_rfl
   rw [e1, Nat.mul_assoc X]
   exact h2
  ·have := (h f 0 (by omega)).2
   rw [Nat.pow_zero, Nat.mul_one] at this
   have h2 : X * (2 ^ u * 2 ^ v) < 2 * (Y * 2 ^ f) * (2 ^ u * 2 ^ v) := Nat.mul_lt_mul_of_pos_right this (Nat.mul_pos (two_pos _) (two_pos _))
   rw [Nat.pow_add]
   have e1 : 2 * (Y * 2 ^ v * (2 ^ f * 2 ^ u)) = 2 * (Y * 2 ^ f) * (2 ^ u * 2 ^ v) := by ac_rfl
   rw [e1, Nat.mul_assoc X]
   exact h2
 have hE1 := shift hF
 have hE2 := shift hSf
 rcases hr with ⟨hz, _⟩ | ⟨_, E, hE, hrE⟩
 ·exact absurd hz (Nat.ne_of_gt (Nat.mul_pos hSp (two_pos _)))
 ·have := hE.unique hE2
  subst this
  obtain ⟨c, hc⟩ : ∃ c : Nat, (c : Int) = expOf ((f : Int) + u - v) + 1022 := ⟨(expOf ((f : Int) + u - v) + 1022).toNat, by unfold expOf; omega⟩
  obtain ⟨x, hx⟩ : ∃ x : Nat, (x : Int) = 52 - expOf ((f : Int) + u - v) + ((52 : Int) - expOf ((f : Int) + u - v)).natAbs := ⟨(52 - expOf ((f : Int) + u - v) + ((52 : Int) - expOf ((f : Int) + u - v)).natAbs).toNat, by omega⟩
  obtain ⟨y, hy⟩ : ∃ y : Nat, y = ((52 : Int) - expOf ((f : Int) + u - v)).natAbs := ⟨_, rfl⟩
  have h1 := hrE x y c (by omega) (by omega)
  refine Rung.of hA' hB' hE1 x y c (by omega) (by omega) ?_
  rw [h1]
  congr 1
  -- how far it is cut
  obtain ⟨k, hk⟩ : ∃ k : Nat, (k : Int) = (v : Int) + y - u - x := ⟨((v : Int) + y - u - x).toNat, by unfold expOf at *; omega⟩
  have hk1 : 1 ≤ k := by unfold expOf at *; omega
  have t1 : rnd (A * 2 ^ u * 2 ^ x) (B * 2 ^ v * 2 ^ y) = rnd A (B * 2 ^ k) := by
   refine rnd_congr (Nat.mul_pos hB' (two_pos _)) (Nat.mul_pos hB (two_pos _)) ?_
   have e : (2 : Nat) ^ u * 2 ^ x * 2 ^ k = 2 ^ v * 2 ^ y := by
    rw [← Nat.pow_add, ← Nat.pow_add, ← Nat.pow_add]
    congr 1
    omega
   have e1 : A * 2 ^ u * 2 ^ x * (B * 2 ^ k) = A * B * (2 ^ u * 2 ^ x * 2 ^ k) := by ac_rfl
   rw [e1, e]
   ac_rfl
  have t2 : rnd (S * 2 ^ u * 2 ^ x) (2 * 2 ^ v * 2 ^ y) = rnd S (2 * 2 ^ k) := by
   refine rnd_congr (Nat.mul_pos (Nat.mul_pos (by omega) (two_pos _)) (two_pos _)) (Nat.mul_pos (by omega) (two_pos _)) ?_
   have e : (2 : Nat) ^ u * 2 ^ x * 2 ^ k = 2 ^ v * 2 ^ y := by
    rw [← Nat.pow_add, ← Nat.pow_add, ← Nat.pow_add]
    congr 1
    omega
   have e1 : S * 2 ^ u * 2 ^ x * (2 * 2 ^ k) = S * 2 * (2 ^ u * 2 ^ x * 2 ^ k) := by ac_rfl
   rw [e1, e]
   ac_rfl
  rw [t1, t2, rnd_sticky hB hk1, hS]

/-- The quotient of two whole numbers' words is the word nearest to their quotient. -/
theorem div_is {x y a b r : Nat} {s : Bool} (hx : WordIs x a s) (hy : WordIs y b false) (ha : 0 < a) (hb : 0 < b) (hr : Rung a b r) : Ieee.double.div x y = some (sgv s + cutRung r) := by
 obtain ⟨m, i, h1, h2, h3⟩ := hx
 obtain ⟨n, j, h4, h5, h6⟩ := hy
 have hm0 : m ≠ 0 := by
  rintro rfl
  rw [Nat.zero_mul] at h3
  exact absurd h3 (Nat.ne_of_lt (Nat.mul_pos ha (two_pos _)))
 have hn0 : n ≠ 0 := by
  rintro rfl
  rw [Nat.zero_mul] at h6
  exact absurd h6 (Nat.ne_of_lt (Nat.mul_pos hb (two_pos _)))
 unfold Ieee.Format.div
 rw [h1, h4]
 obtain ⟨more, hmo⟩ : ∃ k, k = Ieee.double.fractionBits + 2 + n.log2 - m.log2 := ⟨_, rfl⟩
 have hfb : Ieee.double.fractionBits = 52 := rfl
 have hquo : (Ieee.Datum.number s m i).quotient (Ieee.double.fractionBits + 2) (.number false n j) = some (.number (s ^^ false) (2 * ((m <<< more) / n) + ((m <<< more) % n != 0).toNat) (i - j - more - 1)) := by
  show (if n = 0 then _ else _) = _
  rw [if_neg hn0, hmo]
 rw [hquo]
 show some (Ieee.double.nearest (s ^^ false) _ _) = _
 rw [Bool.xor_false, Nat.shiftLeft_eq]
 congr 1
 have hst : ((m * 2 ^ more % n != 0).toNat) = (if m * 2 ^ more % n = 0 then 0 else 1) := by
  by_cases h : m * 2 ^ more % n = 0 <;> simp [h]
 rw [hst]
 obtain ⟨l1, l2⟩ := log2_bounds hm0
 obtain ⟨l3, l4⟩ := log2_bounds hn0
 have hq : 2 ^ 53 * n ≤ m * 2 ^ more := by
  have t1 : 2 ^ 53 * n ≤ 2 ^ 53 * 2 ^ (n.log2 + 1) := Nat.mul_le_mul_left _ (by omega)
  have t2 : 2 ^ m.log2 * 2 ^ more ≤ m * 2 ^ more := Nat.mul_le_mul_right _ l1
  rw [← Nat.pow_add] at t1 t2
  have t3 : 2 ^ (53 + (n.log2 + 1)) ≤ 2 ^ (m.log2 + more) := two_mono (by omega)
  exact Nat.le_trans t1 (Nat.le_trans t3 t2)
 obtain ⟨u, hu⟩ : ∃ u : Nat, (u : Int) = i + deep := ⟨(i + deep).toNat, by omega⟩
 obtain ⟨v, hv⟩ : ∃ v : Nat, (v : Int) = j + deep + more := ⟨(j + deep + more).toNat, by omega⟩
 have hval : Rung (m * 2 ^ more * 2 ^ u) (n * 2 ^ v) r := by
  refine hr.congr hb (Nat.mul_pos (by omega) (two_pos _)) ?_
  rw [show (i + (deep : Int)).toNat = u by omega] at h3
  have h7 : n * 2 ^ v = b * 2 ^ deep * 2 ^ more := by
   rw [← h6, Nat.mul_assoc, ← Nat.pow_add]
   congr 2
   omega
  have h8 : m * 2 ^ more * 2 ^ u = a * 2 ^ deep * 2 ^ more := by rw [← h3]; ac_rfl
  rw [h7, h8]
  ac_rfl
 obtain ⟨r', hr'⟩ := Rung.exists ((2 * (m * 2 ^ more / n) + (if m * 2 ^ more % n = 0 then 0 else 1)) * 2 ^ u) (B := 2 * 2 ^ v) (Nat.mul_pos (by omega) (two_pos v))
 have heq := (rung_sticky (by omega) hq hr').unique hval
 subst heq
 refine nearest_is s (Nat.mul_pos (by omega) (two_pos v)) hr' ?_
 rw [Nat.mul_assoc, Nat.mul_assoc]
 congr 1
 rw [← Nat.pow_succ', ← Nat.pow_add, ← Nat.pow_add]
 congr 1
 omega

end Go.Proofs.YtgolhmiocjpohaaGreatDoor

namespace Go.Proofs.YtgolhmiocjpohaaGreatDoor

/-- A whole number times a power of two, as a quotient. -/
def twoA (M : Nat) (e : Int) : Nat := M * 2 ^ e.toNat
def twoB (e : Int) : Nat := 2 ^ (-e).toNat

theorem twoB_pos (e : Int) : 0 < twoB e := two_pos _

/-- What rounding of quarters looks at. -/
theorem rnd4_or (U : Nat) : rnd4 U = if (U % 4 ||| U / 4 % 2) = 3 then U / 4 + 1 else U / 4 := by
 unfold rnd4
 have hj : U % 4 = 0 ∨ U % 4 = 1 ∨ U % 4 = 2 ∨ U % 4 = 3 := by omega
 have hb : U / 4 % 2 = 0 ∨ U / 4 % 2 = 1 := by omega
 rcases hj with h | h | h | h <;> rcases hb with k | k <;> rw [h, k] <;> simp <;> omega

theorem unr_one (M : Nat) : unr M 1 = M := unr_exact (by omega) (by omega)

theorem unr_step (M k : Nat) : unr M (2 ^ (k + 1)) = unr M (2 ^ k) / 2 ||| unr M (2 ^ k) % 2 := by
 rw [Nat.pow_succ, unr_half M (2 ^ k) (two_pos k)]

/-- How it stands before it is rounded. -/
structure HexEnd (M : Nat) (e1 : Int) (k U : Nat) : Prop where
 u : U = unr M (2 ^ k)
 hi : U < 2 ^ 55
 cs : (U ≤ 1 ∧ e1 + k < -1024) ∨ (2 ^ 54 ≤ U ∧ -1024 ≤ e1 + k) ∨ (U < 2 ^ 54 ∧ e1 + k = -1024)

theorem isLog_two {M : Nat} {f : Nat} {e : Int} (h1 : 2 ^ f ≤ M) (h2 : M < 2 ^ (f + 1)) : IsLog (twoA M e) (twoB e) (f + e) := by
 unfold twoA twoB
 refine IsLog.of (f + e.toNat) (-e).toNat (by omega) ?_ ?_
 ·rw [Nat.pow_add]
  have h := Nat.mul_le_mul_right (2 ^ e.toNat * 2 ^ (-e).toNat) h1
  have e1 : 2 ^ (-e).toNat * (2 ^ f * 2 ^ e.toNat) = 2 ^ f * (2 ^ e.toNat * 2 ^ (-e).toNat) := by ac_rfl
  rw [e1, Nat.mul_assoc M]
  exact h
 ·rw [Nat.pow_add]
  have h := Nat.mul_lt_mul_of_pos_right h2 (Nat.mul_pos (two_pos e.toNat) (two_pos (-e).toNat))
  have e1 : 2 * (2 ^ (-e).toNat * (2 ^ f * 2 ^ e.toNat)) = 2 ^ (f + 1) * (2 ^ e.toNat * 2 ^ (-e).toNat) := by rw [Nat.pow_succ]; ac_rfl
  rw [e1, Nat.mul_assoc M]
  exact h

/-- The place of the float: the exponent e1 - 52 belongs to the mantissa's last bit. -/
theorem hex_rung {M : Nat} {e1 : Int} {k U r : Nat} (hM : 0 < M) (h : HexEnd M e1 k U) (hr : Rung (twoA M (e1 - 52)) (twoB (e1 - 52)) r) :
  (U ≤ 1 ∧ e1 + k < -1024 → r = 0) ∧
  (-1024 ≤ e1 + k → (2 ^ 54 ≤ U ∨ e1 + k = -1024) → rnd4 U ≤ 2 ^ 53 ∧ (U < 2 ^ 54 → rnd4 U ≤ 2 ^ 52) ∧ (2 ^ 54 ≤ U → 2 ^ 52 ≤ rnd4 U) ∧ ∀ c : Nat, (c : Int) = e1 + k + 1024 → r = c * 2 ^ 52 + rnd4 U) := by
 have hA : 0 < twoA M (e1 - 52) := Nat.mul_pos hM (two_pos _)
 have hB := twoB_pos (e1 - 52)
 -- the mantissa's own binary exponent
 obtain ⟨f, hf⟩ : ∃ f, f = M.log2 := ⟨_, rfl⟩
 obtain ⟨l1, l2⟩ := log2_bounds (n := M) (by omega)
 rw [← hf] at l1 l2
 have hlog := isLog_two (e := e1 - 52) l1 l2
 have hU := h.u
 have ge := unr_ge M (2 ^ k)
 constructor
 ·rintro ⟨h1, h2⟩
  -- too small
  have h3 : M < 2 * 2 ^ k := by
   apply Classical.byContradiction
   intro hn
   have := (ge 1 (two_pos k)).2 (by omega)
   omega
  have hfk : f < k + 1 := by
   have : 2 ^ f < 2 ^ (k + 1) := by rw [Nat.pow_succ]; omega
   exact pow_lt_two this
  have hlt : ∀ m : Nat, m = 1074 → twoA M (e1 - 52) * 2 ^ (m + 1) < twoB (e1 - 52) := by
   intro m hm
   unfold twoA twoB
   have h4 : M * (2 ^ (e1 - 52).toNat * 2 ^ (m + 1)) < 2 ^ (k + 1) * (2 ^ (e1 - 52).toNat * 2 ^ (m + 1)) := Nat.mul_lt_mul_of_pos_right (by rw [Nat.pow_succ]; omega) (Nat.mul_pos (two_pos _) (two_pos _))
   have h5 : 2 ^ (k + 1) * (2 ^ (e1 - 52).toNat * 2 ^ (m + 1)) ≤ 2 ^ (-(e1 - 52)).toNat := by
    rw [← Nat.pow_add, ← Nat.pow_add]
    exact two_mono (by omega)
   rw [Nat.mul_assoc]
   exact Nat.lt_of_lt_of_le h4 h5
  obtain ⟨m, hm⟩ : ∃ m : Nat, m = 1074 := ⟨_, rfl⟩
  exact hr.unique (Rung.none_at hm hB hA (hlt m hm) hlog)
 ·intro h1 h2
  have hrd : rnd4 U = rnd M (2 ^ k * 4) := by rw [hU]; exact rnd4_unr M (2 ^ k) (two_pos k)
  have hhi := h.hi
  have b1 : rnd4 U ≤ 2 ^ 53 := by unfold rnd4; omega
  have b2 : U < 2 ^ 54 → rnd4 U ≤ 2 ^ 52 := by intro h; unfold rnd4; omega
  have b3 : 2 ^ 54 ≤ U → 2 ^ 52 ≤ rnd4 U := by intro h; unfold rnd4; omega
  refine ⟨b1, b2, b3, fun c hc => ?_⟩
  have hU2 : M < 2 ^ 55 * 2 ^ k := by
   apply Classical.byContradiction
   intro hn
   have := (ge (2 ^ 54) (two_pos k)).2 (by rw [show 2 * 2 ^ 54 = 2 ^ 55 by decide]; omega)
   omega
  have hfk : f < 55 + k := by
   have : 2 ^ f < 2 ^ (55 + k) := by rw [Nat.pow_add]; omega
   exact pow_lt_two this
  have hfg : 2 ^ 54 ≤ U → 54 + k ≤ f := by
   intro h5
   have h6 := (ge (2 ^ 53) (two_pos k)).1 (by rw [show 2 * 2 ^ 53 = 2 ^ 54 by decide]; omega)
   rw [show 2 * 2 ^ 53 = 2 ^ 54 by decide] at h6
   have : 2 ^ (54 + k) < 2 ^ (f + 1) := by rw [Nat.pow_add]; omega
   have := pow_lt_two this
   omega
  have hE : expOf ((f : Int) + (e1 - 52)) = e1 + k + 2 := by
   unfold expOf
   rcases h2 with h2 | h2
   ·have := hfg h2; omega
   ·omega
  obtain ⟨v, hv⟩ : ∃ v : Nat, v = (e1 + k).natAbs := ⟨_, rfl⟩
  obtain ⟨u, hu⟩ : ∃ u : Nat, (u : Int) = v + 50 - e1 - k := ⟨((v : Int) + 50 - e1 - k).toNat, by omega⟩
  refine hr.unique (Rung.of hA hB hlog u v c (by omega) (by omega) ?_)
  congr 1
  rw [hrd]
  unfold twoA twoB
  refine rnd_congr (Nat.mul_pos (two_pos k) (by omega)) (Nat.mul_pos (two_pos _) (two_pos v)) ?_
  rw [show (4 : Nat) = 2 ^ 2 from rfl, Nat.mul_assoc M, Nat.mul_assoc M, ← Nat.pow_add, ← Nat.pow_add, ← Nat.pow_add, ← Nat.pow_add]
  congr 2
  omega

/-- The float's bits, by its mantissa and its exponent behind the rounding. -/
structure HexOut (r m : Nat) (e : Int) : Prop where
 small : m < 2 ^ 52 → r = m
 norm : 2 ^ 52 ≤ m → m < 2 ^ 53 ∧ -1022 ≤ e ∧ ∀ c : Nat, (c : Int) = e + 1022 → r = c * 2 ^ 52 + m

theorem HexEnd.out {M : Nat} {e1 : Int} {k U r : Nat} (hM : 0 < M) (h : HexEnd M e1 k U) (hr : Rung (twoA M (e1 - 52)) (twoB (e1 - 52)) r) :
  HexOut r (if rnd4 U = 2 ^ 53 then 2 ^ 52 else rnd4 U) (if rnd4 U = 2 ^ 53 then e1 + k + 3 else e1 + k + 2) := by
 obtain ⟨h1, h2⟩ := hex_rung hM h hr
 rcases h.cs with ⟨c1, c2⟩ | ⟨c1, c2⟩ | ⟨c1, c2⟩
 ·have h3 : rnd4 U = 0 := by unfold rnd4; omega
  have h4 := h1 ⟨c1, c2⟩
  rw [h3, if_neg (by omega), if_neg (by omega)]
  exact ⟨fun _ => h4, fun h => by omega⟩
 ·obtain ⟨b1, b2, b3, b4⟩ := h2 c2 (Or.inl c1)
  have b5 := b3 c1
  by_cases h53 : rnd4 U = 2 ^ 53
  ·rw [if_pos h53, if_pos h53]
   refine ⟨fun h => by omega, fun _ => ⟨by omega, by omega, fun c hc => ?_⟩⟩
   have := b4 (c - 1) (by omega)
   rw [this, h53]
   omega
  ·rw [if_neg h53, if_neg h53]
   exact ⟨fun h => by omega, fun _ => ⟨by omega, by omega, fun c hc => b4 c (by omega)⟩⟩
 ·obtain ⟨b1, b2, b3, b4⟩ := h2 (by omega) (Or.inr c2)
  have b5 := b2 c1
  rw [if_neg (by omega), if_neg (by omega)]
  refine ⟨fun _ => ?_, fun h => ⟨by omega, by omega, fun c hc => b4 c (by omega)⟩⟩
  have := b4 0 (by omega)
  omega

end Go.Proofs.YtgolhmiocjpohaaGreatDoor

namespace Go.Proofs.YtgolhmiocjpohaaGreatDoor

/-- A power of ten, as a float. -/
def f10 (k : Nat) : Nat := Ieee.double.nearest false (10 ^ k) 0

def okTen (k : Nat) : Bool := match Ieee.double.read (f10 k) with
 | .number false m i => decide (-60 ≤ i) && decide (m * 2 ^ (i + 60).toNat = 10 ^ k * 2 ^ 60)
 | _ => false

theorem okTens : (List.range 23).all okTen = true := by decide +kernel

theorem f10_is {k : Nat} (h : k < 23) : WordIs (f10 k) (10 ^ k) false := by
 have h1 : okTen k = true := List.all_eq_true.1 okTens k (by simpa using h)
 have hd := deep_eq
 unfold okTen at h1
 split at h1
 ·rename_i m i e
  simp only [Bool.and_eq_true, decide_eq_true_eq] at h1
  obtain ⟨h2, h3⟩ := h1
  refine ⟨m, i, e, by omega, ?_⟩
  obtain ⟨c, hc⟩ : ∃ c, deep = 60 + c := ⟨deep - 60, by omega⟩
  rw [show (i + (deep : Int)).toNat = (i + 60).toNat + c by omega, Nat.pow_add, ← Nat.mul_assoc, h3, hc, Nat.pow_add]
  ac_rfl
 ·cases h1

/-- How a word of a rung reads, from 2^53 on. -/
theorem read_big (neg : Bool) {R : Nat} (h1 : 1076 * 2 ^ 52 ≤ R) (h2 : R < 9218868437227405312) : ∃ (m : Nat) (i : Int), Ieee.double.read (sgv neg + R) = .number neg m i ∧ 2 ^ 52 ≤ m ∧ 1 ≤ i := by
 have hsw : Ieee.double.signWeight = 2 ^ 63 := by decide
 have hlp : Ieee.double.leastPlace = -1074 := by decide
 have hb : Ieee.double.binade = 2 ^ 52 := rfl
 have hi : Ieee.double.infRung = 9218868437227405312 := by decide
 have hneg : ((sgv neg + R) / Ieee.double.signWeight % 2 == 1) = neg := by
  rw [hsw]
  cases neg
  ·have : (sgv false + R) / 2 ^ 63 = 0 := by unfold sgv; simp only [Bool.false_eq_true, if_false]; omega
   rw [this]; rfl
  ·have : (sgv true + R) / 2 ^ 63 = 1 := by unfold sgv; simp only [if_true]; omega
   rw [this]; rfl
 have hrung : (sgv neg + R) % Ieee.double.signWeight = R := by
  rw [hsw]
  cases neg <;> simp [sgv] <;> omega
 unfold Ieee.Format.read
 simp only [hneg, hrung]
 rw [if_neg (by rw [hb]; omega), if_pos (by rw [hi]; omega)]
 exact ⟨_, _, rfl, by rw [hb]; omega, by rw [hlp, hb]; omega⟩

theorem read_inf (neg : Bool) : Ieee.double.read (sgv neg + 9218868437227405312) = .infinity neg := by cases neg <;> decide

theorem signed_pos (m i : Nat) : Ieee.signed false m i = ((m * 2 ^ i : Nat) : Int) := by unfold Ieee.signed; rw [Nat.shiftLeft_eq]; rfl
theorem signed_neg (m i : Nat) : Ieee.signed true m i = -((m * 2 ^ i : Nat) : Int) := by unfold Ieee.signed; rw [Nat.shiftLeft_eq]; rfl

theorem compare_gt {x y : Int} (h : y < x) : compare x y = .gt := by
 show compareOfLessAndEq _ _ = _
 unfold compareOfLessAndEq
 rw [if_neg (by omega), if_neg (by omega)]
theorem compare_lt {x y : Int} (h : x < y) : compare x y = .lt := by
 show compareOfLessAndEq _ _ = _
 unfold compareOfLessAndEq
 rw [if_pos h]

/-- A large positive float is above a smaller whole number; a large negative one below any positive one and below the like negative one. -/
theorem order_big {R K v : Nat} (t : Bool) (h1 : 1076 * 2 ^ 52 ≤ R) (h2 : R ≤ 9218868437227405312) (hK : WordIs K v t) (hv : v < 2 ^ 53) (s : Bool) (hst : s = true ∨ t = false) :
  FloatKind.f64.format.order (sgv s + R) K = some (if s then .lt else .gt) := by
 obtain ⟨n, j, h3, h4, h5⟩ := hK
 have hd := deep_eq
 show Ieee.double.order _ _ = _
 unfold Ieee.Format.order
 rw [h3]
 by_cases hinf : R = 9218868437227405312
 ·subst hinf
  rw [read_inf]
  cases s <;> rfl
 ·obtain ⟨m, i, h6, h7, h8⟩ := read_big s h1 (by omega)
  rw [h6]
  show some (compare (Ieee.signed s m (i - min i j).toNat) (Ieee.signed t n (j - min i j).toNat)) = _
  congr 1
  have key : n * 2 ^ (j - min i j).toNat < m * 2 ^ (i - min i j).toNat := by
   have hp := two_pos (min i j + deep).toNat
   apply Nat.lt_of_mul_lt_mul_right (a := 2 ^ (min i j + deep).toNat)
   rw [Nat.mul_assoc, Nat.mul_assoc, ← Nat.pow_add, ← Nat.pow_add, show (j - min i j).toNat + (min i j + (deep : Int)).toNat = (j + deep).toNat by omega, h5]
   have t1 : v * 2 ^ deep < 2 ^ 53 * 2 ^ deep := Nat.mul_lt_mul_of_pos_right hv (two_pos _)
   have t2 : 2 ^ 52 * 2 ^ (1 + deep) ≤ m * 2 ^ ((i - min i j).toNat + (min i j + (deep : Int)).toNat) := Nat.mul_le_mul h7 (two_mono (by omega))
   have t3 : 2 ^ 53 * 2 ^ deep = 2 ^ 52 * 2 ^ (1 + deep) := by rw [← Nat.pow_add, ← Nat.pow_add]; congr 1; omega
   omega
  cases s with
  | false =>
   have ht : t = false := by simpa using hst
   subst ht
   rw [signed_pos, signed_pos]
   exact compare_gt (by omega)
  | true =>
   rw [signed_neg]
   cases t with
   | false => rw [signed_pos]; exact compare_lt (by omega)
   | true => rw [signed_neg]; exact compare_lt (by omega)

/-- The place of a whole number from 2^53 on. -/
theorem rung_big {P r : Nat} (h : 2 ^ 53 ≤ P) (hr : Rung P 1 r) : 1076 * 2 ^ 52 ≤ r := by
 rcases hr with ⟨h0, _⟩ | ⟨_, E, hE, hrE⟩
 ·omega
 ·have hE53 : 53 ≤ E := by
   have := isLog_lo (t := 53) (u := 0) (v := 0) hE (by omega) (by simpa using h)
   omega
  obtain ⟨e, rfl⟩ : ∃ e : Nat, E = e := ⟨E.toNat, by omega⟩
  have hx : expOf (e : Int) = e := by unfold expOf; omega
  have h1 := hrE 52 e (e + 1022) (by omega) (by omega)
  have h2 := (mant_normal (A := P) (B := 1) (by omega) hE (u := 52) (v := e) (by omega)).1
  generalize rnd (P * 2 ^ 52) (1 * 2 ^ e) = m at *
  omega

theorem cut_big {r : Nat} (h : 1076 * 2 ^ 52 ≤ r) : 1076 * 2 ^ 52 ≤ cutRung r ∧ cutRung r ≤ 9218868437227405312 := by
 unfold cutRung
 split <;> omega

theorem c15 : fBits false (10 ^ 15) = 4831355200913801216 := by decide +kernel
theorem c15' : fBits true (10 ^ 15) = 14054727237768577024 := by decide +kernel

end Go.Proofs.YtgolhmiocjpohaaGreatDoor

namespace Go.Proofs.YtgolhmiocjpohaaGreatDoor

/-- How a word of a rung below infinity reads. -/
theorem read_low (neg : Bool) {R : Nat} (h2 : R < 9218868437227405312) : ∃ m k : Nat, Ieee.double.read (sgv neg + R) = .number neg m (-1074 + (k : Int)) ∧ m < 2 ^ 53 ∧ R = m + k * 2 ^ 52 ∧ (0 < k → 2 ^ 52 ≤ m) := by
 have hsw : Ieee.double.signWeight = 2 ^ 63 := by decide
 have hlp : Ieee.double.leastPlace = -1074 := by decide
 have hb : Ieee.double.binade = 2 ^ 52 := rfl
 have hi : Ieee.double.infRung = 9218868437227405312 := by decide
 have hneg : ((sgv neg + R) / Ieee.double.signWeight % 2 == 1) = neg := by
  rw [hsw]
  cases neg
  ·have : (sgv false + R) / 2 ^ 63 = 0 := by unfold sgv; simp only [Bool.false_eq_true, if_false]; omega
   rw [this]; rfl
  ·have : (sgv true + R) / 2 ^ 63 = 1 := by unfold sgv; simp only [if_true]; omega
   rw [this]; rfl
 have hrung : (sgv neg + R) % Ieee.double.signWeight = R := by
  rw [hsw]
  cases neg <;> simp [sgv] <;> omega
 unfold Ieee.Format.read
 simp only [hneg, hrung]
 by_cases h : R < Ieee.double.binade
 ·rw [if_pos h]
  rw [hb] at h
  exact ⟨R, 0, by rw [hlp]; rfl, by omega, by omega, by omega⟩
 ·rw [if_neg h, if_pos (by rw [hi]; omega)]
  rw [hb] at h ⊢
  exact ⟨2 ^ 52 + R % 2 ^ 52, R / 2 ^ 52 - 1, by rw [hlp], by omega, by omega, by omega⟩

theorem order_same (s : Bool) {a b : Nat} (ha : a ≤ 9218868437227405312) (hb : b ≤ 9218868437227405312) (h : Ieee.double.order (sgv s + a) (sgv s + b) = some .eq) : a = b := by
 unfold Ieee.Format.order at h
 by_cases ea : a = 9218868437227405312
 ·by_cases eb : b = 9218868437227405312
  ·rw [ea, eb]
  ·exfalso
   obtain ⟨m, k, h1, _⟩ := read_low s (R := b) (by omega)
   rw [ea, read_inf, h1] at h
   cases s <;> simp [Ieee.Datum.order] at h
 ·obtain ⟨m, k, h1, h2, h3, h4⟩ := read_low s (R := a) (by omega)
  by_cases eb : b = 9218868437227405312
  ·exfalso
   rw [eb, read_inf, h1] at h
   cases s <;> simp [Ieee.Datum.order] at h
  ·obtain ⟨n, l, g1, g2, g3, g4⟩ := read_low s (R := b) (by omega)
   rw [h1, g1] at h
   have h' : compare (Ieee.signed s m (-1074 + (k : Int) - min (-1074 + (k : Int)) (-1074 + (l : Int))).toNat) (Ieee.signed s n (-1074 + (l : Int) - min (-1074 + (k : Int)) (-1074 + (l : Int))).toNat) = .eq := by
    have : some (compare (Ieee.signed s m (-1074 + (k : Int) - min (-1074 + (k : Int)) (-1074 + (l : Int))).toNat) (Ieee.signed s n (-1074 + (l : Int) - min (-1074 + (k : Int)) (-1074 + (l : Int))).toNat)) = some Ordering.eq := h
    simpa only [Option.some.injEq] using this
   have key : m * 2 ^ (k - min k l) = n * 2 ^ (l - min k l) := by
    rw [show (-1074 + (k : Int) - min (-1074 + (k : Int)) (-1074 + (l : Int))).toNat = k - min k l by omega, show (-1074 + (l : Int) - min (-1074 + (k : Int)) (-1074 + (l : Int))).toNat = l - min k l by omega] at h'
    cases s with
    | false =>
     rw [signed_pos, signed_pos] at h'
     apply Classical.byContradiction
     intro hne
     rcases Nat.lt_or_gt_of_ne hne with hlt | hlt
     ·rw [compare_lt (by omega)] at h'; cases h'
     ·rw [compare_gt (by omega)] at h'; cases h'
    | true =>
     rw [signed_neg, signed_neg] at h'
     apply Classical.byContradiction
     intro hne
     rcases Nat.lt_or_gt_of_ne hne with hlt | hlt
     ·rw [compare_gt (by omega)] at h'; cases h'
     ·rw [compare_lt (by omega)] at h'; cases h'
   have far : ∀ {m n k l : Nat}, m < 2 ^ 53 → (0 < l → 2 ^ 52 ≤ n) → m * 2 ^ (k - min k l) = n * 2 ^ (l - min k l) → ¬ k < l := by
    intro m n k l hm hn he hlt
    rw [show k - min k l = 0 by omega, Nat.pow_zero, Nat.mul_one] at he
    have h1 := hn (by omega)
    have h2 : 2 ^ 1 ≤ 2 ^ (l - min k l) := two_mono (by omega)
    have h3 : 2 ^ 52 * 2 ^ 1 ≤ n * 2 ^ (l - min k l) := Nat.mul_le_mul h1 h2
    omega
   have e1 := far h2 g4 key
   have e2 := far (m := n) (n := m) (k := l) (l := k) g2 h4 (by rw [Nat.min_comm l k]; exact key.symm)
   have : k = l := by omega
   subst this
   rw [Nat.min_self, Nat.sub_self, Nat.pow_zero, Nat.mul_one, Nat.mul_one] at key
   omega

end Go.Proofs.YtgolhmiocjpohaaGreatDoor
