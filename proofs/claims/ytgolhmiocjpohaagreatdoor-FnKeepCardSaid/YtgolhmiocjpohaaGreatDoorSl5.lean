/- What a slow decimal is while its digits beyond the 800th are cut off. Plain. No condition. -/
import Derived.Test.YtgolhmiocjpohaaGreatDoorSl1
set_option linter.unusedVariables false
set_option linter.unusedSimpArgs false
set_option maxRecDepth 20000
namespace Go.Proofs.YtgolhmiocjpohaaGreatDoor

/-- A value near another one: the same, or below it by less than what counts. -/
structure Near (A B A2 B2 : Nat) (E : Int) (tr : Bool) : Prop where
 posA : 0 < A2
 posB : 0 < B2
 same : tr = false → A2 * B = A * B2
 below : tr = true → A2 * B < A * B2
 point : ∀ m u v : Nat, (u : Int) - v = E - 53 → m * 2 ^ u * B ≤ A * 2 ^ v → m * 2 ^ u * B2 ≤ A2 * 2 ^ v

theorem Near.start {A B : Nat} (hA : 0 < A) (hB : 0 < B) (E : Int) : Near A B A B E false :=
 ⟨hA, hB, fun _ => rfl, fun h => by simp at h, fun _ _ _ _ h => h⟩

theorem Near.le {A B A2 B2 : Nat} {E : Int} {tr : Bool} (h : Near A B A2 B2 E tr) : A2 * B ≤ A * B2 := by
 cases tr with
 | false => exact Nat.le_of_eq (h.same rfl)
 | true => exact Nat.le_of_lt (h.below rfl)

/-- Both have the same logarithm. -/
theorem Near.log {A B A2 B2 : Nat} {E : Int} {tr : Bool} (h : Near A B A2 B2 E tr) (hB : 0 < B) (hE : IsLog A B E) : IsLog A2 B2 E := by
 obtain ⟨q, hq⟩ : ∃ q : Nat, (q : Int) = 60 + E.natAbs := ⟨_, rfl⟩
 obtain ⟨p, hp⟩ : ∃ p : Nat, (p : Int) - q = E := ⟨(E + q).toNat, by omega⟩
 obtain ⟨h1, h2⟩ := hE p q hp
 refine IsLog.of p q hp ?_ ?_
 ·obtain ⟨u, hu⟩ : ∃ u : Nat, p = u + 53 := ⟨p - 53, by omega⟩
  have h3 := h.point (2 ^ 53) u q (by omega) (by rw [← Nat.pow_add, Nat.add_comm 53 u, ← hu, Nat.mul_comm]; exact h1)
  rw [← Nat.pow_add, Nat.add_comm 53 u, ← hu, Nat.mul_comm] at h3
  exact h3
 ·have h3 : A2 * B * 2 ^ q ≤ A * B2 * 2 ^ q := Nat.mul_le_mul_right _ h.le
  have h4 : A * 2 ^ q * B2 < 2 * (B * 2 ^ p) * B2 := Nat.mul_lt_mul_of_pos_right h2 h.posB
  have e1 : A2 * B * 2 ^ q = B * (A2 * 2 ^ q) := by ac_rfl
  have e2 : A * B2 * 2 ^ q = A * 2 ^ q * B2 := by ac_rfl
  have e3 : 2 * (B * 2 ^ p) * B2 = B * (2 * (B2 * 2 ^ p)) := by ac_rfl
  rw [e1, e2] at h3
  rw [e3] at h4
  exact Nat.lt_of_mul_lt_mul_left (Nat.lt_of_le_of_lt h3 h4)

def e301 : Nat := 301
def e746 : Nat := 746
theorem five_two : 5 ^ e301 ≤ 2 ^ e746 := by decide +kernel
theorem five746 : ∃ z : Nat, z = 746 ∧ 5 ^ e301 ≤ 2 ^ z := ⟨e746, rfl, five_two⟩
theorem le_e301 {k : Nat} (h : k ≤ 301) : k ≤ e301 := h

theorem take_zeros {out : List Nat} (h : cutTr out = false) : ∀ i, 800 ≤ i → dAt out i = 0 := by
 intro i hi
 by_cases hl : i < out.length
 ·unfold cutTr at h
  have h1 := List.any_eq_false.1 h (dAt out i) (by
   unfold dAt
   rw [List.getD_eq_getElem?_getD, List.getElem?_eq_getElem hl]
   have : (out.drop 800)[i - 800]? = some out[i] := by
    rw [List.getElem?_drop, show 800 + (i - 800) = i by omega, List.getElem?_eq_getElem hl]
   exact List.mem_of_getElem? this)
  simpa using h1
 ·exact dAt_beyond (by omega)

theorem Trimmed.wider {out es : List Nat} (ht : Trimmed (out.take 800) es) (h : cutTr out = false) : Trimmed out es := by
 obtain ⟨m, h1, h2, h3, h4⟩ := ht.take
 have hl : (out.take 800).length = min 800 out.length := List.length_take
 refine ⟨m, by omega, ?_, fun i h5 h6 => ?_, ?_⟩
 ·rw [h2, List.take_take, show min m 800 = m by omega]
 ·by_cases hi : i < 800
  ·have := h3 i h5 (by omega)
   rwa [dAt_take, if_pos hi] at this
  ·exact take_zeros h i (by omega)
 ·rcases h4 with h4 | h4
  ·exact Or.inl h4
  ·refine Or.inr ?_
   rw [dAt_take] at h4
   split at h4
   ·exact h4
   ·exact absurd rfl h4

theorem pre_take (out : List Nat) (n : Nat) : ∀ i, i ≤ n → pre (out.take n) i = pre out i := by
 intro i
 induction i with
 | zero => intro _; rfl
 | succ i ih =>
  intro h
  show pre (out.take n) i * 10 + dAt (out.take n) i = pre out i * 10 + dAt out i
  rw [ih (by omega), dAt_take, if_pos (by omega)]

/-- What is left behind the 800th digit. -/
theorem dval_split {out : List Nat} (hd : Digits out) (hl : 800 ≤ out.length) : ∃ R, dval out = dval (out.take 800) * 10 ^ (out.length - 800) + R ∧ R < 10 ^ (out.length - 800) ∧ (cutTr out = true → 0 < R) := by
 have e : dval (out.take 800) = pre out 800 := by
  unfold dval
  rw [List.length_take, show min 800 out.length = 800 by omega, pre_take _ _ _ (Nat.le_refl _)]
 obtain ⟨t, h1, h2⟩ := pre_split out 800 (out.length - 800)
 rw [show 800 + (out.length - 800) = out.length by omega] at h1
 refine ⟨t, by rw [e]; exact h1, h2 hd, fun hc => ?_⟩
 apply Classical.byContradiction
 intro hn
 have ht : t = 0 := by omega
 obtain ⟨d, hdm, hne⟩ := List.any_eq_true.1 hc
 obtain ⟨i, hi, rfl⟩ := List.getElem_of_mem hdm
 have hne' : (out.drop 800)[i] ≠ 0 := by simpa using hne
 rw [List.length_drop] at hi
 have hget : dAt out (800 + i) ≠ 0 := by
  unfold dAt
  rw [List.getD_eq_getElem?_getD, List.getElem?_eq_getElem (by omega)]
  rw [List.getElem_drop] at hne'
  exact hne'
 -- digits up to 800 + i + 1 are more than those up to 800
 have key : ∀ j, i < j → pre out 800 * 10 ^ j < pre out (800 + j) := by
  intro j
  induction j with
  | zero => intro h; omega
  | succ j ih =>
   intro h
   have e2 : pre out (800 + (j + 1)) = pre out (800 + j) * 10 + dAt out (800 + j) := rfl
   rw [e2, Nat.pow_succ, ← Nat.mul_assoc]
   by_cases e3 : i = j
   ·subst e3
    obtain ⟨t2, h3, _⟩ := pre_split out 800 i
    omega
   ·have := ih (by omega)
    omega
 have h3 := key (out.length - 800) (by omega)
 rw [show 800 + (out.length - 800) = out.length by omega] at h3
 omega

theorem Trimmed.canonTake {out es : List Nat} (ht : Trimmed (out.take 800) es) (hd : Digits out) (hp : 0 < out.length) (hf : dAt out 0 ≠ 0) : Canon es :=
 ht.canon (fun t _ => by rw [dAt_take]; split; (· exact hd.all t); (· omega)) (by rw [dAt_take, if_pos (by omega)]; exact hf) (by rw [List.length_take]; omega)

/-- How many places what matters has. -/
theorem places {A2 B2 p q a b L : Nat} {E op : Int} (hB2 : 0 < B2) (hL : 800 < L) (hop : op ≤ 700) (hlo : -300 ≤ op) (hab : (a : Int) - b = E) (hE : A2 * 2 ^ b < 2 * (B2 * 2 ^ a))
  {c : Nat} (hc : (c : Int) = 800 - op) (hx : 10 ^ (L - 1) * (B2 * 2 ^ p) ≤ A2 * 2 ^ q * 10 ^ (c + (L - 800))) : -(c : Int) ≤ E - 53 + q - p := by
 have h1 : 10 ^ (L - 1) * (B2 * 2 ^ p) * 2 ^ b ≤ A2 * 2 ^ q * 10 ^ (c + (L - 800)) * 2 ^ b := Nat.mul_le_mul_right _ hx
 have h2 : A2 * 2 ^ b * (2 ^ q * 10 ^ (c + (L - 800))) < 2 * (B2 * 2 ^ a) * (2 ^ q * 10 ^ (c + (L - 800))) := Nat.mul_lt_mul_of_pos_right hE (Nat.mul_pos (two_pos _) (ten_pos _))
 have e1 : A2 * 2 ^ q * 10 ^ (c + (L - 800)) * 2 ^ b = A2 * 2 ^ b * (2 ^ q * 10 ^ (c + (L - 800))) := by
  generalize 10 ^ (c + (L - 800)) = z
  ac_rfl
 rw [e1] at h1
 have h3 := Nat.lt_of_le_of_lt h1 h2
 have e2 : 10 ^ (L - 1) * (B2 * 2 ^ p) * 2 ^ b = B2 * (10 ^ (L - 1) * 2 ^ (p + b)) := by rw [Nat.pow_add 2 p b]; ac_rfl
 have e3 : 2 * (B2 * 2 ^ a) * (2 ^ q * 10 ^ (c + (L - 800))) = B2 * (2 ^ (1 + a + q) * 10 ^ (c + (L - 800))) := by
  rw [Nat.pow_add 2 (1 + a) q, Nat.pow_add 2 1 a, Nat.pow_one]
  generalize 10 ^ (c + (L - 800)) = z
  ac_rfl
 rw [e2, e3] at h3
 have h4 := Nat.lt_of_mul_lt_mul_left h3
 by_cases ho : 1 ≤ op
 ·have h5 : 10 ^ (c + (L - 800)) ≤ 10 ^ (L - 1) := Nat.pow_le_pow_right (by omega) (by omega)
  have h6 : 2 ^ (1 + a + q) * 10 ^ (c + (L - 800)) ≤ 2 ^ (1 + a + q) * 10 ^ (L - 1) := Nat.mul_le_mul_left _ h5
  have h7 : 2 ^ (p + b) * 10 ^ (L - 1) < 2 ^ (1 + a + q) * 10 ^ (L - 1) := by rw [Nat.mul_comm (2 ^ (p + b))]; omega
  have h8 := pow_lt_two (Nat.lt_of_mul_lt_mul_right h7)
  omega
 ·obtain ⟨k, hk⟩ : ∃ k : Nat, (k : Int) = 1 - op := ⟨(1 - op).toNat, by omega⟩
  apply Classical.byContradiction
  intro hn
  rw [show c + (L - 800) = (L - 1) + k by omega, Nat.pow_add 10 (L - 1) k, Nat.mul_left_comm] at h4
  have h5 := Nat.lt_of_mul_lt_mul_left h4
  obtain ⟨z, hz, h746⟩ := five746
  obtain ⟨x, hx⟩ : ∃ x, p + b = (1 + a + q) + (z + k) + x := ⟨p + b - ((1 + a + q) + (z + k)), by omega⟩
  rw [hx, Nat.pow_add 2 _ x, Nat.pow_add 2 (1 + a + q), Nat.mul_assoc] at h5
  have h6 := Nat.lt_of_mul_lt_mul_left h5
  have h7 : 2 ^ (z + k) * 1 ≤ 2 ^ (z + k) * 2 ^ x := Nat.mul_le_mul_left _ (two_pos _)
  have h8 : (10 : Nat) ^ k = 2 ^ k * 5 ^ k := by rw [← Nat.mul_pow]
  have h9 : (5 : Nat) ^ k ≤ 5 ^ e301 := Nat.pow_le_pow_right (by omega) (le_e301 (by omega))
  have h10 : 2 ^ k * 5 ^ k ≤ 2 ^ k * 2 ^ z := Nat.mul_le_mul_left _ (Nat.le_trans h9 h746)
  rw [Nat.pow_add 2 z k, Nat.mul_comm (2 ^ z)] at h7
  rw [Nat.pow_add 2 z k, Nat.mul_comm (2 ^ z)] at h6
  omega

/-- The digits beyond the 800th are cut off: what matters stands. -/
theorem Near.cut {A B A2 B2 p q : Nat} {E op : Int} {tr : Bool} {out es : List Nat} (h : Near A B A2 B2 E tr) (hB : 0 < B) (hE : IsLog A B E) (hd : Digits out) (hp : 0 < out.length) (hf : dAt out 0 ≠ 0)
  (hs : Same out op (A2 * 2 ^ q) (B2 * 2 ^ p)) (ht : Trimmed (out.take 800) es) (hc : out.length ≤ 800 ∨ -300 ≤ op) (hop : op ≤ 700) :
  ∃ A3 B3, Canon es ∧ Same es op (A3 * 2 ^ q) (B3 * 2 ^ p) ∧ Near A B A3 B3 E (tr || cutTr out) := by
 have hcan := ht.canonTake hd hp hf
 cases hct : cutTr out with
 | false =>
  refine ⟨A2, B2, hcan, hs.trim (ht.wider hct), ?_⟩
  rw [Bool.or_false]
  exact h
 | true =>
  have hlen : 800 < out.length := by
   apply Classical.byContradiction
   intro hn
   rw [cutTr_short (by omega)] at hct
   cases hct
  have hlo : -300 ≤ op := by omega
  obtain ⟨c, hcc⟩ : ∃ c : Nat, (c : Int) = 800 - op := ⟨(800 - op).toNat, by omega⟩
  obtain ⟨R, hR, hR1, hR2⟩ := dval_split hd (by omega)
  have hR0 := hR2 hct
  obtain ⟨N, hN⟩ : ∃ N, N = dval (out.take 800) := ⟨_, rfl⟩
  rw [← hN] at hR
  have htl : (out.take 800).length = 800 := by rw [List.length_take]; omega
  -- what is told of the old digits
  have hold := hs 0 (c + (out.length - 800)) (by omega)
  rw [Nat.pow_zero, Nat.mul_one] at hold
  have hl := h.log hB hE
  have hB2 := h.posB
  obtain ⟨b, hb⟩ : ∃ b : Nat, (b : Int) = E.natAbs := ⟨_, rfl⟩
  obtain ⟨a, ha⟩ : ∃ a : Nat, (a : Int) - b = E := ⟨(E + b).toNat, by omega⟩
  have hx : 10 ^ (out.length - 1) * (B2 * 2 ^ p) ≤ A2 * 2 ^ q * 10 ^ (c + (out.length - 800)) := by
   rw [← hold]
   have h1 := (pre_head hd (out.length - 1)).1
   rw [show out.length - 1 + 1 = out.length by omega] at h1
   have h2 : 1 * 10 ^ (out.length - 1) ≤ dAt out 0 * 10 ^ (out.length - 1) := Nat.mul_le_mul_right _ (by omega)
   exact Nat.mul_le_mul_right _ (by unfold dval; omega)
  have hpl := places hB2 hlen hop hlo ha (hl a b ha).2 hcc hx
  have hbelow : N * 2 ^ p * B2 < A2 * (10 ^ c * 2 ^ q) := by
   have h1 : N * 10 ^ (out.length - 800) * (B2 * 2 ^ p) < dval out * (B2 * 2 ^ p) := Nat.mul_lt_mul_of_pos_right (by omega) (Nat.mul_pos hB2 (two_pos _))
   rw [hold, Nat.pow_add] at h1
   have e1 : N * 10 ^ (out.length - 800) * (B2 * 2 ^ p) = N * 2 ^ p * B2 * 10 ^ (out.length - 800) := by
    generalize 10 ^ (out.length - 800) = z
    ac_rfl
   have e2 : A2 * 2 ^ q * (10 ^ c * 10 ^ (out.length - 800)) = A2 * (10 ^ c * 2 ^ q) * 10 ^ (out.length - 800) := by
    generalize 10 ^ (out.length - 800) = z
    ac_rfl
   rw [e1, e2] at h1
   exact Nat.lt_of_mul_lt_mul_right h1
  have hNpos : 0 < N := by
   rw [hN]
   exact (show Headed (out.take 800) from ⟨fun t _ => by rw [dAt_take]; split; (· exact hd.all t); (· omega), by omega, by rw [dAt_take, if_pos (by omega)]; exact hf⟩).dval_pos
  refine ⟨N * 2 ^ p, 10 ^ c * 2 ^ q, hcan, ?_, ?_⟩
  ·refine Same.trim ?_ ht
   refine Same.of 0 c (by omega) ?_
   rw [← hN]
   rw [Nat.pow_zero, Nat.mul_one]
   ac_rfl
  ·have h3 : N * 2 ^ p * B < A * (10 ^ c * 2 ^ q) := by
    have h4 : N * 2 ^ p * B2 * B < A2 * (10 ^ c * 2 ^ q) * B := Nat.mul_lt_mul_of_pos_right hbelow hB
    have h5 : A2 * B * (10 ^ c * 2 ^ q) ≤ A * B2 * (10 ^ c * 2 ^ q) := Nat.mul_le_mul_right _ h.le
    have e1 : N * 2 ^ p * B2 * B = B2 * (N * 2 ^ p * B) := by ac_rfl
    have e2 : A2 * (10 ^ c * 2 ^ q) * B = A2 * B * (10 ^ c * 2 ^ q) := by ac_rfl
    have e3 : A * B2 * (10 ^ c * 2 ^ q) = B2 * (A * (10 ^ c * 2 ^ q)) := by ac_rfl
    rw [e1, e2] at h4
    rw [e3] at h5
    exact Nat.lt_of_mul_lt_mul_left (Nat.lt_of_lt_of_le h4 h5)
   refine ⟨Nat.mul_pos hNpos (two_pos _), Nat.mul_pos (ten_pos _) (two_pos _), fun h1 => by simp at h1, fun _ => h3, fun m u v huv hm => ?_⟩
   have h6 := h.point m u v huv hm
   -- beyond the cut
   have h7 : m * (2 ^ (u + q) * 10 ^ c) < (N + 1) * 2 ^ (p + v) := by
    have h8 : m * 2 ^ u * B2 * (2 ^ q * 10 ^ c * 10 ^ (out.length - 800) * 2 ^ p) ≤ A2 * 2 ^ v * (2 ^ q * 10 ^ c * 10 ^ (out.length - 800) * 2 ^ p) := Nat.mul_le_mul_right _ h6
    have e1 : A2 * 2 ^ v * (2 ^ q * 10 ^ c * 10 ^ (out.length - 800) * 2 ^ p) = A2 * 2 ^ q * 10 ^ (c + (out.length - 800)) * 2 ^ (v + p) := by
     rw [Nat.pow_add 10 c, Nat.pow_add 2 v p]
     generalize 10 ^ (out.length - 800) = z
     ac_rfl
    rw [e1, ← hold] at h8
    have h9 : dval out * (B2 * 2 ^ p) * 2 ^ (v + p) < (N + 1) * 10 ^ (out.length - 800) * (B2 * 2 ^ p) * 2 ^ (v + p) := by
     refine Nat.mul_lt_mul_of_pos_right (Nat.mul_lt_mul_of_pos_right ?_ (Nat.mul_pos hB2 (two_pos _))) (two_pos _)
     rw [hR, Nat.add_mul, Nat.one_mul]
     omega
    have h10 := Nat.lt_of_le_of_lt h8 h9
    have e2 : m * 2 ^ u * B2 * (2 ^ q * 10 ^ c * 10 ^ (out.length - 800) * 2 ^ p) = (B2 * 2 ^ p * 10 ^ (out.length - 800)) * (m * (2 ^ (u + q) * 10 ^ c)) := by
     rw [Nat.pow_add 2 u q]
     generalize 10 ^ (out.length - 800) = z
     ac_rfl
    have e3 : (N + 1) * 10 ^ (out.length - 800) * (B2 * 2 ^ p) * 2 ^ (v + p) = (B2 * 2 ^ p * 10 ^ (out.length - 800)) * ((N + 1) * 2 ^ (p + v)) := by
     rw [Nat.add_comm v p]
     generalize 10 ^ (out.length - 800) = z
     ac_rfl
    rw [e2, e3] at h10
    exact Nat.lt_of_mul_lt_mul_left h10
   have h11 : m * (2 ^ (u + q) * 10 ^ c) ≤ N * 2 ^ (p + v) := by
    by_cases hge : p + v ≤ u + q
    ·obtain ⟨d, hdd⟩ : ∃ d, u + q = (p + v) + d := ⟨u + q - (p + v), by omega⟩
     rw [hdd, Nat.pow_add 2 (p + v) d, show m * (2 ^ (p + v) * 2 ^ d * 10 ^ c) = m * 2 ^ d * 10 ^ c * 2 ^ (p + v) by ac_rfl] at h7 ⊢
     have := Nat.lt_of_mul_lt_mul_right h7
     exact Nat.mul_le_mul_right _ (by omega)
    ·obtain ⟨f, hff⟩ : ∃ f, p + v = (u + q) + f := ⟨p + v - (u + q), by omega⟩
     obtain ⟨g, hg⟩ : ∃ g, c = f + g := ⟨c - f, by omega⟩
     have e10 : (10 : Nat) ^ c = 2 ^ f * (5 ^ f * 10 ^ g) := by rw [hg, Nat.pow_add, show (10 : Nat) = 2 * 5 from rfl, Nat.mul_pow, Nat.mul_assoc]
     rw [hff, Nat.pow_add 2 (u + q) f, e10, show m * (2 ^ (u + q) * (2 ^ f * (5 ^ f * 10 ^ g))) = m * (5 ^ f * 10 ^ g) * (2 ^ (u + q) * 2 ^ f) by ac_rfl] at h7 ⊢
     have := Nat.lt_of_mul_lt_mul_right h7
     exact Nat.mul_le_mul_right _ (by omega)
   have e4 : m * 2 ^ u * (10 ^ c * 2 ^ q) = m * (2 ^ (u + q) * 10 ^ c) := by rw [Nat.pow_add]; ac_rfl
   have e5 : N * 2 ^ p * 2 ^ v = N * 2 ^ (p + v) := by rw [Nat.pow_add]; ac_rfl
   rw [e4, e5]
   exact h11

end Go.Proofs.YtgolhmiocjpohaaGreatDoor
