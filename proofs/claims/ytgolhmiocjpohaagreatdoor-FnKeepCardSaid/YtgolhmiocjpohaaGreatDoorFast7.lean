/- The library's pack64 (194), walked: the bits of a float of a rung. No condition beyond those on the numbers. The library's fast road (165), walked. No condition beyond those on the numbers, and what the walk reads of the table. The library's fast road (165) by its contract: the nearest float of d times a power of ten. No condition beyond those on the numbers, and what the walk reads of the table. The library's exact road to floats (164), walked. No condition beyond those on the numbers, and what the walk reads of the library's variables. -/
import Derived.Laws.BitsAllLaws
import Derived.Test.YtgolhmiocjpohaaGreatDoorFast3
import Derived.Test.YtgolhmiocjpohaaGreatDoorFl3
import Derived.WalkLawsBesides
set_option linter.unusedVariables false
set_option linter.unusedSimpArgs false
namespace Go.Proofs.YtgolhmiocjpohaaGreatDoor
open Go.RowKit Go.PlainAid

theorem sgn_cases (neg : Bool) : sgv neg = 0 ∨ sgv neg = 2 ^ 63 := by cases neg <;> simp [sgv]

theorem and_two_pow (x k : Nat) : x &&& 2 ^ k = if x / 2 ^ k % 2 = 1 then 2 ^ k else 0 := by
 apply Nat.eq_of_testBit_eq
 intro j
 rw [Nat.testBit_and, Nat.testBit_two_pow]
 by_cases hj : k = j
 ·subst hj
  rw [Nat.testBit_eq_decide_div_mod_eq]
  split
  ·rename_i h
   simp [h, Nat.testBit_two_pow_self]
  ·rename_i h
   simp [h]
 ·split <;> simp [hj, Nat.testBit_two_pow]

theorem and_high (neg : Bool) (m : Nat) (h : m < 2 ^ 63) : (sgv neg + m) &&& 2 ^ 63 = sgv neg := by
 rw [and_two_pow]
 rcases sgn_cases neg with e | e <;> rw [e] <;> split <;> omega

theorem and_hidden (neg : Bool) (m : Nat) (h : m < 2 ^ 53) : (sgv neg + m) &&& 2 ^ 52 = if 2 ^ 52 ≤ m then 2 ^ 52 else 0 := by
 rw [and_two_pow]
 rcases sgn_cases neg with e | e <;> rw [e] <;> split <;> split <;> omega

theorem strike_bit (h l : Nat) (hh : h < 2 ^ 11) (hl : l < 2 ^ 52) : (2 ^ 53 * h + (2 ^ 52 * 1 + l)) &&& (18446744073709551615 - 4503599627370496) = 2 ^ 53 * h + l := by
 have hM : 18446744073709551615 - 4503599627370496 = 2 ^ 53 * (2 ^ 11 - 1) + (2 ^ 52 - 1) := by decide
 rw [hM]
 apply Nat.eq_of_testBit_eq
 intro j
 have e1 := Nat.testBit_two_pow_mul_add h (i := 53) (b := 2 ^ 52 * 1 + l) (by omega) j
 have e2 := Nat.testBit_two_pow_mul_add (2 ^ 11 - 1) (i := 53) (b := 2 ^ 52 - 1) (by decide) j
 have e3 := Nat.testBit_two_pow_mul_add h (i := 53) (b := l) (by omega) j
 have e4 := Nat.testBit_two_pow_mul_add 1 (i := 52) (b := l) hl j
 rw [Nat.testBit_and, e1, e2, e3, e4, Nat.testBit_two_pow_sub_one, Nat.testBit_two_pow_sub_one]
 by_cases hj : j < 53
 ·simp only [hj, if_true]
  by_cases h52 : j < 52
  ·simp [h52]
  ·have : j = 52 := by omega
   subst this
   simp [Nat.testBit_lt_two_pow hl]
 ·simp only [hj, if_false]
  by_cases hk : j - 53 < 11
  ·simp [hk]
  ·rw [Nat.testBit_lt_two_pow (Nat.lt_of_lt_of_le hh (Nat.pow_le_pow_right (by omega) (by omega)))]
   simp

theorem strike (neg : Bool) (m : Nat) (h1 : 2 ^ 52 ≤ m) (h2 : m < 2 ^ 53) : (sgv neg + m) &&& (18446744073709551615 - 4503599627370496) = sgv neg + (m - 2 ^ 52) := by
 obtain ⟨l, rfl⟩ : ∃ l, m = 2 ^ 52 * 1 + l := ⟨m - 2 ^ 52, by omega⟩
 obtain ⟨c, hc, hc2⟩ : ∃ c, sgv neg = 2 ^ 53 * c ∧ c < 2 ^ 11 := by
  rcases sgn_cases neg with e | e
  ·exact ⟨0, by omega, by omega⟩
  ·exact ⟨2 ^ 10, by omega, by omega⟩
 rw [hc, strike_bit c l hc2 (by omega)]
 omega

theorem join_sign (neg : Bool) (X : Nat) (h : X < 2 ^ 63) : sgv neg ||| X = sgv neg + X := by
 obtain ⟨c, hc⟩ : ∃ c, sgv neg = 2 ^ 63 * c := by
  rcases sgn_cases neg with e | e
  ·exact ⟨0, by omega⟩
  ·exact ⟨1, by omega⟩
 rw [hc, ← Nat.two_pow_add_eq_or_of_lt h]

theorem join_all (neg : Bool) (l E : Nat) (hl : l < 2 ^ 52) (hE : E < 2 ^ 11) : (sgv neg + l) ||| E * 2 ^ 52 = sgv neg + (E * 2 ^ 52 + l) := by
 rw [← join_sign neg l (by omega), ← join_sign neg (E * 2 ^ 52 + l) (by omega), Nat.or_assoc, Nat.or_comm l, Nat.mul_comm, Nat.two_pow_add_eq_or_of_lt hl]

theorem sgn_lt (neg : Bool) : sgv neg ≤ 2 ^ 63 := by rcases sgn_cases neg with e | e <;> omega

set_option maxRecDepth 100000 in
theorem pack_small (neg : Bool) (m : Nat) (e : Int) (w : World) (h : m < 2 ^ 52) :
  Calls Tryz.prog 194 #[.int .u64 ((sgv neg + m : Nat) : Int), .int .i64 e] w fun e' w' => e' = .returned (.tuple #[.float .f64 (sgv neg + m), .nilIface]) ∧ w = w' := by
 have hs := sgn_lt neg
 have hA := and_hidden neg m (by omega)
 rw [if_neg (by omega)] at hA
 have hB := bits_and_u64 (sgv neg + m) (2 ^ 52) (by omega) (by omega)
 rw [hA] at hB
 have hB' : bits .and .u64 ((sgv neg + m : Nat) : Int) 4503599627370496 = 0 := hB
 generalize sgv neg + m = V at *
 clear hA hB hs h
 go_enter Tryz.func194, Tryz.ntmps194
 go_wp2
 rw [call163, Oper.upon_value]
 go_wp2
 go_ret2
 exact ⟨rfl, rfl⟩

set_option maxRecDepth 100000 in
theorem pack_over (neg : Bool) (m : Nat) (e : Int) (w : World) (h1 : 2 ^ 52 ≤ m) (h2 : m < 2 ^ 53) (he : 972 ≤ e) :
  Calls Tryz.prog 194 #[.int .u64 ((sgv neg + m : Nat) : Int), .int .i64 e] w fun e' w' => e' = .returned (.tuple #[.float .f64 (sgv neg + 9218868437227405312), .iface 180 (.int .i64 1)]) ∧ w = w' := by
 have hs := sgn_lt neg
 have hA := and_hidden neg m h2
 rw [if_pos h1] at hA
 have hB := bits_and_u64 (sgv neg + m) (2 ^ 52) (by omega) (by omega)
 rw [hA] at hB
 have hB' : bits .and .u64 ((sgv neg + m : Nat) : Int) 4503599627370496 = 4503599627370496 := hB
 have hC := bits_and_u64 (sgv neg + m) (2 ^ 63) (by omega) (by omega)
 rw [and_high neg m (by omega)] at hC
 have hC' : bits .and .u64 ((sgv neg + m : Nat) : Int) 9223372036854775808 = ((sgv neg : Nat) : Int) := hC
 have hD := bits_or_u64 (sgv neg) 9218868437227405312 (by omega) (by omega)
 rw [join_sign neg _ (by omega)] at hD
 have hD' : bits .or .u64 ((sgv neg : Nat) : Int) 9218868437227405312 = ((sgv neg + 9218868437227405312 : Nat) : Int) := hD
 generalize sgv neg + 9218868437227405312 = R at *
 generalize sgv neg + m = V at *
 generalize sgv neg = S at *
 clear hA hB hC hD hs h1 h2
 go_enter Tryz.func194, Tryz.ntmps194
 go_wp2
 rw [call163, Oper.upon_value]
 go_wp2
 go_ret2
 exact ⟨rfl, rfl⟩

set_option maxRecDepth 100000 in
theorem pack_normal (neg : Bool) (m E : Nat) (e : Int) (w : World) (h1 : 2 ^ 52 ≤ m) (h2 : m < 2 ^ 53) (he : e < 972) (hE : (E : Int) = 1075 + e) :
  Calls Tryz.prog 194 #[.int .u64 ((sgv neg + m : Nat) : Int), .int .i64 e] w fun e' w' => e' = .returned (.tuple #[.float .f64 (sgv neg + (E * 2 ^ 52 + (m - 2 ^ 52))), .nilIface]) ∧ w = w' := by
 have hs := sgn_lt neg
 have hA := and_hidden neg m h2
 rw [if_pos h1] at hA
 have hB := bits_and_u64 (sgv neg + m) (2 ^ 52) (by omega) (by omega)
 rw [hA] at hB
 have hB' : bits .and .u64 ((sgv neg + m : Nat) : Int) 4503599627370496 = 4503599627370496 := hB
 have hC := u64_andNot_nat (sgv neg + m) 4503599627370496 (by omega) (by omega)
 rw [strike neg m h1 h2] at hC
 have hC' : bits .andNot .u64 ((sgv neg + m : Nat) : Int) 4503599627370496 = ((sgv neg + (m - 2 ^ 52) : Nat) : Int) := hC
 have hD := bits_or_u64 (sgv neg + (m - 2 ^ 52)) (E * 2 ^ 52) (by omega) (by omega)
 rw [join_all neg (m - 2 ^ 52) E (by omega) (by omega)] at hD
 obtain ⟨F, hF⟩ : ∃ F, F = E * 2 ^ 52 := ⟨_, rfl⟩
 rw [← hF] at hD ⊢
 have eE : 1075 + e = (E : Int) := hE.symm
 have hE0 : E ≤ 2046 := by omega
 have eF : (E : Int) * 4503599627370496 = (F : Int) := by rw [hF]; omega
 have hFl : F ≤ 9223372036854775807 := by omega
 generalize sgv neg + (F + (m - 2 ^ 52)) = R at *
 generalize sgv neg + (m - 2 ^ 52) = V2 at *
 generalize sgv neg + m = V at *
 clear hA hB hC hs h1 h2 hF hE
 have he1 : -1075 ≤ e := by omega
 go_enter Tryz.func194, Tryz.ntmps194
 go_wp2
 rw [call163, Oper.upon_value]
 go_wp2
 go_ret2
 exact ⟨rfl, rfl⟩

end Go.Proofs.YtgolhmiocjpohaaGreatDoor

namespace Go.Proofs.YtgolhmiocjpohaaGreatDoor
open Go.RowKit Go.PlainAid

theorem alloc_new (w : World) (o : Obj) : (w.alloc o).heap[w.heap.size]? = some o := by
 show (w.heap.push o)[w.heap.size]? = some o
 simp

theorem uscale_calls {i x s b : Nat} (hi : i < 696) (hx1 : 2 ^ 63 ≤ x) (hx2 : x < 2 ^ 64) (hs1 : 8 ≤ s) (hs2 : s ≤ 63) (w : World)
  (hb : w.heap[b]? = some (.cells #[.int .u64 (tabHi i), .int .u64 (tabLo i), .int .i64 s] 276 (0, 0))) :
  Calls Tryz.prog 187 #[.int .u64 x, .pointer (some ⟨b, 0, none⟩)] w fun e w' => e = .returned (.int .u64 (unr (x * tenN i) (tenD i * 2 ^ (128 + s)) : Nat)) ∧ ∃ n, w' = w.drewN n :=
 have h := (row3 hb).1
 uscale_is i _ _ x s b w (row_is hi) hx1 hx2 hs1 hs2 h.1 h.2.1 h.2.2

/-- A float and whether it was too large. -/
def FloatRes (neg : Bool) (r : Nat) (w : World) (e : Ending) (w' : World) : Prop :=
 e = .returned (.tuple #[.float .f64 (sgv neg + cutRung r), if overRung r then .iface 180 (.int .i64 1) else .nilIface]) ∧ Below w.heap.size w w'

theorem len64 (d b : Nat) (h : d < 2 ^ 64) (hb : Lib.bitLen d = b) (w : World) : Calls Tryz.prog 108 #[.int .u64 (d : Int)] w fun e w' => e = .returned (.int .i64 (b : Int)) ∧ w = w' := by
 refine (Tryz.bits_Len64 d w (by omega) (by omega)).mono fun _ _ ⟨a, c⟩ => ⟨?_, c.symm⟩
 rw [a, Int.toNat_natCast, hb]

theorem pre_calls {b i : Nat} {p lp e s : Int} {w : World} (hb64 : b ≤ 64) (hi : p + 348 = i) (hi2 : i < 696) (hl1 : -1200 ≤ lp) (hl2 : lp ≤ 1200) (he1 : -2000 ≤ e) (he2 : e ≤ 1074) (hs : s = -(e - (64 - (b : Int)) + lp + 3))
  (hT : TabAt w) (hz : 20 ≤ w.heap.size) :
  Calls Tryz.prog 186 #[.pointer (some ⟨w.heap.size, 0, none⟩), .int .i64 (e - (64 - (b : Int))), .int .i64 p, .int .i64 lp] (w.alloc (.cells #[.int .u64 0, .int .u64 0, .int .i64 0] 276 (0, 0))) fun e' w' => e' = .returned (.tuple #[]) ∧
   w'.heap[w.heap.size]? = some (.cells #[.int .u64 (tabHi i), .int .u64 (tabLo i), .int .i64 s] 276 (0, 0)) ∧ Below w.heap.size (w.alloc (.cells #[.int .u64 0, .int .u64 0, .int .i64 0] 276 (0, 0))) w' :=
 prescale_is _ p lp s i w.heap.size w.heap.size _ (fun i hi => ⟨by rw [World.cell?_alloc_past _ _ _ (by show 15 < _; omega)]; exact (hT i hi).1, by rw [World.cell?_alloc_past _ _ _ (by show 15 < _; omega)]; exact (hT i hi).2⟩) hi hi2 _ _ _ (by omega) (Nat.le_refl _) (alloc_new w _) (by omega) (by omega) (by omega) (by omega) hs

set_option maxHeartbeats 1600000 in
set_option maxRecDepth 100000 in
theorem parse_far (d b i : Nat) (p lp e s : Int) (neg : Bool) (w : World) (hd : d < 2 ^ 64) (hb : Lib.bitLen d = b) (hb64 : b ≤ 64) (hi : p + 348 = i) (hi2 : i < 696) (hlp : lpOf p = lp) (he : min 1074 (53 - (b : Int) - lp) = e) (hs : s = -(e - (64 - (b : Int)) + lp + 3)) (hs64 : 64 ≤ s)
  (hT : TabAt w) (hz : 20 ≤ w.heap.size) :
  Calls Tryz.prog 165 #[.int .u64 (d : Int), .int .i64 p, .int .u64 (sgv neg : Nat)] w (FloatRes neg 0 w) := by
 have hl1 : -1200 ≤ lp := by rw [← hlp]; unfold lpOf; omega
 have hl2 : lp ≤ 1200 := by rw [← hlp]; unfold lpOf; omega
 have he1 : -2000 ≤ e := by omega
 have he2 : e ≤ 1074 := by omega
 have HLen := Lib.hid (len64 d b hd hb)
 have HLp : Hid (∀ w, Calls Tryz.prog 185 #[.int .i64 p] w fun e w' => e = .returned (.int .i64 lp) ∧ w = w') := fun w => by
  have := fast_lp p w (by omega) (by omega)
  rwa [hlp] at this
 have HPre := Lib.hid (pre_calls hb64 hi hi2 hl1 hl2 he1 he2 hs hT hz)
 have h0 : (sgv neg + cutRung 0) = sgv neg := rfl
 have hO := bits_or_u64 (sgv neg) 0 (by have := sgn_lt neg; omega) (by omega)
 rw [Nat.or_zero] at hO
 have hO' : bits .or .u64 ((sgv neg : Nat) : Int) 0 = ((sgv neg : Nat) : Int) := hO
 unfold FloatRes
 rw [h0]
 generalize sgv neg = S at *
 clear hd hb hlp hi hi2 hT hs h0 hO
 go_enter Tryz.func165, Tryz.ntmps165
 go_wp2_with (first
  | (go_at_call 108; (with_reducible refine (HLen.out _).mono ?_); rintro e' w1 ⟨rfl, rfl⟩)
  | (go_at_call 185; (with_reducible refine (HLp.out _).mono ?_); rintro e' w1 ⟨rfl, rfl⟩)
  | (go_at_call 186; (with_reducible refine HPre.out.mono ?_); rintro e' w1 ⟨rfl, t1, t2⟩; have c2 := (row3 t1).1.2.2; have HB := Lib.hid t2; clear t1 t2))
 rw [call163, Oper.upon_value]
 go_wp2
 go_ret2
 exact ⟨rfl, ((Below.refl _ _).alloc (Nat.le_refl _) _).trans HB.out⟩

set_option maxHeartbeats 1600000 in
set_option maxRecDepth 100000 in
theorem parse_near (d b i s U m R : Nat) (p lp e ef : Int) (neg : Bool) (er : Value) (w : World) (hd : d < 2 ^ 64) (hb : Lib.bitLen d = b) (hb64 : b ≤ 64) (hi : p + 348 = i) (hi2 : i < 696) (hlp : lpOf p = lp) (he : min 1074 (53 - (b : Int) - lp) = e) (hs : (s : Int) = -(e - (64 - (b : Int)) + lp + 3)) (hs8 : 8 ≤ s) (hs64 : s ≤ 63)
  (hx1 : 2 ^ 63 ≤ d * 2 ^ (64 - b)) (hx2 : d * 2 ^ (64 - b) < 2 ^ 64) (hU : unr (d * 2 ^ (64 - b) * tenN i) (tenD i * 2 ^ (128 + s)) = U) (hUl : U < 2 ^ 56)
  (hm : m < 2 ^ 53) (hcs : (U < 36028797018963966 ∧ rnd4 U = m ∧ ef = -e) ∨ (36028797018963966 ≤ U ∧ rnd4 (U / 2 ||| U % 2) = m ∧ ef = -(e - 1)))
  (hT : TabAt w) (hz : 20 ≤ w.heap.size)
  (HPack : Hid (∀ w, Calls Tryz.prog 194 #[.int .u64 ((sgv neg + m : Nat) : Int), .int .i64 ef] w fun e' w' => e' = .returned (.tuple #[.float .f64 R, er]) ∧ w = w')) :
  Calls Tryz.prog 165 #[.int .u64 (d : Int), .int .i64 p, .int .u64 (sgv neg : Nat)] w fun e w' => e = .returned (.tuple #[.float .f64 R, er]) ∧ Below w.heap.size w w' := by
 have hl1 : -1200 ≤ lp := by rw [← hlp]; unfold lpOf; omega
 have hl2 : lp ≤ 1200 := by rw [← hlp]; unfold lpOf; omega
 have he1 : -2000 ≤ e := by omega
 have he2 : e ≤ 1074 := by omega
 have HLen := Lib.hid (len64 d b hd hb)
 have HLp : Hid (∀ w, Calls Tryz.prog 185 #[.int .i64 p] w fun e w' => e = .returned (.int .i64 lp) ∧ w = w') := fun w => by
  have := fast_lp p w (by omega) (by omega)
  rwa [hlp] at this
 have HPre := Lib.hid (pre_calls hb64 hi hi2 hl1 hl2 he1 he2 hs hT hz)
 obtain ⟨x, hx⟩ : ∃ x, x = d * 2 ^ (64 - b) := ⟨_, rfl⟩
 rw [← hx] at hx1 hx2 hU
 have HUs := Lib.hid (fun w2 h => uscale_calls (b := w.heap.size) hi2 hx1 hx2 hs8 hs64 w2 h)
 rw [hU] at HUs
 have eX : IntKind.u64.wrap ((d : Int) * 2 ^ (64 - b)) = (x : Int) := by
  rw [show (d : Int) * 2 ^ (64 - b) = ((d * 2 ^ (64 - b) : Nat) : Int) by simp, ← hx]
  exact wrap_u64 _ hx2
 have eB : (64 - (b : Int)).toNat = 64 - b := by omega
 have eB0 : (0 : Int) ≤ 64 - (b : Int) := by omega
 have eS : ¬ (64 : Int) ≤ (s : Int) := by omega
 have eM := bits_or_u64 (sgv neg) m (by have := sgn_lt neg; omega) (by omega)
 rw [join_sign neg m (by omega)] at eM
 have eR := bits_mask_u64 U 1 2 rfl (by omega) (by omega)
 have eR' : bits .and .u64 (U : Int) 1 = ((U % 2 : Nat) : Int) := eR
 generalize sgv neg + m = V at *
 generalize sgv neg = S at *
 clear eR hd hb hlp hi hi2 hT hs hx1 hx2 hU hx
 rcases hcs with ⟨k1, k2, k3⟩ | ⟨k1, k2, k3⟩
 ·have HR : Hid (∀ w, Calls Tryz.prog 191 #[.int .u64 ((U ||| U % 2 : Nat) : Int)] w fun e w' => e = .returned (.int .u64 (m : Nat)) ∧ w = w') := fun w => by
   have h1 : U ||| U % 2 = U := by
    rcases Nat.mod_two_eq_zero_or_one U with h | h
    ·rw [h, Nat.or_zero]
    ·rw [h, or_one]; omega
   rw [h1, ← k2]
   exact fast_round U w (by omega)
  have eO := bits_or_u64 U (U % 2) (by omega) (by omega)
  have d1 : decide ((36028797018963966 : Int) ≤ (U : Int)) = false := decide_eq_false (by omega)
  have eE : -e = ef := by omega
  generalize (U ||| U % 2) = U2 at *
  generalize U % 2 = U3 at *
  clear k2 k3 k1 hm hUl
  go_enter Tryz.func165, Tryz.ntmps165
  go_wp2_with (first
   | (go_at_call 108; (with_reducible refine (HLen.out _).mono ?_); rintro e' w1 ⟨rfl, rfl⟩)
   | (go_at_call 185; (with_reducible refine (HLp.out _).mono ?_); rintro e' w1 ⟨rfl, rfl⟩)
   | (go_at_call 186; (with_reducible refine HPre.out.mono ?_); rintro e' w1 ⟨rfl, t1, t2⟩; have c2 := (row3 t1).1.2.2; have HB := Lib.hid t2; have HC := Lib.hid t1; clear t1 t2)
   | (go_at_call 187; (with_reducible refine (HUs.out _ HC.out).mono ?_); rintro e' w1 ⟨rfl, n, rfl⟩)
   | (go_at_call 189; (with_reducible refine (fast_unmin _).mono ?_); rintro e' w1 ⟨rfl, rfl⟩)
   | (go_at_call 188; (with_reducible refine (fast_bool2 _ _).mono ?_); rintro e' w1 ⟨rfl, rfl⟩)
   | (go_at_call 191; (with_reducible refine (HR.out _).mono ?_); rintro e' w1 ⟨rfl, rfl⟩)
   | (go_at_call 194; (with_reducible refine (HPack.out _).mono ?_); rintro e' w1 ⟨rfl, rfl⟩))
  go_ret2
  exact ⟨rfl, below_drewN (((Below.refl _ _).alloc (Nat.le_refl _) _).trans HB.out) _⟩
 ·have HR : Hid (∀ w, Calls Tryz.prog 191 #[.int .u64 ((U / 2 ||| U % 2 : Nat) : Int)] w fun e w' => e = .returned (.int .u64 (m : Nat)) ∧ w = w') := fun w => by
   rw [← k2]
   exact fast_round _ w (by have h0 : U / 2 ||| U % 2 < 2 ^ 64 := Nat.or_lt_two_pow (by omega) (by omega); have h9 : U / 2 ||| U % 2 < 2 ^ 60 := Nat.or_lt_two_pow (by omega) (by omega); omega)
  have eO := bits_or_u64 (U / 2) (U % 2) (by omega) (by omega)
  have eH : (U : Int) / 2 = ((U / 2 : Nat) : Int) := by omega
  generalize hU4 : U / 2 = U4 at *
  clear hU4
  have d1 : decide ((36028797018963966 : Int) ≤ (U : Int)) = true := decide_eq_true (by omega)
  have eE : -(e - 1) = ef := by omega
  generalize (U4 ||| U % 2) = U2 at *
  generalize U % 2 = U3 at *
  clear k2 k3 k1 hm hUl
  go_enter Tryz.func165, Tryz.ntmps165
  go_wp2_with (first
   | (go_at_call 108; (with_reducible refine (HLen.out _).mono ?_); rintro e' w1 ⟨rfl, rfl⟩)
   | (go_at_call 185; (with_reducible refine (HLp.out _).mono ?_); rintro e' w1 ⟨rfl, rfl⟩)
   | (go_at_call 186; (with_reducible refine HPre.out.mono ?_); rintro e' w1 ⟨rfl, t1, t2⟩; have c2 := (row3 t1).1.2.2; have HB := Lib.hid t2; have HC := Lib.hid t1; clear t1 t2)
   | (go_at_call 187; (with_reducible refine (HUs.out _ HC.out).mono ?_); rintro e' w1 ⟨rfl, n, rfl⟩)
   | (go_at_call 189; (with_reducible refine (fast_unmin _).mono ?_); rintro e' w1 ⟨rfl, rfl⟩)
   | (go_at_call 188; (with_reducible refine (fast_bool2 _ _).mono ?_); rintro e' w1 ⟨rfl, rfl⟩)
   | (go_at_call 191; (with_reducible refine (HR.out _).mono ?_); rintro e' w1 ⟨rfl, rfl⟩)
   | (go_at_call 194; (with_reducible refine (HPack.out _).mono ?_); rintro e' w1 ⟨rfl, rfl⟩))
  go_ret2
  exact ⟨rfl, below_drewN (((Below.refl _ _).alloc (Nat.le_refl _) _).trans HB.out) _⟩

end Go.Proofs.YtgolhmiocjpohaaGreatDoor

namespace Go.Proofs.YtgolhmiocjpohaaGreatDoor
open Go.RowKit Go.PlainAid

theorem bitLenAux_is : ∀ (f x : Nat), 0 < x → x < 2 ^ f → 0 < Lib.bitLenAux f x ∧ Lib.bitLenAux f x ≤ f ∧ 2 ^ (Lib.bitLenAux f x - 1) ≤ x ∧ x < 2 ^ Lib.bitLenAux f x
 | 0, x, h1, h2 => by simp at h2; omega
 | f + 1, x, h1, h2 => by
  unfold Lib.bitLenAux
  rw [if_neg (by omega)]
  by_cases h : x / 2 = 0
  ·have e : Lib.bitLenAux f (x / 2) = 0 := by
    rw [h]
    cases f <;> simp [Lib.bitLenAux]
   rw [e]
   refine ⟨by omega, by omega, by simp; omega, by simp; omega⟩
  ·have := bitLenAux_is f (x / 2) (by omega) (by rw [Nat.pow_succ] at h2; omega)
   obtain ⟨a1, a2, a3, a4⟩ := this
   generalize Lib.bitLenAux f (x / 2) = b at *
   obtain ⟨c, rfl⟩ : ∃ c, b = c + 1 := ⟨b - 1, by omega⟩
   rw [show 1 + (c + 1) - 1 = c + 1 by omega, show 1 + (c + 1) = c + 1 + 1 by omega, Nat.pow_succ 2 (c + 1)]
   rw [show c + 1 - 1 = c by omega] at a3
   rw [Nat.pow_succ] at a4 ⊢
   refine ⟨by omega, by omega, by omega, by omega⟩

set_option maxRecDepth 100000 in
theorem parse64 (d : Nat) (p : Int) (r : Nat) (neg : Bool) (w : World) (hd0 : 0 < d) (hd : d < 2 ^ 64) (hp1 : -348 ≤ p) (hp2 : p ≤ 347) (hr : Rung (d * 10 ^ p.toNat) (10 ^ (-p).toNat) r) (hT : TabAt w) (hz : 20 ≤ w.heap.size) :
  Calls Tryz.prog 165 #[.int .u64 (d : Int), .int .i64 p, .int .u64 (sgv neg : Nat)] w (FloatRes neg r w) := by
 obtain ⟨b, hb⟩ : ∃ b, Lib.bitLen d = b := ⟨_, rfl⟩
 obtain ⟨b0, b64, b1, b2⟩ := bitLenAux_is 64 d hd0 hd
 unfold Lib.bitLen at hb
 rw [hb] at b0 b64 b1 b2
 change Lib.bitLen d = b at hb
 obtain ⟨i, hi⟩ : ∃ i : Nat, p + 348 = i := ⟨(p + 348).toNat, by omega⟩
 have hi2 : i < 696 := by omega
 obtain ⟨lp, hlp⟩ : ∃ lp, lpOf p = lp := ⟨_, rfl⟩
 have hl1 : -1200 ≤ lp := by rw [← hlp]; unfold lpOf; omega
 have hl2 : lp ≤ 1200 := by rw [← hlp]; unfold lpOf; omega
 obtain ⟨e, he⟩ : ∃ e, min 1074 (53 - (b : Int) - lp) = e := ⟨_, rfl⟩
 by_cases h64 : 64 ≤ -(e - (64 - (b : Int)) + lp + 3)
 ·have h0 := hr.unique (parse_tiny hd0 b2 hi hi2 (by omega))
  subst h0
  exact parse_far d b i p lp e _ neg w hd hb b64 hi hi2 hlp he rfl h64 hT hz
 ·obtain ⟨s, hs⟩ : ∃ s : Nat, (s : Int) = -(e - (64 - (b : Int)) + lp + 3) := ⟨(-(e - (64 - (b : Int)) + lp + 3)).toNat, by omega⟩
  obtain ⟨g1, g2, g3⟩ := parse_rung (d := d) (p := p) (e := e) (i := i) (b := b) (s := s) b0 b1 b2 b64 hi hi2 (by rw [hlp]; omega) (by rw [hlp]; omega) (by omega)
  have hx1 : 2 ^ 63 ≤ d * 2 ^ (64 - b) := by
   have h1 : 2 ^ (b - 1) * 2 ^ (64 - b) ≤ d * 2 ^ (64 - b) := Nat.mul_le_mul_right _ b1
   rwa [← Nat.pow_add, show b - 1 + (64 - b) = 63 by omega] at h1
  have hx2 : d * 2 ^ (64 - b) < 2 ^ 64 := by
   have h1 : d * 2 ^ (64 - b) < 2 ^ b * 2 ^ (64 - b) := Nat.mul_lt_mul_of_pos_right b2 (two_pos _)
   rwa [← Nat.pow_add, show b + (64 - b) = 64 by omega] at h1
  obtain ⟨U, hU⟩ : ∃ U, unr (d * 2 ^ (64 - b) * tenN i) (tenD i * 2 ^ (128 + s)) = U := ⟨_, rfl⟩
  rw [hU] at g1 g2 g3
  -- the post, by a rung and an exponent
  have key : ∀ (m : Nat) (ef : Int), m < 2 ^ 53 → (m < 2 ^ 52 → ef = -1074) → -1074 ≤ ef → ef ≤ 2000 → (∀ c : Nat, (c : Int) = 1074 + ef → r = c * 2 ^ 52 + m) →
    ((U < 36028797018963966 ∧ rnd4 U = m ∧ ef = -e) ∨ (36028797018963966 ≤ U ∧ rnd4 (U / 2 ||| U % 2) = m ∧ ef = -(e - 1))) →
    Calls Tryz.prog 165 #[.int .u64 (d : Int), .int .i64 p, .int .u64 (sgv neg : Nat)] w (FloatRes neg r w) := by
   intro m ef hm hm52 hef hef2 hrm hcs
   obtain ⟨c, hc⟩ : ∃ c : Nat, (c : Int) = 1074 + ef := ⟨(1074 + ef).toNat, by omega⟩
   have hr := hrm c hc
   have go : ∀ (R : Nat) (er : Value), (∀ w, Calls Tryz.prog 194 #[.int .u64 ((sgv neg + m : Nat) : Int), .int .i64 ef] w fun e' w' => e' = .returned (.tuple #[.float .f64 R, er]) ∧ w = w') → R = sgv neg + cutRung r → er = (if overRung r then .iface 180 (.int .i64 1) else .nilIface) →
     Calls Tryz.prog 165 #[.int .u64 (d : Int), .int .i64 p, .int .u64 (sgv neg : Nat)] w (FloatRes neg r w) := by
    intro R er hp e1 e2
    unfold FloatRes
    rw [← e1, ← e2]
    have q1 : 8 ≤ s := by omega
    have q2 : s ≤ 63 := by omega
    have q3 : U < 2 ^ 56 := by omega
    have HP := Lib.hid hp
    have q4 := parse_near d b i s U m R p lp e ef neg er w hd hb b64 hi hi2 hlp he hs q1 q2 hx1 hx2 hU q3 hm hcs hT hz HP
    exact q4
   by_cases h52 : m < 2 ^ 52
   ·have h1 := hm52 h52
    have hrm2 : r = m := by
     have : c = 0 := by omega
     subst this
     omega
    refine go (sgv neg + m) .nilIface (fun w => pack_small neg m ef w h52) ?_ ?_
    ·unfold cutRung
     rw [if_neg (by omega), hrm2]
    ·rw [show overRung r = false from decide_eq_false (by omega)]
     rfl
   ·by_cases hov : 972 ≤ ef
    ·refine go (sgv neg + 9218868437227405312) (.iface 180 (.int .i64 1)) (fun w => pack_over neg m ef w (by omega) hm hov) ?_ ?_
     ·unfold cutRung
      rw [if_pos (by omega)]
     ·rw [show overRung r = true from decide_eq_true (by omega)]
      rfl
    ·refine go (sgv neg + ((c + 1) * 2 ^ 52 + (m - 2 ^ 52))) .nilIface (fun w => pack_normal neg m (c + 1) ef w (by omega) hm (by omega) (by omega)) ?_ ?_
     ·unfold cutRung
      rw [if_neg (by omega), show (c + 1) * 2 ^ 52 + (m - 2 ^ 52) = r by omega]
     ·rw [show overRung r = false from decide_eq_false (by omega)]
      rfl
  by_cases hlt : U < 2 ^ 55 - 2
  ·obtain ⟨m1, m2, m3⟩ := g2 hlt
   refine key (rnd4 U) (-e) m1 (fun h => ?_) (by omega) (by omega) (fun c hc => ?_) (Or.inl ⟨by omega, rfl, rfl⟩)
   ·by_cases h74 : e = 1074
    ·omega
    ·have := m2 h74; omega
   ·exact hr.unique (m3 c (by omega))
  ·obtain ⟨m1, m2, m3⟩ := g3 (by omega)
   refine key (rnd4 (U / 2 ||| U % 2)) (-(e - 1)) m1 (fun h => by omega) (by omega) (by omega) (fun c hc => ?_) (Or.inr ⟨by omega, rfl, rfl⟩)
   obtain ⟨c', rfl⟩ : ∃ c', c = c' + 1 := ⟨c - 1, by omega⟩
   exact hr.unique (m3 c' (by omega))

end Go.Proofs.YtgolhmiocjpohaaGreatDoor

namespace Go.Proofs.YtgolhmiocjpohaaGreatDoor
open Go.RowKit Go.PlainAid

/-- What the walks read of the exact powers of ten. -/
def TensAt (w : World) : Prop := ∃ g o c, w.cell? ⟨14, 0, none⟩ = some (.slice (some ⟨g, o, none⟩) 23 c) ∧ ∀ k, k < 23 → w.cell? ⟨g, o + k, none⟩ = some (.float .f64 (f10 k))

/-- An exact float, or none. -/
def ExactIs (neg : Bool) (r : Nat) (w : World) (e : Ending) (w' : World) : Prop :=
 ∃ x ok, e = .returned (.tuple #[.float .f64 x, .bool ok]) ∧ (ok = true → x = sgv neg + cutRung r) ∧ w = w'

/-- The like, of a float's bits. -/
def ExactZ (z : Nat) (w : World) (e : Ending) (w' : World) : Prop := ∃ v ok, e = .returned (.tuple #[.float .f64 v, .bool ok]) ∧ (ok = true → v = z) ∧ w = w'

theorem float_mul {x y a b r : Nat} {s : Bool} (hx : WordIs x a s) (hy : WordIs y b false) (hr : Rung (a * b) 1 r) : floatBits .mul .f64 x y = some (sgv s + cutRung r) := mul_is hx hy hr
theorem float_div {x y a b r : Nat} {s : Bool} (hx : WordIs x a s) (hy : WordIs y b false) (ha : 0 < a) (hb : 0 < b) (hr : Rung a b r) : floatBits .quo .f64 x y = some (sgv s + cutRung r) := div_is hx hy ha hb hr

theorem neg_lit {n : Nat} (h : n < 2 ^ 53) : Op.unary .neg (.float .f64 (fBits false n)) = pure (.float .f64 (fBits true n)) := by
 show pure (Value.float .f64 (Op.negFloat .f64 (fBits false n))) = _
 rw [neg_fBits h]

set_option maxHeartbeats 1600000 in
set_option maxRecDepth 100000 in
/-- Too many digits. -/
theorem exact_large (n : Nat) (e : Int) (neg : Bool) (r : Nat) (w : World) (h : 2 ^ 52 ≤ n) (h2 : n < 2 ^ 64) (hmb : w.cell? ⟨10, 0, none⟩ = some (.int .u64 52)) :
  Calls Tryz.prog 164 #[.int .u64 (n : Int), .int .i64 e, .bool neg] w (ExactIs neg r w) := by
 have hq : ((n : Int) / 4503599627370496 != 0) = true := by simp; omega
 clear h h2
 go_enter Tryz.func164, Tryz.ntmps164
 go_wp2
 go_ret2
 exact ⟨_, _, rfl, by simp, rfl⟩

/-- How a whole number's float stands to 10^15. -/
theorem order_small (neg : Bool) {n : Nat} (h : n < 2 ^ 53) (hle : n ≤ 10 ^ 15) :
  (FloatKind.f64.format.order (fBits neg n) 4831355200913801216 == some .gt) = false ∧ (FloatKind.f64.format.order (fBits neg n) 14054727237768577024 == some .lt) = false := by
 constructor
 ·rw [← c15, order_fBits neg false h (by decide)]
  have hle2 : sgn neg n ≤ sgn false (10 ^ 15) := by unfold sgn; cases neg <;> simp <;> omega
  rcases Int.lt_or_eq_of_le hle2 with h1 | h1
  ·rw [compare_lt h1]; rfl
  ·rw [h1]; decide
 ·rw [← c15', order_fBits neg true h (by decide)]
  have hle2 : sgn true (10 ^ 15) ≤ sgn neg n := by unfold sgn; cases neg <;> simp <;> omega
  rcases Int.lt_or_eq_of_le hle2 with h1 | h1
  ·rw [compare_gt h1]; rfl
  ·rw [← h1]; decide

/-- A float beyond 10^15. -/
theorem order_above (neg : Bool) {n : Nat} (h : n < 2 ^ 53) (hle : 10 ^ 15 < n) :
  if neg then (FloatKind.f64.format.order (fBits neg n) 4831355200913801216 == some .gt) = false ∧ (FloatKind.f64.format.order (fBits neg n) 14054727237768577024 == some .lt) = true
  else (FloatKind.f64.format.order (fBits neg n) 4831355200913801216 == some .gt) = true := by
 cases neg
 ·simp only [Bool.false_eq_true, if_false]
  rw [← c15, order_fBits false false h (by decide), compare_gt (by unfold sgn; simp; omega)]
  rfl
 ·simp only [if_true]
  constructor
  ·rw [← c15, order_fBits true false h (by decide), compare_lt (by unfold sgn; simp; omega)]
   rfl
  ·rw [← c15', order_fBits true true h (by decide), compare_lt (by unfold sgn; simp; omega)]
   rfl

set_option maxHeartbeats 1600000 in
set_option maxRecDepth 100000 in
theorem exact_pos_at (n k x0 x y z : Nat) (neg : Bool) (w : World) (hq : (n : Int) / 4503599627370496 = 0) (hk0 : (0 : Int) < (k : Int)) (k0' : ((k : Int) == 0) = false) (hki : (k : Int) ≤ 22) (hmb : w.cell? ⟨10, 0, none⟩ = some (.int .u64 52))
  (g o c : Nat) (hsl : w.cell? ⟨14, 0, none⟩ = some (.slice (some ⟨g, o, none⟩) 23 c)) (hel : w.cell? ⟨g, o + k, none⟩ = some (.float .f64 y))
  (hn : floatOfInt .f64 (n : Int) = x0) (hneg : (neg = true ∧ Op.unary .neg (.float .f64 x0) = pure (.float .f64 x)) ∨ (neg = false ∧ x0 = x))
  (hm : floatBits .mul .f64 x y = some z) (hcs : ((FloatKind.f64.format.order x 4831355200913801216 == some .gt) = false ∧ (FloatKind.f64.format.order x 14054727237768577024 == some .lt) = false) ∨
   (FloatKind.f64.format.order x 4831355200913801216 == some .gt) = true ∨ ((FloatKind.f64.format.order x 4831355200913801216 == some .gt) = false ∧ (FloatKind.f64.format.order x 14054727237768577024 == some .lt) = true)) :
  Calls Tryz.prog 164 #[.int .u64 (n : Int), .int .i64 (k : Int), .bool neg] w (ExactZ z w) := by
 have hrun := fun (t : TypeId) (w : World) => run_float_arith (P := Tryz.prog) w .mul t .f64 x y z hm
 clear hm
 rcases hneg with ⟨rfl, hneg⟩ | ⟨rfl, rfl⟩ <;> rcases hcs with ⟨k1, k2⟩ | k1 | ⟨k1, k2⟩
 all_goals
  go_enter Tryz.func164, Tryz.ntmps164
  go_wp2
  go_ret2
  first
   | exact ⟨_, _, rfl, by simp, rfl⟩
   | exact ⟨_, _, rfl, fun _ => rfl, rfl⟩

set_option maxHeartbeats 1600000 in
set_option maxRecDepth 100000 in
theorem exact_far_at (n k j x0 x y1 y2 z1 z : Nat) (neg : Bool) (w : World) (hq : (n : Int) / 4503599627370496 = 0) (k0' : ((k : Int) == 0) = false) (hki : (22 : Int) < (k : Int)) (hki2 : (k : Int) ≤ 37) (hj : (k : Int) - 22 = (j : Int)) (hj2 : j < 23) (hmb : w.cell? ⟨10, 0, none⟩ = some (.int .u64 52))
  (g o c : Nat) (hsl : w.cell? ⟨14, 0, none⟩ = some (.slice (some ⟨g, o, none⟩) 23 c)) (hel : w.cell? ⟨g, o + j, none⟩ = some (.float .f64 y1)) (hel2 : w.cell? ⟨g, o + 22, none⟩ = some (.float .f64 y2))
  (hn : floatOfInt .f64 (n : Int) = x0) (hneg : (neg = true ∧ Op.unary .neg (.float .f64 x0) = pure (.float .f64 x)) ∨ (neg = false ∧ x0 = x))
  (hm1 : floatBits .mul .f64 x y1 = some z1) (hcs : ((FloatKind.f64.format.order z1 4831355200913801216 == some .gt) = false ∧ (FloatKind.f64.format.order z1 14054727237768577024 == some .lt) = false ∧ floatBits .mul .f64 z1 y2 = some z) ∨
   (FloatKind.f64.format.order z1 4831355200913801216 == some .gt) = true ∨ ((FloatKind.f64.format.order z1 4831355200913801216 == some .gt) = false ∧ (FloatKind.f64.format.order z1 14054727237768577024 == some .lt) = true)) :
  Calls Tryz.prog 164 #[.int .u64 (n : Int), .int .i64 (k : Int), .bool neg] w (ExactZ z w) := by
 have hrun1 := fun (t : TypeId) (w : World) => run_float_arith (P := Tryz.prog) w .mul t .f64 x y1 z1 hm1
 have hk0 : (0 : Int) < (k : Int) := by omega
 clear hm1
 rcases hcs with ⟨k1, k2, hm2⟩ | k1 | ⟨k1, k2⟩
 ·have hrun2 := fun (t : TypeId) (w : World) => run_float_arith (P := Tryz.prog) w .mul t .f64 z1 y2 z hm2
  clear hm2
  rcases hneg with ⟨rfl, hneg⟩ | ⟨rfl, rfl⟩
  all_goals
   go_enter Tryz.func164, Tryz.ntmps164
   go_wp2
   go_ret2
   exact ⟨_, _, rfl, fun _ => rfl, rfl⟩
 all_goals
  rcases hneg with ⟨rfl, hneg⟩ | ⟨rfl, rfl⟩
  all_goals
   go_enter Tryz.func164, Tryz.ntmps164
   go_wp2
   go_ret2
   exact ⟨_, _, rfl, by simp, rfl⟩

set_option maxHeartbeats 1600000 in
set_option maxRecDepth 100000 in
theorem exact_neg_at (n k x0 x y z : Nat) (e : Int) (neg : Bool) (w : World) (hq : (n : Int) / 4503599627370496 = 0) (he : -e = (k : Int)) (hk : k < 23) (he1 : e < 0) (he2 : -22 ≤ e) (k0' : (e == 0) = false) (hmb : w.cell? ⟨10, 0, none⟩ = some (.int .u64 52))
  (g o c : Nat) (hsl : w.cell? ⟨14, 0, none⟩ = some (.slice (some ⟨g, o, none⟩) 23 c)) (hel : w.cell? ⟨g, o + k, none⟩ = some (.float .f64 y))
  (hn : floatOfInt .f64 (n : Int) = x0) (hneg : (neg = true ∧ Op.unary .neg (.float .f64 x0) = pure (.float .f64 x)) ∨ (neg = false ∧ x0 = x))
  (hm : floatBits .quo .f64 x y = some z) :
  Calls Tryz.prog 164 #[.int .u64 (n : Int), .int .i64 e, .bool neg] w (ExactZ z w) := by
 have hrun := fun (t : TypeId) (w : World) => run_float_arith (P := Tryz.prog) w .quo t .f64 x y z hm
 have hge : ¬ 0 < e := by omega
 clear hm
 rcases hneg with ⟨rfl, hneg⟩ | ⟨rfl, rfl⟩
 all_goals
  go_enter Tryz.func164, Tryz.ntmps164
  go_wp2
  go_ret2
  exact ⟨_, _, rfl, fun _ => rfl, rfl⟩

set_option maxHeartbeats 1600000 in
set_option maxRecDepth 100000 in
theorem exact_zero_at (n x0 x : Nat) (neg : Bool) (w : World) (hq : (n : Int) / 4503599627370496 = 0) (hmb : w.cell? ⟨10, 0, none⟩ = some (.int .u64 52))
  (hn : floatOfInt .f64 (n : Int) = x0) (hneg : (neg = true ∧ Op.unary .neg (.float .f64 x0) = pure (.float .f64 x)) ∨ (neg = false ∧ x0 = x)) :
  Calls Tryz.prog 164 #[.int .u64 (n : Int), .int .i64 0, .bool neg] w (ExactZ x w) := by
 rcases hneg with ⟨rfl, hneg⟩ | ⟨rfl, rfl⟩
 all_goals
  go_enter Tryz.func164, Tryz.ntmps164
  go_wp2
  go_ret2
  exact ⟨_, _, rfl, fun _ => rfl, rfl⟩

set_option maxHeartbeats 1600000 in
set_option maxRecDepth 100000 in
theorem exact_none_at (n x0 x z : Nat) (e : Int) (neg : Bool) (w : World) (hq : (n : Int) / 4503599627370496 = 0) (he : e < -22 ∨ 37 < e) (hmb : w.cell? ⟨10, 0, none⟩ = some (.int .u64 52))
  (hn : floatOfInt .f64 (n : Int) = x0) (hneg : (neg = true ∧ Op.unary .neg (.float .f64 x0) = pure (.float .f64 x)) ∨ (neg = false ∧ x0 = x)) :
  Calls Tryz.prog 164 #[.int .u64 (n : Int), .int .i64 e, .bool neg] w (ExactZ z w) := by
 have k0 : (e == 0) = false := beq_eq_false_iff_ne.2 (by omega)
 rcases he with he | he
 ·have d1 : decide (0 < e) = false := decide_eq_false (by omega)
  have d2 : decide (e < 0) = true := decide_eq_true (by omega)
  have d3 : ¬ -22 ≤ e := by omega
  rcases hneg with ⟨rfl, hneg⟩ | ⟨rfl, rfl⟩
  all_goals
   go_enter Tryz.func164, Tryz.ntmps164
   go_wp2
   go_ret2
   exact ⟨_, _, rfl, by simp, rfl⟩
 ·have d1 : decide (0 < e) = true := decide_eq_true (by omega)
  have d2 : decide (e < 0) = false := decide_eq_false (by omega)
  have d3 : ¬ e ≤ 37 := by omega
  rcases hneg with ⟨rfl, hneg⟩ | ⟨rfl, rfl⟩
  all_goals
   go_enter Tryz.func164, Tryz.ntmps164
   go_wp2
   go_ret2
   exact ⟨_, _, rfl, by simp, rfl⟩

/-- The exact road: what it hands back as a float is the nearest one. -/
theorem exact64 (n : Nat) (e : Int) (neg : Bool) (r : Nat) (w : World) (h0 : 0 < n) (h : n < 2 ^ 64) (hr : Rung (n * 10 ^ e.toNat) (10 ^ (-e).toNat) r) (hmb : w.cell? ⟨10, 0, none⟩ = some (.int .u64 52)) (hT : TensAt w) :
  Calls Tryz.prog 164 #[.int .u64 (n : Int), .int .i64 e, .bool neg] w (ExactIs neg r w) := by
 by_cases hl : 2 ^ 52 ≤ n
 ·exact exact_large n e neg r w hl h hmb
 ·obtain ⟨g, o, c, hsl, hel⟩ := hT
  have hq : (n : Int) / 4503599627370496 = 0 := by omega
  have hn : floatOfInt .f64 (n : Int) = fBits false n := nearest_nat n
  have hneg : (neg = true ∧ Op.unary .neg (.float .f64 (fBits false n)) = pure (.float .f64 (fBits neg n))) ∨ (neg = false ∧ fBits false n = fBits neg n) := by
   cases neg
   ·exact Or.inr ⟨rfl, rfl⟩
   ·exact Or.inl ⟨rfl, neg_lit (by omega)⟩
  by_cases hz : e = 0
  ·subst hz
   rw [show (0 : Int).toNat = 0 from rfl, show (-(0 : Int)).toNat = 0 from rfl, Nat.pow_zero, Nat.mul_one] at hr
   have := exact_zero_at n _ _ neg w hq hmb hn hneg
   rw [fBits_rung neg hr] at this
   exact this
  ·by_cases hp : 0 < e
   ·obtain ⟨k, rfl⟩ : ∃ k : Nat, e = k := ⟨e.toNat, by omega⟩
    rw [show ((k : Int)).toNat = k by omega, show (-(k : Int)).toNat = 0 by omega, Nat.pow_zero] at hr
    have k0' : ((k : Int) == 0) = false := beq_eq_false_iff_ne.2 hz
    by_cases h22 : k ≤ 22
    ·have hm := float_mul (fBits_is neg (n := n) (by omega)) (f10_is (k := k) (by omega)) hr
     refine exact_pos_at n k _ _ _ _ neg w hq hp k0' (by omega) hmb g o c hsl (hel k (by omega)) hn hneg hm ?_
     by_cases h15 : n ≤ 10 ^ 15
     ·exact Or.inl (order_small neg (by omega) h15)
     ·have := order_above neg (n := n) (by omega) (by omega)
      cases neg
      ·exact Or.inr (Or.inl this)
      ·exact Or.inr (Or.inr this)
    ·by_cases h37 : k ≤ 37
     ·obtain ⟨j, hj⟩ : ∃ j, k = 22 + j := ⟨k - 22, by omega⟩
      obtain ⟨r1, hr1⟩ := Rung.exists (n * 10 ^ j) (B := 1) (by omega)
      have hm1 := float_mul (fBits_is neg (n := n) (by omega)) (f10_is (k := j) (by omega)) hr1
      refine exact_far_at n k j _ _ _ _ _ (sgv neg + cutRung r) neg w hq k0' (by omega) (by omega) (by omega) (by omega) hmb g o c hsl (hel j (by omega)) (hel 22 (by omega)) hn hneg hm1 ?_
      by_cases h53 : n * 10 ^ j < 2 ^ 53
      ·have hf := fBits_rung neg hr1
       rw [← hf]
       by_cases h15 : n * 10 ^ j ≤ 10 ^ 15
       ·refine Or.inl ⟨(order_small neg h53 h15).1, (order_small neg h53 h15).2, ?_⟩
        refine float_mul (fBits_is neg h53) (f10_is (k := 22) (by omega)) ?_
        rw [Nat.mul_assoc, ← Nat.pow_add, Nat.add_comm j, ← hj]
        exact hr
       ·have := order_above neg h53 (by omega)
        cases neg
        ·exact Or.inr (Or.inl this)
        ·exact Or.inr (Or.inr this)
      ·have hb := cut_big (rung_big (by omega) hr1)
       right
       cases neg
       ·left
        have := order_big false hb.1 hb.2 (fBits_is false (n := 10 ^ 15) (by decide)) (by decide) false (Or.inr rfl)
        rw [c15] at this
        rw [this]; rfl
       ·right
        have t1 := order_big false hb.1 hb.2 (fBits_is false (n := 10 ^ 15) (by decide)) (by decide) true (Or.inl rfl)
        have t2 := order_big true hb.1 hb.2 (fBits_is true (n := 10 ^ 15) (by decide)) (by decide) true (Or.inl rfl)
        rw [c15] at t1
        rw [c15'] at t2
        exact ⟨by rw [t1]; rfl, by rw [t2]; rfl⟩
     ·exact exact_none_at n _ _ _ _ neg w hq (Or.inr (by omega)) hmb hn hneg
   ·obtain ⟨k, hk⟩ : ∃ k : Nat, -e = k := ⟨(-e).toNat, by omega⟩
    by_cases h22 : k ≤ 22
    ·rw [show e.toNat = 0 by omega, show (-e).toNat = k by omega, Nat.pow_zero, Nat.mul_one] at hr
     have hm := float_div (fBits_is neg (n := n) (by omega)) (f10_is (k := k) (by omega)) h0 (Nat.pow_pos (by omega)) hr
     exact exact_neg_at n k _ _ _ _ e neg w hq hk (by omega) (by omega) (by omega) (beq_eq_false_iff_ne.2 hz) hmb g o c hsl (hel k (by omega)) hn hneg hm
    ·exact exact_none_at n _ _ _ _ neg w hq (Or.inl (by omega)) hmb hn hneg

end Go.Proofs.YtgolhmiocjpohaaGreatDoor
