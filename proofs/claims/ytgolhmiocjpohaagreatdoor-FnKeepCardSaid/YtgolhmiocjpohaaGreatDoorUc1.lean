/- Go's ParseFloat (59) reads a whole number of at most fifteen digits as the float that it is. No condition beyond that on the text, and what the walks read of the library's variables. Go's own rule on underscores (184), walked. No condition beyond the text's length. -/
import Derived.Test.YtgolhmiocjpohaaGreatDoorStd6
import Derived.Test.YtgolhmiocjpohaaGreatDoorLight4
import Derived.Test.YtgolhmiocjpohaaGreatDoorTx2
set_option linter.unusedVariables false
set_option linter.unusedSimpArgs false
namespace Go.Proofs.YtgolhmiocjpohaaGreatDoor
open Go.RowKit Go.PlainAid

theorem nearest_nat (n : Nat) : FloatKind.f64.nearest (n : Int) = fBits false n := by
 have h : decide ((n : Int) < 0) = false := decide_eq_false (by omega)
 show Ieee.Format.nearest Ieee.double (decide ((n : Int) < 0)) ((n : Int).natAbs) 0 = _
 rw [h]
 rfl

theorem xor_sign {b : Nat} (h : b < 2 ^ 63) : b ^^^ 2 ^ 63 = 2 ^ 63 + b := by
 have h2 : 2 ^ 63 + b = 2 ^ 63 ||| b := by
  have := Nat.two_pow_add_eq_or_of_lt h 1
  rwa [Nat.mul_one] at this
 rw [h2]
 apply Nat.eq_of_testBit_eq
 intro j
 rw [Nat.testBit_xor, Nat.testBit_or, Nat.testBit_two_pow]
 by_cases hj : 63 = j
 ·subst hj
  rw [Nat.testBit_lt_two_pow h]
  simp
 ·simp [hj]

theorem neg_fBits {n : Nat} (h : n < 2 ^ 53) : Op.negFloat .f64 (fBits false n) = fBits true n := by
 rw [fBits_eq false h, fBits_eq true h]
 show (((if false = true then 2 ^ 63 else 0) + fRung n) ^^^ 2 ^ 63) = _
 rw [if_neg (by simp), if_pos rfl, Nat.zero_add, xor_sign (fRung_lt h)]

set_option maxHeartbeats 400000 in
theorem std_bool2 (b : Bool) (w : World) : Calls Tryz.prog 162 #[.bool b] w fun e w' => e = .returned (.int .u64 (if b then 1 else 0)) ∧ w' = w := by
 cases b with
 | true =>
  go_enter Tryz.func162, Tryz.ntmps162
  go_wp2
  go_ret
  exact ⟨rfl, rfl⟩
 | false =>
  go_enter Tryz.func162, Tryz.ntmps162
  go_wp2
  go_ret
  exact ⟨rfl, rfl⟩

end Go.Proofs.YtgolhmiocjpohaaGreatDoor

namespace Go.Proofs.YtgolhmiocjpohaaGreatDoor
open Go.RowKit Go.PlainAid

theorem std_low (c : Int) (w : World) : Calls Tryz.prog 183 #[.int .u8 c] w fun e w' => e = .returned (.int .u8 (lowB c)) ∧ w = w' := by
 unfold lowB
 go_enter Tryz.func183, Tryz.ntmps183
 go_wp2
 go_ret
 exact ⟨rfl, rfl⟩

/-- The last octet as Go's own machine tells it. -/
def SawIs (v : Int) (l : Nat) : Prop := (l = 1 ∧ v = 48) ∨ (l = 2 ∧ v = 95) ∨ (l = 0 ∧ (v = 94 ∨ v = 33))

/-- How the machine stands. -/
def SawAt (hex : Bool) (t : ByteArray) (R : Bool) (v3 v4 : Value) : Prop :=
 ∃ (j l : Nat) (v : Int), v3 = .int .i32 v ∧ v4 = .int .i64 (j : Nat) ∧ SawIs v l ∧ j ≤ t.size ∧ usFrom hex t (t.size - j) j l = R

set_option maxHeartbeats 6400000 in
set_option maxRecDepth 100000 in
theorem std_usok (s : ByteArray) (w : World) (hs : s.size ≤ 100000) : Calls Tryz.prog 184 #[.string s] w fun e w' => e = .returned (.bool (usOK s)) ∧ w = w' := by
 have hb := get_bt s
 obtain ⟨t, ht⟩ : ∃ t, t = bodyT s := ⟨_, rfl⟩
 obtain ⟨R, hR⟩ : ∃ R, R = usT t := ⟨_, rfl⟩
 have hts : t.size ≤ 100000 := by
  rw [ht]; unfold bodyT; split
  ·simp; omega
  ·exact hs
 have hbt := get_bt t
 have HUS : Hid (usOK s = R) := by show _ = _; rw [hR, ht]; rfl
 have HT := Lib.hid ht
 rw [HUS.out]
 obtain ⟨q, hq⟩ : ∃ q, q = decide (signLen s = 1) := ⟨_, rfl⟩
 have HQ := Lib.hid hq
 clear hq
 go_enter Tryz.func184, Tryz.ntmps184
 go_upto_region 3 with fail
 go_cut [18] from 6 to 18 (fun s18 wx => s18 = .bool q ∧ wx = w)
 case first =>
  clear ht hR hbt hts
  by_cases c0 : 0 < s.size
  ·have k0 : decide ((1 : Int) ≤ (s.size : Int)) = true := decide_eq_true (by omega)
   by_cases c1 : bt s 0 = 45
   ·have k1 : (bt s 0 == 45) = true := beq_iff_eq.2 c1
    have HS : Hid (decide (signLen s = 1) = true) := decide_eq_true (by unfold signLen; rw [if_pos ⟨c0, Or.inr c1⟩])
    clear c1
    go_wp2_with fail
    go_meet
    case rel => exact ⟨by rw [HQ.out, HS.out], rfl⟩
   ·have k1 : (bt s 0 == 45) = false := beq_eq_false_iff_ne.2 c1
    by_cases c2 : bt s 0 = 43
    ·have k2 : (bt s 0 == 43) = true := beq_iff_eq.2 c2
     have HS : Hid (decide (signLen s = 1) = true) := decide_eq_true (by unfold signLen; rw [if_pos ⟨c0, Or.inl c2⟩])
     clear c1 c2
     go_wp2_with fail
     go_meet
     case rel => exact ⟨by rw [HQ.out, HS.out], rfl⟩
    ·have k2 : (bt s 0 == 43) = false := beq_eq_false_iff_ne.2 c2
     have HS : Hid (decide (signLen s = 1) = false) := decide_eq_false (by unfold signLen; rw [if_neg (by omega)]; omega)
     clear c1 c2
     go_wp2_with fail
     go_meet
     case rel => exact ⟨by rw [HQ.out, HS.out], rfl⟩
  ·have k0 : decide ((1 : Int) ≤ (s.size : Int)) = false := decide_eq_false (by omega)
   have HS : Hid (decide (signLen s = 1) = false) := decide_eq_false (by unfold signLen; rw [if_neg (by omega)]; omega)
   go_wp2_with fail
   go_meet
   case rel => exact ⟨by rw [HQ.out, HS.out], rfl⟩
 case rest =>
  obtain ⟨rfl, rfl⟩ := hcut
  go_upto_if 18 with fail
  go_cut [0] from 18 to 20 (fun s0 wx => s0 = .string t ∧ wx = wc)
  case first =>
   clear ht hR hbt
   by_cases c : signLen s = 1
   ·have k : q = true := by rw [HQ.out]; exact decide_eq_true c
    subst k
    have HE : Hid (t = s.extract 1 s.size) := by show _ = _; rw [HT.out]; unfold bodyT; rw [if_pos c]
    have h1 : (1 : Int) ≤ (s.size : Int) := by unfold signLen at c; split at c <;> omega
    clear c
    go_wp2_with fail
    go_meet
    case rel => exact ⟨by rw [HE.out], rfl⟩
   ·have k : q = false := by rw [HQ.out]; exact decide_eq_false c
    subst k
    have HE : Hid (t = s) := by show _ = _; rw [HT.out]; unfold bodyT; rw [if_neg c]
    clear c
    go_wp2_with fail
    go_meet
    case rel => exact ⟨by rw [HE.out], rfl⟩
  case rest =>
   obtain ⟨rfl, rfl⟩ := hcut
   clear hb ht
   have HR := Lib.hid hR
   clear hR
   go_upto_region 6 with fail
   go_cut [46] from 21 to 46 (fun s46 wx => s46 = .bool (preAt t) ∧ wx = wc)
   case first =>
    by_cases c0 : 2 ≤ t.size
    ·have k0 : decide ((2 : Int) ≤ (t.size : Int)) = true := decide_eq_true (by omega)
     by_cases c1 : bt t 0 = 48
     ·have k1 : (bt t 0 == 48) = true := beq_iff_eq.2 c1
      by_cases c2 : lowB (bt t 1) = 98
      ·have k2 : (lowB (bt t 1) == 98) = true := beq_iff_eq.2 c2
       have HS : Hid (preAt t = true) := decide_eq_true ⟨c0, c1, Or.inl c2⟩
       clear c1 c2
       go_wp2_with (go_at_call 183; (with_reducible refine (std_low _ _).mono ?_); rintro e w1 ⟨rfl, rfl⟩)
       go_meet
       case rel => exact ⟨by rw [HS.out], rfl⟩
      ·have k2 : (lowB (bt t 1) == 98) = false := beq_eq_false_iff_ne.2 c2
       by_cases c3 : lowB (bt t 1) = 111
       ·have k3 : (lowB (bt t 1) == 111) = true := beq_iff_eq.2 c3
        have HS : Hid (preAt t = true) := decide_eq_true ⟨c0, c1, Or.inr (Or.inl c3)⟩
        clear c1 c2 c3
        go_wp2_with (go_at_call 183; (with_reducible refine (std_low _ _).mono ?_); rintro e w1 ⟨rfl, rfl⟩)
        go_meet
        case rel => exact ⟨by rw [HS.out], rfl⟩
       ·have k3 : (lowB (bt t 1) == 111) = false := beq_eq_false_iff_ne.2 c3
        by_cases c4 : lowB (bt t 1) = 120
        ·have k4 : (lowB (bt t 1) == 120) = true := beq_iff_eq.2 c4
         have HS : Hid (preAt t = true) := decide_eq_true ⟨c0, c1, Or.inr (Or.inr c4)⟩
         clear c1 c2 c3 c4
         go_wp2_with (go_at_call 183; (with_reducible refine (std_low _ _).mono ?_); rintro e w1 ⟨rfl, rfl⟩)
         go_meet
         case rel => exact ⟨by rw [HS.out], rfl⟩
        ·have k4 : (lowB (bt t 1) == 120) = false := beq_eq_false_iff_ne.2 c4
         have HS : Hid (preAt t = false) := decide_eq_false (fun h => by rcases h.2.2 with h | h | h <;> contradiction)
         clear c1 c2 c3 c4
         go_wp2_with (go_at_call 183; (with_reducible refine (std_low _ _).mono ?_); rintro e w1 ⟨rfl, rfl⟩)
         go_meet
         case rel => exact ⟨by rw [HS.out], rfl⟩
     ·have k1 : (bt t 0 == 48) = false := beq_eq_false_iff_ne.2 c1
      have HS : Hid (preAt t = false) := decide_eq_false (fun h => c1 h.2.1)
      clear c1
      go_wp2_with fail
      go_meet
      case rel => exact ⟨by rw [HS.out], rfl⟩
    ·have k0 : decide ((2 : Int) ≤ (t.size : Int)) = false := decide_eq_false (by omega)
     have HS : Hid (preAt t = false) := decide_eq_false (fun h => c0 h.1)
     go_wp2_with fail
     go_meet
     case rel => exact ⟨by rw [HS.out], rfl⟩
   case rest =>
    obtain ⟨rfl, rfl⟩ := hcut
    obtain ⟨hex, hhex⟩ : ∃ hex, hex = (preAt t && decide (lowB (bt t 1) = 120)) := ⟨_, rfl⟩
    go_upto_if 46 with fail
    go_cut [3, 4, 5] from 46 to 50 (fun s3 s4 s5 wx => SawAt hex t R s3 s4 ∧ s5 = .bool hex ∧ wx = wc)
    case first =>
     cases hp : preAt t with
     | false =>
      have HS : Hid (hex = false ∧ usFrom hex t (t.size - 0) 0 0 = R) := by
       have e : hex = false := by rw [hhex, hp]; rfl
       refine ⟨e, ?_⟩
       rw [e, HR.out]; unfold usT; rw [hp]; rfl
      clear hhex hp
      go_wp2_with fail
      go_meet
      case rel => exact ⟨⟨0, 0, 94, rfl, rfl, Or.inr (Or.inr ⟨rfl, Or.inl rfl⟩), by omega, HS.out.2⟩, by rw [HS.out.1], rfl⟩
     | true =>
      have h2 : 2 ≤ t.size := by unfold preAt at hp; exact (of_decide_eq_true hp).1
      have HS : Hid (hex = (lowB (bt t 1) == 120) ∧ usFrom hex t (t.size - 2) 2 1 = R) := by
       have e : hex = decide (lowB (bt t 1) = 120) := by rw [hhex, hp]; rfl
       refine ⟨?_, ?_⟩
       ·rw [e]; by_cases h : lowB (bt t 1) = 120 <;> simp [h]
       ·rw [e, HR.out]; unfold usT; rw [hp]; rfl
      clear hhex hp
      go_wp2_with (go_at_call 183; (with_reducible refine (std_low _ _).mono ?_); rintro e w1 ⟨rfl, rfl⟩)
      go_meet
      case rel => exact ⟨⟨2, 1, 48, rfl, rfl, Or.inl ⟨rfl, rfl⟩, h2, HS.out.2⟩, by rw [HS.out.1], rfl⟩
    case rest =>
     obtain ⟨hsaw, rfl, rfl⟩ := hcut
     clear hhex
     obtain ⟨j0, l0, v0, rfl, rfl, hv0, hj0, hu0⟩ := hsaw
     have HST : Hid (SawAt hex t R (.int .i32 v0) (.int .i64 (j0 : Nat))) := ⟨j0, l0, v0, rfl, rfl, hv0, hj0, hu0⟩
     clear hv0 hj0 hu0
     go_wp2_with fail
     go_loop [3, 4] (fun v3 v4 => SawAt hex t R v3 v4) (fun _ v => t.size - (intOf v).toNat)
     case atStart => exact HST.out
     case round =>
      obtain ⟨j, l, v, rfl, rfl, hsaw, hj, hu⟩ := hrel
      have HSW := Lib.hid hsaw
      have HU := Lib.hid hu
      clear hsaw hu
      by_cases hlt : j < t.size
      ·by_cases c1 : 48 ≤ bt t j ∧ bt t j ≤ 57
       ·have k1 : decide (48 ≤ bt t j) = true := decide_eq_true c1.1
        have k2 : decide (bt t j ≤ 57) = true := decide_eq_true c1.2
        have HN : Hid (usFrom hex t (t.size - (j + 1)) (j + 1) 1 = R) := by show _ = _; rw [← usFrom_digit (l := l) hlt (Or.inl c1)]; exact HU.out
        clear c1
        go_wp2_with fail
        go_round
        case rel => exact ⟨j + 1, 1, 48, rfl, by go_num, Or.inl ⟨rfl, rfl⟩, by omega, HN.out⟩
        case measure => simp [intOf]; omega
       ·have hcs : (decide (48 ≤ bt t j) = false ∧ True) ∨ (decide (48 ≤ bt t j) = true ∧ decide (bt t j ≤ 57) = false) := by
         by_cases e : 48 ≤ bt t j
         ·exact Or.inr ⟨decide_eq_true e, decide_eq_false (fun e2 => c1 ⟨e, e2⟩)⟩
         ·exact Or.inl ⟨decide_eq_false e, trivial⟩
        by_cases c2 : hex = true ∧ 97 ≤ lowB (bt t j) ∧ lowB (bt t j) ≤ 102
        ·have k10 : decide (97 ≤ lowB (bt t j)) = true := decide_eq_true c2.2.1
         have k11 : decide (lowB (bt t j) ≤ 102) = true := decide_eq_true c2.2.2
         have HN : Hid (usFrom hex t (t.size - (j + 1)) (j + 1) 1 = R) := by show _ = _; rw [← usFrom_digit (l := l) hlt (Or.inr c2)]; exact HU.out
         have hx := c2.1
         clear c1 c2
         subst hx
         rcases hcs with ⟨k1, k2⟩ | ⟨k1, k2⟩
         all_goals
          go_wp2_with (go_at_call 183; (with_reducible refine (std_low _ _).mono ?_); rintro e w1 ⟨rfl, rfl⟩)
          go_round
          case rel => exact ⟨j + 1, 1, 48, rfl, by go_num, Or.inl ⟨rfl, rfl⟩, by omega, HN.out⟩
          case measure => simp [intOf]; omega
        ·have hno : ¬ ((48 ≤ bt t j ∧ bt t j ≤ 57) ∨ (hex = true ∧ 97 ≤ lowB (bt t j) ∧ lowB (bt t j) ≤ 102)) := fun h => by
          rcases h with h | h
          ·exact c1 h
          ·exact c2 h
         have hcl : hex = false ∨ (hex = true ∧ decide (97 ≤ lowB (bt t j)) = false ∧ True) ∨ (hex = true ∧ decide (97 ≤ lowB (bt t j)) = true ∧ decide (lowB (bt t j) ≤ 102) = false) := by
          cases hex
          ·exact Or.inl rfl
          ·right
           by_cases e : 97 ≤ lowB (bt t j)
           ·exact Or.inr ⟨rfl, decide_eq_true e, decide_eq_false (fun e2 => c2 ⟨rfl, e, e2⟩)⟩
           ·exact Or.inl ⟨rfl, decide_eq_false e, trivial⟩
         by_cases c3 : bt t j = 95
         ·have k3 : (bt t j == 95) = true := beq_iff_eq.2 c3
          have hu2 := usFrom_under (l := l) hlt hno c3
          rw [HU.out] at hu2
          by_cases hl : l = 1
          ·rw [if_pos hl] at hu2
           have HN := Lib.hid hu2.symm
           have k4 : (v != 48) = false := by
            rcases HSW.out with h | h | h
            ·simp [h.2]
            ·omega
            ·omega
           clear c1 c2 c3 hno hu2 hl
           rcases hcl with rfl | ⟨rfl, k5, k6⟩ | ⟨rfl, k5, k6⟩ <;> rcases hcs with ⟨k1, k2⟩ | ⟨k1, k2⟩
           all_goals
            go_wp2_with (go_at_call 183; (with_reducible refine (std_low _ _).mono ?_); rintro e w1 ⟨rfl, rfl⟩)
            go_round
            case rel => exact ⟨j + 1, 2, 95, rfl, by go_num, Or.inr (Or.inl ⟨rfl, rfl⟩), by omega, HN.out⟩
            case measure => simp [intOf]; omega
          ·rw [if_neg hl] at hu2
           have HN := Lib.hid hu2
           have k4 : (v != 48) = true := by
            rcases HSW.out with h | h | h
            ·omega
            ·simp [h.2]
            ·rcases h.2 with h | h <;> simp [h]
           clear c1 c2 c3 hno hu2 hl
           rcases hcl with rfl | ⟨rfl, k5, k6⟩ | ⟨rfl, k5, k6⟩ <;> rcases hcs with ⟨k1, k2⟩ | ⟨k1, k2⟩
           all_goals
            go_wp2_with (go_at_call 183; (with_reducible refine (std_low _ _).mono ?_); rintro e w1 ⟨rfl, rfl⟩)
            go_ret
            exact ⟨by rw [HN.out]; rfl, rfl⟩
         ·have k3 : (bt t j == 95) = false := beq_eq_false_iff_ne.2 c3
          have hu2 := usFrom_other (l := l) hlt hno c3
          rw [HU.out] at hu2
          by_cases hl : l = 2
          ·rw [if_pos hl] at hu2
           have HN := Lib.hid hu2
           have k4 : (v == 95) = true := by
            rcases HSW.out with h | h | h
            ·omega
            ·simp [h.2]
            ·omega
           clear c1 c2 c3 hno hu2 hl
           rcases hcl with rfl | ⟨rfl, k5, k6⟩ | ⟨rfl, k5, k6⟩ <;> rcases hcs with ⟨k1, k2⟩ | ⟨k1, k2⟩
           all_goals
            go_wp2_with (go_at_call 183; (with_reducible refine (std_low _ _).mono ?_); rintro e w1 ⟨rfl, rfl⟩)
            go_ret
            exact ⟨by rw [HN.out]; rfl, rfl⟩
          ·rw [if_neg hl] at hu2
           have HN := Lib.hid hu2.symm
           have k4 : (v == 95) = false := by
            rcases HSW.out with h | h | h
            ·simp [h.2]
            ·omega
            ·rcases h.2 with h | h <;> simp [h]
           clear c1 c2 c3 hno hu2 hl
           rcases hcl with rfl | ⟨rfl, k5, k6⟩ | ⟨rfl, k5, k6⟩ <;> rcases hcs with ⟨k1, k2⟩ | ⟨k1, k2⟩
           all_goals
            go_wp2_with (go_at_call 183; (with_reducible refine (std_low _ _).mono ?_); rintro e w1 ⟨rfl, rfl⟩)
            go_round
            case rel => exact ⟨j + 1, 0, 33, rfl, by go_num, Or.inr (Or.inr ⟨rfl, Or.inr rfl⟩), by omega, HN.out⟩
            case measure => simp [intOf]; omega
      ·have hj2 : j = t.size := by omega
       subst hj2
       have HN : Hid ((v != 95) = R) := by
        have := HU.out
        rw [Nat.sub_self, usFrom_end] at this
        rw [← this]
        rcases HSW.out with ⟨h1, h2⟩ | ⟨h1, h2⟩ | ⟨h1, h2⟩
        ·rw [h1, h2]; rfl
        ·rw [h1, h2]; rfl
        ·rw [h1]; rcases h2 with h2 | h2 <;> rw [h2] <;> rfl
       clear HU
       go_wp2_with fail
       go_ret
       exact ⟨by rw [← HN.out]; rfl, rfl⟩

end Go.Proofs.YtgolhmiocjpohaaGreatDoor
