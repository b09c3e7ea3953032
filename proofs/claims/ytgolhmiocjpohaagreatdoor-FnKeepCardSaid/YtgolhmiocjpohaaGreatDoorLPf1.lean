/- The light ParseFloat (117) on any text of at most 400 octets: the float that the text tells, or an error. No condition beyond that. -/
import Derived.Deep.CutBlock
import Derived.StillTailTactics
import Derived.Test.YtgolhmiocjpohaaGreatDoorLPf0
set_option linter.unusedVariables false
set_option linter.unusedSimpArgs false
namespace Go.Proofs.YtgolhmiocjpohaaGreatDoor
open Go.RowKit Go.PlainAid

theorem fold_yes {s word : ByteArray} {w : World} (hs : s.size ≤ 2147483647) (h : FoldP s word) : Calls Tryz.prog 140 #[.string s, .string word] w fun e w' => e = .returned (.bool true) ∧ w' = w :=
 (light_fold s word w hs).mono fun e w' ⟨b, he, hb, hw⟩ => ⟨by rw [he, hb.2 h], hw.symm⟩

theorem value_read {s : ByteArray} {R : Read} (h : readOf s = some R) (hst : R.stop = s.size) (hu : R.us = true → usOK s = true) : valueOf s = if overRung (rungOf R) then none else some (sgv (negB s) + cutRung (rungOf R)) := by
 unfold valueOf
 rw [h]
 simp only
 cases ho : overRung (rungOf R) with
 | true => rw [if_neg (fun h => by simp at h), if_pos rfl]
 | false => rw [if_pos ⟨hst, hu, rfl⟩, if_neg (by simp)]

theorem value_und {s : ByteArray} {R : Read} (h : readOf s = some R) (hst : R.stop = s.size) {i : Nat} (hi : i < s.size) (hc : bt s i = 95) (hk : usOK s = false) : valueOf s = none := by
 have hu := us_seen h hst hi hc
 unfold valueOf
 rw [h]
 simp only
 exact if_neg fun h => by rw [h.2.1 hu] at hk; simp at hk

theorem value_part {s : ByteArray} (h : ∀ R, readOf s = some R → R.stop ≠ s.size) : valueOf s = none := by
 unfold valueOf
 cases hr : readOf s with
 | none => rfl
 | some R =>
  simp only
  exact if_neg fun h2 => h R hr h2.1

set_option maxHeartbeats 400000 in
set_option maxRecDepth 100000 in
theorem light_nan (w : World) : Calls Tryz.prog 142 #[] w fun e w' => e = .returned (.float .f64 9221120237041090561) ∧ w' = w := by
 go_enter Tryz.func142, Tryz.ntmps142
 go_wp2_with fail
 rw [call168, Oper.upon_value]
 go_wp2_with fail
 go_ret
 exact ⟨rfl, rfl⟩

theorem num_none {o : Option Nat} {w w' : World} {x : Nat} {t : TypeId} {v : Value} (h : o = none) (hb : Below w.heap.size w w') : NumIs o w (.returned (.tuple #[.float .f64 x, .iface t v])) w' := by
 rw [h]
 exact ⟨⟨x, t, v, rfl⟩, hb⟩
theorem num_some {o : Option Nat} {w w' : World} {x : Nat} (h : o = some x) (hb : Below w.heap.size w w') : NumIs o w (.returned (.tuple #[.float .f64 x, .nilIface])) w' := by
 rw [h]
 exact ⟨rfl, hb⟩

set_option maxHeartbeats 1600000 in
set_option maxRecDepth 100000 in
theorem light_is_nan (s : ByteArray) (w : World) (hs : s.size ≤ 400) (h : FoldP s wNan) : Calls Tryz.prog 117 #[.string s, .int .i64 64] w (NumIs (fltOf s) w) := by
 have K1 := Lib.hid (fun w => fold_yes (w := w) (by omega) h)
 have HF := Lib.hid (fltOf_nan h)
 unfold wNan at K1
 clear h
 go_enter Tryz.func117, Tryz.ntmps117
 go_wp2_with (first
  | (go_at_call 140; (with_reducible refine (K1.out _).mono ?_); rintro e w1 ⟨rfl, rfl⟩)
  | (go_at_call 142; (with_reducible refine (light_nan _).mono ?_); rintro e w1 ⟨rfl, rfl⟩))
 go_ret2
 exact num_some HF.out (Below.refl _ _)

set_option maxHeartbeats 3200000 in
set_option maxRecDepth 100000 in
theorem light_is_inf (s : ByteArray) (w : World) (hs : s.size ≤ 400) (hnan : ¬ FoldP s wNan) (hinf : FoldP (bodyT s) wInf) : Calls Tryz.prog 117 #[.string s, .int .i64 64] w (NumIs (fltOf s) w) := by
 have hb := get_bt s
 have K1 := Lib.hid (fun w => fold_no (w := w) (by omega : s.size ≤ 2147483647) hnan)
 unfold wNan at K1
 obtain ⟨t, ht⟩ : ∃ t, t = bodyT s := ⟨_, rfl⟩
 have hts : t.size ≤ 400 := by have := bodyT_size s; rw [ht]; omega
 have HT := Lib.hid ht
 have hsc := sign_cases s
 have K2 := Lib.hid (fun w => fold_yes (w := w) (by omega : t.size ≤ 2147483647) (by rw [ht]; exact hinf))
 unfold wInf at K2
 have HF := Lib.hid (fltOf_inf hnan (Or.inl hinf))
 have eqp : bits .or .u64 0 9218868437227405312 = 9218868437227405312 := or_zero_u64 9218868437227405312 (by omega)
 have eqm : bits .or .u64 9223372036854775808 9218868437227405312 = 18442240474082181120 := or_sign_u64 9218868437227405312 (by omega)
 have ekk : IntKind.u64.wrap (IntKind.u64.wrap (IntKind.u64.wrap 2048 - 1) * 4503599627370496) = 9218868437227405312 := by decide
 have KP : Hid (∀ w, Calls Tryz.prog 144 #[.agg #[.int .i64 52, .int .i64 11, .int .i64 (-1023)], .int .u64 9218868437227405312] w fun e w' => e = .returned (.float .f64 9218868437227405312) ∧ Below w.heap.size w w') := fun w => light_float 9218868437227405312 w
 have KM : Hid (∀ w, Calls Tryz.prog 144 #[.agg #[.int .i64 52, .int .i64 11, .int .i64 (-1023)], .int .u64 18442240474082181120] w fun e w' => e = .returned (.float .f64 18442240474082181120) ∧ Below w.heap.size w w') := fun w => light_float 18442240474082181120 w

 clear ht
 go_enter Tryz.func117, Tryz.ntmps117
 go_upto_region 6 with (go_at_call 140; (with_reducible refine (K1.out _).mono ?_); rintro e w1 ⟨rfl, rfl⟩)
 go_cut [33] from 22 to 33 (fun s33 wx => s33 = .bool (decide (signLen s = 1)) ∧ wx = w1)
 case first =>
  rcases hsc with ⟨h1, h2, h3⟩ | ⟨h1, h2, h3, h4⟩ | ⟨h1, h2, h3, h4⟩
  ·have HV : Hid (decide (signLen s = 1) = false) := decide_eq_false (by omega)
   by_cases c0 : 0 < s.size
   ·have k0 : (s.toList == []) = false := by
     cases e : s.toList == []
     ·rfl
     ·have := (empty_toList s).1 e; omega
    have k1 : (bt s 0 == 43) = false := beq_eq_false_iff_ne.2 (h3 c0).1
    have k2 : (bt s 0 == 45) = false := beq_eq_false_iff_ne.2 (h3 c0).2
    clear h1 h2 h3
    go_wp2_with fail
    go_meet
    case rel => exact ⟨by rw [HV.out], rfl⟩
   ·have k0 : (s.toList == []) = true := (empty_toList s).2 (by omega)
    clear h1 h2 h3
    go_wp2_with fail
    go_meet
    case rel => exact ⟨by rw [HV.out], rfl⟩
  ·have HV : Hid (decide (signLen s = 1) = true) := decide_eq_true h1
   have k0 : (s.toList == []) = false := by
    cases e : s.toList == []
    ·rfl
    ·have := (empty_toList s).1 e; omega
   have k1 : (bt s 0 == 43) = true := beq_iff_eq.2 h3
   clear h1 h3 h4
   go_wp2_with fail
   go_meet
   case rel => exact ⟨by rw [HV.out], rfl⟩
  ·have HV : Hid (decide (signLen s = 1) = true) := decide_eq_true h1
   have k0 : (s.toList == []) = false := by
    cases e : s.toList == []
    ·rfl
    ·have := (empty_toList s).1 e; omega
   have k1 : (bt s 0 == 43) = false := beq_eq_false_iff_ne.2 (by omega)
   have k2 : (bt s 0 == 45) = true := beq_iff_eq.2 h3
   clear h1 h3 h4
   go_wp2_with fail
   go_meet
   case rel => exact ⟨by rw [HV.out], rfl⟩
 case rest =>
  obtain ⟨rfl, rfl⟩ := hcut
  go_upto_if 33 with fail
  go_cut [6, 7] from 33 to 38 (fun s6 s7 wx => s6 = .string t ∧ s7 = .bool (negB s) ∧ ∃ n, wx = wc.drewN n)
  case first =>
   rcases hsc with ⟨h1, h2, h3⟩ | ⟨h1, h2, h3, h4⟩ | ⟨h1, h2, h3, h4⟩
   ·have HV : Hid (t = s ∧ negB s = false) := ⟨by rw [HT.out]; exact bodyT_self h1, h2⟩
    have k : decide (signLen s = 1) = false := decide_eq_false (by omega)
    rw [k]
    clear h1 h2 h3
    go_wp2_with fail
    go_meet
    case rel => exact ⟨by rw [HV.out.1], by rw [HV.out.2], 0, rfl⟩
   ·have HV : Hid (s.extract 1 s.size = t ∧ negB s = false) := ⟨by rw [HT.out]; unfold bodyT; rw [if_pos h1], h4⟩
    have k : decide (signLen s = 1) = true := decide_eq_true h1
    have htt := HV.out.1
    have h1s : (1 : Int) ≤ (s.size : Int) := by omega
    have k2 : (bt s 0 == 45) = false := beq_eq_false_iff_ne.2 (by omega)
    rw [k]
    clear h1 h3 h4
    go_wp2_with fail
    go_quiet (fail)
    go_wp2_with fail
    go_meet
    case rel => exact ⟨rfl, by rw [HV.out.2], nq, rfl⟩
   ·have HV : Hid (s.extract 1 s.size = t ∧ negB s = true) := ⟨by rw [HT.out]; unfold bodyT; rw [if_pos h1], h4⟩
    have k : decide (signLen s = 1) = true := decide_eq_true h1
    have htt := HV.out.1
    have h1s : (1 : Int) ≤ (s.size : Int) := by omega
    have k2 : (bt s 0 == 45) = true := beq_iff_eq.2 h3
    rw [k]
    clear h1 h3 h4
    go_wp2_with fail
    go_quiet (fail)
    go_wp2_with fail
    go_meet
    case rel => exact ⟨rfl, by rw [HV.out.2], nq, rfl⟩
  case rest =>
   obtain ⟨rfl, rfl, nw, rfl⟩ := hcut
   clear hb hsc
   have HW : Hid (Below wc.heap.size wc (wc.drewN nw)) := below_drewN (Below.refl _ _) nw
   generalize wc.drewN nw = wd at *
   cases hneg : negB s
   all_goals
    rw [hneg] at HF
    go_upto_region 13 with (first
      | (go_at_call 143; (with_reducible refine (light_form _).mono ?_); rintro e w2 ⟨rfl, hb2⟩; have HB2 := Lib.hid hb2; clear hb2; have HF2 := Lib.hid (formAt_alloc w2))
      | (go_at_call 140; (with_reducible refine (K2.out _).mono ?_); rintro e w8 ⟨rfl, rfl⟩))
    go_region_with (first | (go_at_call 144; (with_reducible refine (KP.out _).mono ?_); rintro e w6 ⟨rfl, hb6⟩; have HB6 := Lib.hid hb6; clear hb6) | (go_at_call 144; (with_reducible refine (KM.out _).mono ?_); rintro e w6 ⟨rfl, hb6⟩; have HB6 := Lib.hid hb6; clear hb6))
    all_goals
     go_wp2_with fail
     go_ret2
     have q1 : Below wc.heap.size wc w2 := HW.out.trans (HB2.out.mono HW.out.size)
     have q2 := (q1.alloc q1.size (.cells #[.int .i64 52, .int .i64 11, .int .i64 (-1023)] 227)).drew
     exact num_some HF.out (q2.trans (HB6.out.mono q2.size))

set_option maxHeartbeats 3200000 in
set_option maxRecDepth 100000 in
theorem light_is_infinity (s : ByteArray) (w : World) (hs : s.size ≤ 400) (hnan : ¬ FoldP s wNan) (hinf : ¬ FoldP (bodyT s) wInf) (hinf2 : FoldP (bodyT s) wInfinity) : Calls Tryz.prog 117 #[.string s, .int .i64 64] w (NumIs (fltOf s) w) := by
 have hb := get_bt s
 have K1 := Lib.hid (fun w => fold_no (w := w) (by omega : s.size ≤ 2147483647) hnan)
 unfold wNan at K1
 obtain ⟨t, ht⟩ : ∃ t, t = bodyT s := ⟨_, rfl⟩
 have hts : t.size ≤ 400 := by have := bodyT_size s; rw [ht]; omega
 have HT := Lib.hid ht
 have hsc := sign_cases s
 have K2 := Lib.hid (fun w => fold_no (w := w) (by omega : t.size ≤ 2147483647) (by rw [ht]; exact hinf))
 unfold wInf at K2
 have K3 := Lib.hid (fun w => fold_yes (w := w) (by omega : t.size ≤ 2147483647) (by rw [ht]; exact hinf2))
 unfold wInfinity at K3
 have HF := Lib.hid (fltOf_inf hnan (Or.inr hinf2))
 have eqp : bits .or .u64 0 9218868437227405312 = 9218868437227405312 := or_zero_u64 9218868437227405312 (by omega)
 have eqm : bits .or .u64 9223372036854775808 9218868437227405312 = 18442240474082181120 := or_sign_u64 9218868437227405312 (by omega)
 have ekk : IntKind.u64.wrap (IntKind.u64.wrap (IntKind.u64.wrap 2048 - 1) * 4503599627370496) = 9218868437227405312 := by decide
 have KP : Hid (∀ w, Calls Tryz.prog 144 #[.agg #[.int .i64 52, .int .i64 11, .int .i64 (-1023)], .int .u64 9218868437227405312] w fun e w' => e = .returned (.float .f64 9218868437227405312) ∧ Below w.heap.size w w') := fun w => light_float 9218868437227405312 w
 have KM : Hid (∀ w, Calls Tryz.prog 144 #[.agg #[.int .i64 52, .int .i64 11, .int .i64 (-1023)], .int .u64 18442240474082181120] w fun e w' => e = .returned (.float .f64 18442240474082181120) ∧ Below w.heap.size w w') := fun w => light_float 18442240474082181120 w

 clear ht
 go_enter Tryz.func117, Tryz.ntmps117
 go_upto_region 6 with (go_at_call 140; (with_reducible refine (K1.out _).mono ?_); rintro e w1 ⟨rfl, rfl⟩)
 go_cut [33] from 22 to 33 (fun s33 wx => s33 = .bool (decide (signLen s = 1)) ∧ wx = w1)
 case first =>
  rcases hsc with ⟨h1, h2, h3⟩ | ⟨h1, h2, h3, h4⟩ | ⟨h1, h2, h3, h4⟩
  ·have HV : Hid (decide (signLen s = 1) = false) := decide_eq_false (by omega)
   by_cases c0 : 0 < s.size
   ·have k0 : (s.toList == []) = false := by
     cases e : s.toList == []
     ·rfl
     ·have := (empty_toList s).1 e; omega
    have k1 : (bt s 0 == 43) = false := beq_eq_false_iff_ne.2 (h3 c0).1
    have k2 : (bt s 0 == 45) = false := beq_eq_false_iff_ne.2 (h3 c0).2
    clear h1 h2 h3
    go_wp2_with fail
    go_meet
    case rel => exact ⟨by rw [HV.out], rfl⟩
   ·have k0 : (s.toList == []) = true := (empty_toList s).2 (by omega)
    clear h1 h2 h3
    go_wp2_with fail
    go_meet
    case rel => exact ⟨by rw [HV.out], rfl⟩
  ·have HV : Hid (decide (signLen s = 1) = true) := decide_eq_true h1
   have k0 : (s.toList == []) = false := by
    cases e : s.toList == []
    ·rfl
    ·have := (empty_toList s).1 e; omega
   have k1 : (bt s 0 == 43) = true := beq_iff_eq.2 h3
   clear h1 h3 h4
   go_wp2_with fail
   go_meet
   case rel => exact ⟨by rw [HV.out], rfl⟩
  ·have HV : Hid (decide (signLen s = 1) = true) := decide_eq_true h1
   have k0 : (s.toList == []) = false := by
    cases e : s.toList == []
    ·rfl
    ·have := (empty_toList s).1 e; omega
   have k1 : (bt s 0 == 43) = false := beq_eq_false_iff_ne.2 (by omega)
   have k2 : (bt s 0 == 45) = true := beq_iff_eq.2 h3
   clear h1 h3 h4
   go_wp2_with fail
   go_meet
   case rel => exact ⟨by rw [HV.out], rfl⟩
 case rest =>
  obtain ⟨rfl, rfl⟩ := hcut
  go_upto_if 33 with fail
  go_cut [6, 7] from 33 to 38 (fun s6 s7 wx => s6 = .string t ∧ s7 = .bool (negB s) ∧ ∃ n, wx = wc.drewN n)
  case first =>
   rcases hsc with ⟨h1, h2, h3⟩ | ⟨h1, h2, h3, h4⟩ | ⟨h1, h2, h3, h4⟩
   ·have HV : Hid (t = s ∧ negB s = false) := ⟨by rw [HT.out]; exact bodyT_self h1, h2⟩
    have k : decide (signLen s = 1) = false := decide_eq_false (by omega)
    rw [k]
    clear h1 h2 h3
    go_wp2_with fail
    go_meet
    case rel => exact ⟨by rw [HV.out.1], by rw [HV.out.2], 0, rfl⟩
   ·have HV : Hid (s.extract 1 s.size = t ∧ negB s = false) := ⟨by rw [HT.out]; unfold bodyT; rw [if_pos h1], h4⟩
    have k : decide (signLen s = 1) = true := decide_eq_true h1
    have htt := HV.out.1
    have h1s : (1 : Int) ≤ (s.size : Int) := by omega
    have k2 : (bt s 0 == 45) = false := beq_eq_false_iff_ne.2 (by omega)
    rw [k]
    clear h1 h3 h4
    go_wp2_with fail
    go_quiet (fail)
    go_wp2_with fail
    go_meet
    case rel => exact ⟨rfl, by rw [HV.out.2], nq, rfl⟩
   ·have HV : Hid (s.extract 1 s.size = t ∧ negB s = true) := ⟨by rw [HT.out]; unfold bodyT; rw [if_pos h1], h4⟩
    have k : decide (signLen s = 1) = true := decide_eq_true h1
    have htt := HV.out.1
    have h1s : (1 : Int) ≤ (s.size : Int) := by omega
    have k2 : (bt s 0 == 45) = true := beq_iff_eq.2 h3
    rw [k]
    clear h1 h3 h4
    go_wp2_with fail
    go_quiet (fail)
    go_wp2_with fail
    go_meet
    case rel => exact ⟨rfl, by rw [HV.out.2], nq, rfl⟩
  case rest =>
   obtain ⟨rfl, rfl, nw, rfl⟩ := hcut
   clear hb hsc
   have HW : Hid (Below wc.heap.size wc (wc.drewN nw)) := below_drewN (Below.refl _ _) nw
   generalize wc.drewN nw = wd at *
   cases hneg : negB s
   all_goals
    rw [hneg] at HF
    go_upto_region 13 with (first
      | (go_at_call 143; (with_reducible refine (light_form _).mono ?_); rintro e w2 ⟨rfl, hb2⟩; have HB2 := Lib.hid hb2; clear hb2; have HF2 := Lib.hid (formAt_alloc w2))
      | (go_at_call 140; (with_reducible refine (K2.out _).mono ?_); rintro e w8 ⟨rfl, rfl⟩)
      | (go_at_call 140; (with_reducible refine (K3.out _).mono ?_); rintro e w8 ⟨rfl, rfl⟩))
    go_region_with (first | (go_at_call 144; (with_reducible refine (KP.out _).mono ?_); rintro e w6 ⟨rfl, hb6⟩; have HB6 := Lib.hid hb6; clear hb6) | (go_at_call 144; (with_reducible refine (KM.out _).mono ?_); rintro e w6 ⟨rfl, hb6⟩; have HB6 := Lib.hid hb6; clear hb6))
    all_goals
     go_wp2_with fail
     go_ret2
     have q1 : Below wc.heap.size wc w2 := HW.out.trans (HB2.out.mono HW.out.size)
     have q2 := (q1.alloc q1.size (.cells #[.int .i64 52, .int .i64 11, .int .i64 (-1023)] 227)).drew
     exact num_some HF.out (q2.trans (HB6.out.mono q2.size))

set_option maxHeartbeats 3200000 in
set_option maxRecDepth 100000 in
theorem light_no_read (s : ByteArray) (w : World) (hs : s.size ≤ 400) (hnan : ¬ FoldP s wNan) (hinf : ¬ FoldP (bodyT s) wInf) (hinf2 : ¬ FoldP (bodyT s) wInfinity) (hr : readU (hexL (bodyT s)) (behindT (bodyT s)) = none) : Calls Tryz.prog 117 #[.string s, .int .i64 64] w (NumIs (fltOf s) w) := by
 have hb := get_bt s
 have K1 := Lib.hid (fun w => fold_no (w := w) (by omega : s.size ≤ 2147483647) hnan)
 unfold wNan at K1
 obtain ⟨t, ht⟩ : ∃ t, t = bodyT s := ⟨_, rfl⟩
 have hts : t.size ≤ 400 := by have := bodyT_size s; rw [ht]; omega
 have HT := Lib.hid ht
 have hsc := sign_cases s
 have K2 := Lib.hid (fun w => fold_no (w := w) (by omega : t.size ≤ 2147483647) (by rw [ht]; exact hinf))
 have K3 := Lib.hid (fun w => fold_no (w := w) (by omega : t.size ≤ 2147483647) (by rw [ht]; exact hinf2))
 unfold wInf at K2
 unfold wInfinity at K3
 have HF : Hid (fltOf s = none) := (fltOf_value ⟨hnan, hinf, hinf2⟩).trans (value_part (read_light.2 hr))
 have KR : Hid (∀ w, Calls Tryz.prog 145 #[.string t] w fun e w' => e = .returned (.tuple #[.pointer none, .bool false]) ∧ Below w.heap.size w w') := fun w => (light_read_any t w hts).mono fun e w' h => by
  unfold LReadAny LRead at h
  rw [ht, hr] at h
  exact h

 clear ht
 go_enter Tryz.func117, Tryz.ntmps117
 go_upto_region 6 with (go_at_call 140; (with_reducible refine (K1.out _).mono ?_); rintro e w1 ⟨rfl, rfl⟩)
 go_cut [33] from 22 to 33 (fun s33 wx => s33 = .bool (decide (signLen s = 1)) ∧ wx = w1)
 case first =>
  rcases hsc with ⟨h1, h2, h3⟩ | ⟨h1, h2, h3, h4⟩ | ⟨h1, h2, h3, h4⟩
  ·have HV : Hid (decide (signLen s = 1) = false) := decide_eq_false (by omega)
   by_cases c0 : 0 < s.size
   ·have k0 : (s.toList == []) = false := by
     cases e : s.toList == []
     ·rfl
     ·have := (empty_toList s).1 e; omega
    have k1 : (bt s 0 == 43) = false := beq_eq_false_iff_ne.2 (h3 c0).1
    have k2 : (bt s 0 == 45) = false := beq_eq_false_iff_ne.2 (h3 c0).2
    clear h1 h2 h3
    go_wp2_with fail
    go_meet
    case rel => exact ⟨by rw [HV.out], rfl⟩
   ·have k0 : (s.toList == []) = true := (empty_toList s).2 (by omega)
    clear h1 h2 h3
    go_wp2_with fail
    go_meet
    case rel => exact ⟨by rw [HV.out], rfl⟩
  ·have HV : Hid (decide (signLen s = 1) = true) := decide_eq_true h1
   have k0 : (s.toList == []) = false := by
    cases e : s.toList == []
    ·rfl
    ·have := (empty_toList s).1 e; omega
   have k1 : (bt s 0 == 43) = true := beq_iff_eq.2 h3
   clear h1 h3 h4
   go_wp2_with fail
   go_meet
   case rel => exact ⟨by rw [HV.out], rfl⟩
  ·have HV : Hid (decide (signLen s = 1) = true) := decide_eq_true h1
   have k0 : (s.toList == []) = false := by
    cases e : s.toList == []
    ·rfl
    ·have := (empty_toList s).1 e; omega
   have k1 : (bt s 0 == 43) = false := beq_eq_false_iff_ne.2 (by omega)
   have k2 : (bt s 0 == 45) = true := beq_iff_eq.2 h3
   clear h1 h3 h4
   go_wp2_with fail
   go_meet
   case rel => exact ⟨by rw [HV.out], rfl⟩
 case rest =>
  obtain ⟨rfl, rfl⟩ := hcut
  go_upto_if 33 with fail
  go_cut [6, 7] from 33 to 38 (fun s6 s7 wx => s6 = .string t ∧ s7 = .bool (negB s) ∧ ∃ n, wx = wc.drewN n)
  case first =>
   rcases hsc with ⟨h1, h2, h3⟩ | ⟨h1, h2, h3, h4⟩ | ⟨h1, h2, h3, h4⟩
   ·have HV : Hid (t = s ∧ negB s = false) := ⟨by rw [HT.out]; exact bodyT_self h1, h2⟩
    have k : decide (signLen s = 1) = false := decide_eq_false (by omega)
    rw [k]
    clear h1 h2 h3
    go_wp2_with fail
    go_meet
    case rel => exact ⟨by rw [HV.out.1], by rw [HV.out.2], 0, rfl⟩
   ·have HV : Hid (s.extract 1 s.size = t ∧ negB s = false) := ⟨by rw [HT.out]; unfold bodyT; rw [if_pos h1], h4⟩
    have k : decide (signLen s = 1) = true := decide_eq_true h1
    have htt := HV.out.1
    have h1s : (1 : Int) ≤ (s.size : Int) := by omega
    have k2 : (bt s 0 == 45) = false := beq_eq_false_iff_ne.2 (by omega)
    rw [k]
    clear h1 h3 h4
    go_wp2_with fail
    go_quiet (fail)
    go_wp2_with fail
    go_meet
    case rel => exact ⟨rfl, by rw [HV.out.2], nq, rfl⟩
   ·have HV : Hid (s.extract 1 s.size = t ∧ negB s = true) := ⟨by rw [HT.out]; unfold bodyT; rw [if_pos h1], h4⟩
    have k : decide (signLen s = 1) = true := decide_eq_true h1
    have htt := HV.out.1
    have h1s : (1 : Int) ≤ (s.size : Int) := by omega
    have k2 : (bt s 0 == 45) = true := beq_iff_eq.2 h3
    rw [k]
    clear h1 h3 h4
    go_wp2_with fail
    go_quiet (fail)
    go_wp2_with fail
    go_meet
    case rel => exact ⟨rfl, by rw [HV.out.2], nq, rfl⟩
  case rest =>
   obtain ⟨rfl, rfl, nw, rfl⟩ := hcut
   clear hb hsc
   have HW : Hid (Below wc.heap.size wc (wc.drewN nw)) := below_drewN (Below.refl _ _) nw
   generalize wc.drewN nw = wd at *
   cases hneg : negB s
   all_goals
    go_wp2_with (first
      | (go_at_call 143; (with_reducible refine (light_form _).mono ?_); rintro e w2 ⟨rfl, hb2⟩; have HB2 := Lib.hid hb2; clear hb2; have HF2 := Lib.hid (formAt_alloc w2))
      | (go_at_call 140; (with_reducible refine (K2.out _).mono ?_); rintro e w8 ⟨rfl, rfl⟩)
      | (go_at_call 140; (with_reducible refine (K3.out _).mono ?_); rintro e w8 ⟨rfl, rfl⟩)
      | (go_at_call 145; (with_reducible refine (KR.out _).mono ?_); rintro e w3 ⟨rfl, hb3⟩; have HB3 := Lib.hid hb3; clear hb3)
      | (go_at_call 147; (with_reducible refine (light_fail _ _ _ _).mono ?_); rintro e w7 ⟨⟨tt, vv, rfl⟩, hb7⟩; have HB7 := Lib.hid hb7; clear hb7))
    go_ret2
    have q1 : Below wc.heap.size wc w2 := HW.out.trans (HB2.out.mono HW.out.size)
    have q2 := q1.alloc q1.size (.cells #[.int .i64 52, .int .i64 11, .int .i64 (-1023)] 227)
    have q3 := q2.trans (HB3.out.mono q2.size)
    exact num_none HF.out (q3.trans (HB7.out.mono q3.size))

set_option maxHeartbeats 3200000 in
set_option maxRecDepth 100000 in
theorem light_bad_und (s : ByteArray) (w : World) (hs : s.size ≤ 400) (hnan : ¬ FoldP s wNan) (hinf : ¬ FoldP (bodyT s) wInf) (hinf2 : ¬ FoldP (bodyT s) wInfinity) (st : Sc) (ex : Int) (hr : readU (hexL (bodyT s)) (behindT (bodyT s)) = some (st, ex)) (i : Nat) (hi : i < s.size) (hc : bt s i = 95) (hk : usOK s = false) : Calls Tryz.prog 117 #[.string s, .int .i64 64] w (NumIs (fltOf s) w) := by
 have hb := get_bt s
 have K1 := Lib.hid (fun w => fold_no (w := w) (by omega : s.size ≤ 2147483647) hnan)
 unfold wNan at K1
 obtain ⟨t, ht⟩ : ∃ t, t = bodyT s := ⟨_, rfl⟩
 have hts : t.size ≤ 400 := by have := bodyT_size s; rw [ht]; omega
 have HT := Lib.hid ht
 have hsc := sign_cases s
 have K2 := Lib.hid (fun w => fold_no (w := w) (by omega : t.size ≤ 2147483647) (by rw [ht]; exact hinf))
 have K3 := Lib.hid (fun w => fold_no (w := w) (by omega : t.size ≤ 2147483647) (by rw [ht]; exact hinf2))
 unfold wInf at K2
 unfold wInfinity at K3
 obtain ⟨us, hro⟩ := read_light.1 st ex hr
 have hok : ScOk (hexL (bodyT s)) st := (read_facts hro).ok
 obtain ⟨r, hrr⟩ : ∃ r, r = rungOf (readR (hexL (bodyT s)) st ex s.size us) := ⟨_, rfl⟩
 have KR : Hid (∀ w, Calls Tryz.prog 145 #[.string t] w fun e w' => ∃ b es ep, e = .returned (.tuple #[.pointer (some ⟨b, 0, none⟩), .bool true]) ∧ DecAt w' w.heap.size b es ep ∧ es.length ≤ 2000 ∧ -1000000 ≤ ep ∧ ep ≤ 1000000 ∧ FitOf (hexL (bodyT s)) st ex es ep ∧ Below w.heap.size w w') := fun w => (light_read_any t w hts).mono fun e w' h => by
  unfold LReadAny LRead at h
  rw [ht, hr] at h
  exact h
 have KB : Hid (∀ (w : World) (base b : Nat) (es : List Nat) (ep : Int), DecAt w base b es ep → es.length ≤ 2000 → -1000000 ≤ ep → ep ≤ 1000000 → FitOf (hexL (bodyT s)) st ex es ep →
   Calls Tryz.prog 148 #[.pointer (some ⟨b, 0, none⟩), form64] w fun e w' => e = .returned (.tuple #[.int .u64 (cutRung r : Nat), .bool (overRung r)]) ∧ Only b w w') := fun w base b es ep h1 h2 h3 h4 h5 => by
  rw [hrr]
  exact bits_read_any w base b s.size es ep ex _ us st h1 hok h2 h3 h4 h5
 have HF : Hid (fltOf s = none) := (fltOf_value ⟨hnan, hinf, hinf2⟩).trans (value_und hro rfl hi hc hk)
 have KU : Hid (∀ w, Calls Tryz.prog 146 #[.string s] w fun e w' => e = .returned (.bool false) ∧ w = w') := fun w => (light_unders s w (by omega)).mono fun e w' ⟨b, he, h, hw⟩ => by
  rcases h with ⟨h, _⟩ | ⟨_, h⟩
  ·exact (h i hi hc).elim
  ·rw [hk] at h; subst h; exact ⟨he, hw⟩

 clear ht
 go_enter Tryz.func117, Tryz.ntmps117
 go_upto_region 6 with (go_at_call 140; (with_reducible refine (K1.out _).mono ?_); rintro e w1 ⟨rfl, rfl⟩)
 go_cut [33] from 22 to 33 (fun s33 wx => s33 = .bool (decide (signLen s = 1)) ∧ wx = w1)
 case first =>
  rcases hsc with ⟨h1, h2, h3⟩ | ⟨h1, h2, h3, h4⟩ | ⟨h1, h2, h3, h4⟩
  ·have HV : Hid (decide (signLen s = 1) = false) := decide_eq_false (by omega)
   by_cases c0 : 0 < s.size
   ·have k0 : (s.toList == []) = false := by
     cases e : s.toList == []
     ·rfl
     ·have := (empty_toList s).1 e; omega
    have k1 : (bt s 0 == 43) = false := beq_eq_false_iff_ne.2 (h3 c0).1
    have k2 : (bt s 0 == 45) = false := beq_eq_false_iff_ne.2 (h3 c0).2
    clear h1 h2 h3
    go_wp2_with fail
    go_meet
    case rel => exact ⟨by rw [HV.out], rfl⟩
   ·have k0 : (s.toList == []) = true := (empty_toList s).2 (by omega)
    clear h1 h2 h3
    go_wp2_with fail
    go_meet
    case rel => exact ⟨by rw [HV.out], rfl⟩
  ·have HV : Hid (decide (signLen s = 1) = true) := decide_eq_true h1
   have k0 : (s.toList == []) = false := by
    cases e : s.toList == []
    ·rfl
    ·have := (empty_toList s).1 e; omega
   have k1 : (bt s 0 == 43) = true := beq_iff_eq.2 h3
   clear h1 h3 h4
   go_wp2_with fail
   go_meet
   case rel => exact ⟨by rw [HV.out], rfl⟩
  ·have HV : Hid (decide (signLen s = 1) = true) := decide_eq_true h1
   have k0 : (s.toList == []) = false := by
    cases e : s.toList == []
    ·rfl
    ·have := (empty_toList s).1 e; omega
   have k1 : (bt s 0 == 43) = false := beq_eq_false_iff_ne.2 (by omega)
   have k2 : (bt s 0 == 45) = true := beq_iff_eq.2 h3
   clear h1 h3 h4
   go_wp2_with fail
   go_meet
   case rel => exact ⟨by rw [HV.out], rfl⟩
 case rest =>
  obtain ⟨rfl, rfl⟩ := hcut
  go_upto_if 33 with fail
  go_cut [6, 7] from 33 to 38 (fun s6 s7 wx => s6 = .string t ∧ s7 = .bool (negB s) ∧ ∃ n, wx = wc.drewN n)
  case first =>
   rcases hsc with ⟨h1, h2, h3⟩ | ⟨h1, h2, h3, h4⟩ | ⟨h1, h2, h3, h4⟩
   ·have HV : Hid (t = s ∧ negB s = false) := ⟨by rw [HT.out]; exact bodyT_self h1, h2⟩
    have k : decide (signLen s = 1) = false := decide_eq_false (by omega)
    rw [k]
    clear h1 h2 h3
    go_wp2_with fail
    go_meet
    case rel => exact ⟨by rw [HV.out.1], by rw [HV.out.2], 0, rfl⟩
   ·have HV : Hid (s.extract 1 s.size = t ∧ negB s = false) := ⟨by rw [HT.out]; unfold bodyT; rw [if_pos h1], h4⟩
    have k : decide (signLen s = 1) = true := decide_eq_true h1
    have htt := HV.out.1
    have h1s : (1 : Int) ≤ (s.size : Int) := by omega
    have k2 : (bt s 0 == 45) = false := beq_eq_false_iff_ne.2 (by omega)
    rw [k]
    clear h1 h3 h4
    go_wp2_with fail
    go_quiet (fail)
    go_wp2_with fail
    go_meet
    case rel => exact ⟨rfl, by rw [HV.out.2], nq, rfl⟩
   ·have HV : Hid (s.extract 1 s.size = t ∧ negB s = true) := ⟨by rw [HT.out]; unfold bodyT; rw [if_pos h1], h4⟩
    have k : decide (signLen s = 1) = true := decide_eq_true h1
    have htt := HV.out.1
    have h1s : (1 : Int) ≤ (s.size : Int) := by omega
    have k2 : (bt s 0 == 45) = true := beq_iff_eq.2 h3
    rw [k]
    clear h1 h3 h4
    go_wp2_with fail
    go_quiet (fail)
    go_wp2_with fail
    go_meet
    case rel => exact ⟨rfl, by rw [HV.out.2], nq, rfl⟩
  case rest =>
   obtain ⟨rfl, rfl, nw, rfl⟩ := hcut
   clear hb hsc
   have HW : Hid (Below wc.heap.size wc (wc.drewN nw)) := below_drewN (Below.refl _ _) nw
   generalize wc.drewN nw = wd at *
   cases hneg : negB s
   all_goals
    go_wp2_with (first
      | (go_at_call 143; (with_reducible refine (light_form _).mono ?_); rintro e w2 ⟨rfl, hb2⟩; have HB2 := Lib.hid hb2; clear hb2; have HF2 := Lib.hid (formAt_alloc w2))
      | (go_at_call 140; (with_reducible refine (K2.out _).mono ?_); rintro e w8 ⟨rfl, rfl⟩)
      | (go_at_call 140; (with_reducible refine (K3.out _).mono ?_); rintro e w8 ⟨rfl, rfl⟩)
      | (go_at_call 145; (with_reducible refine (KR.out _).mono ?_); rintro e w3 ⟨b, es, ep, rfl, r1, r2, r3, r4, r5, hb3⟩; have HB3 := Lib.hid hb3; have HF3 := Lib.hid (HF2.out.below hb3 (by simp)); obtain ⟨f1, f2, f3⟩ := HF3.out; have HBITS := Lib.hid (KB.out _ _ _ _ _ r1 r2 r3 r4 r5); have HBB : Hid (w2.heap.size < w3.heap.size ∧ w2.heap.size < b ∧ b < w3.heap.size) := And.intro (by have := hb3.size; simp at this; omega) (And.intro (by have := r1.lo; simp at this; omega) r1.lt); clear r1 r2 r3 r4 r5 hb3)
      | (go_at_call 146; (with_reducible refine (KU.out _).mono ?_); rintro e w4 ⟨rfl, rfl⟩)
      | (go_at_call 147; (with_reducible refine (light_fail _ _ _ _).mono ?_); rintro e w7 ⟨⟨tt, vv, rfl⟩, hb7⟩; have HB7 := Lib.hid hb7; clear hb7))
    go_ret2
    have q1 : Below wc.heap.size wc w2 := HW.out.trans (HB2.out.mono HW.out.size)
    have q2 := q1.alloc q1.size (.cells #[.int .i64 52, .int .i64 11, .int .i64 (-1023)] 227)
    have q3 := q2.trans (HB3.out.mono q2.size)
    exact num_none HF.out (q3.trans (HB7.out.mono q3.size))

set_option maxHeartbeats 3200000 in
set_option maxRecDepth 100000 in
theorem light_value (s : ByteArray) (w : World) (hs : s.size ≤ 400) (hnan : ¬ FoldP s wNan) (hinf : ¬ FoldP (bodyT s) wInf) (hinf2 : ¬ FoldP (bodyT s) wInfinity) (st : Sc) (ex : Int) (hr : readU (hexL (bodyT s)) (behindT (bodyT s)) = some (st, ex)) (hk : usOK s = true) : Calls Tryz.prog 117 #[.string s, .int .i64 64] w (NumIs (fltOf s) w) := by
 have hb := get_bt s
 have K1 := Lib.hid (fun w => fold_no (w := w) (by omega : s.size ≤ 2147483647) hnan)
 unfold wNan at K1
 obtain ⟨t, ht⟩ : ∃ t, t = bodyT s := ⟨_, rfl⟩
 have hts : t.size ≤ 400 := by have := bodyT_size s; rw [ht]; omega
 have HT := Lib.hid ht
 have hsc := sign_cases s
 have K2 := Lib.hid (fun w => fold_no (w := w) (by omega : t.size ≤ 2147483647) (by rw [ht]; exact hinf))
 have K3 := Lib.hid (fun w => fold_no (w := w) (by omega : t.size ≤ 2147483647) (by rw [ht]; exact hinf2))
 unfold wInf at K2
 unfold wInfinity at K3
 obtain ⟨us, hro⟩ := read_light.1 st ex hr
 have hok : ScOk (hexL (bodyT s)) st := (read_facts hro).ok
 obtain ⟨r, hrr⟩ : ∃ r, r = rungOf (readR (hexL (bodyT s)) st ex s.size us) := ⟨_, rfl⟩
 have KR : Hid (∀ w, Calls Tryz.prog 145 #[.string t] w fun e w' => ∃ b es ep, e = .returned (.tuple #[.pointer (some ⟨b, 0, none⟩), .bool true]) ∧ DecAt w' w.heap.size b es ep ∧ es.length ≤ 2000 ∧ -1000000 ≤ ep ∧ ep ≤ 1000000 ∧ FitOf (hexL (bodyT s)) st ex es ep ∧ Below w.heap.size w w') := fun w => (light_read_any t w hts).mono fun e w' h => by
  unfold LReadAny LRead at h
  rw [ht, hr] at h
  exact h
 have KB : Hid (∀ (w : World) (base b : Nat) (es : List Nat) (ep : Int), DecAt w base b es ep → es.length ≤ 2000 → -1000000 ≤ ep → ep ≤ 1000000 → FitOf (hexL (bodyT s)) st ex es ep →
   Calls Tryz.prog 148 #[.pointer (some ⟨b, 0, none⟩), form64] w fun e w' => e = .returned (.tuple #[.int .u64 (cutRung r : Nat), .bool (overRung r)]) ∧ Only b w w') := fun w base b es ep h1 h2 h3 h4 h5 => by
  rw [hrr]
  exact bits_read_any w base b s.size es ep ex _ us st h1 hok h2 h3 h4 h5
 have KU : Hid (∀ w, Calls Tryz.prog 146 #[.string s] w fun e w' => e = .returned (.bool true) ∧ w = w') := fun w => (light_unders s w (by omega)).mono fun e w' ⟨b, he, h, hw⟩ => by
  rcases h with ⟨_, h⟩ | ⟨_, h⟩
  ·subst h; exact ⟨he, hw⟩
  ·rw [hk] at h; subst h; exact ⟨he, hw⟩
 have hval := (fltOf_value ⟨hnan, hinf, hinf2⟩).trans (value_read hro rfl (fun _ => hk))
 rw [← hrr] at hval
 have hcl : cutRung r ≤ 9218868437227405312 := by unfold cutRung; split <;> omega
 obtain ⟨c, hcc⟩ : ∃ c, c = cutRung r := ⟨_, rfl⟩
 rw [← hcc] at KB hcl hval
 have eqp : bits .or .u64 0 (c : Int) = (c : Int) := or_zero_u64 c (by omega)
 obtain ⟨X, hX⟩ : ∃ X : Nat, X = 9223372036854775808 + c := ⟨_, rfl⟩
 have eqm : bits .or .u64 9223372036854775808 (c : Int) = (X : Int) := by rw [hX]; exact or_sign_u64 c (by omega)
 have HX := Lib.hid hX
 clear hX
 clear hcc hrr hro hok

 clear ht
 go_enter Tryz.func117, Tryz.ntmps117
 go_upto_region 6 with (go_at_call 140; (with_reducible refine (K1.out _).mono ?_); rintro e w1 ⟨rfl, rfl⟩)
 go_cut [33] from 22 to 33 (fun s33 wx => s33 = .bool (decide (signLen s = 1)) ∧ wx = w1)
 case first =>
  rcases hsc with ⟨h1, h2, h3⟩ | ⟨h1, h2, h3, h4⟩ | ⟨h1, h2, h3, h4⟩
  ·have HV : Hid (decide (signLen s = 1) = false) := decide_eq_false (by omega)
   by_cases c0 : 0 < s.size
   ·have k0 : (s.toList == []) = false := by
     cases e : s.toList == []
     ·rfl
     ·have := (empty_toList s).1 e; omega
    have k1 : (bt s 0 == 43) = false := beq_eq_false_iff_ne.2 (h3 c0).1
    have k2 : (bt s 0 == 45) = false := beq_eq_false_iff_ne.2 (h3 c0).2
    clear h1 h2 h3
    go_wp2_with fail
    go_meet
    case rel => exact ⟨by rw [HV.out], rfl⟩
   ·have k0 : (s.toList == []) = true := (empty_toList s).2 (by omega)
    clear h1 h2 h3
    go_wp2_with fail
    go_meet
    case rel => exact ⟨by rw [HV.out], rfl⟩
  ·have HV : Hid (decide (signLen s = 1) = true) := decide_eq_true h1
   have k0 : (s.toList == []) = false := by
    cases e : s.toList == []
    ·rfl
    ·have := (empty_toList s).1 e; omega
   have k1 : (bt s 0 == 43) = true := beq_iff_eq.2 h3
   clear h1 h3 h4
   go_wp2_with fail
   go_meet
   case rel => exact ⟨by rw [HV.out], rfl⟩
  ·have HV : Hid (decide (signLen s = 1) = true) := decide_eq_true h1
   have k0 : (s.toList == []) = false := by
    cases e : s.toList == []
    ·rfl
    ·have := (empty_toList s).1 e; omega
   have k1 : (bt s 0 == 43) = false := beq_eq_false_iff_ne.2 (by omega)
   have k2 : (bt s 0 == 45) = true := beq_iff_eq.2 h3
   clear h1 h3 h4
   go_wp2_with fail
   go_meet
   case rel => exact ⟨by rw [HV.out], rfl⟩
 case rest =>
  obtain ⟨rfl, rfl⟩ := hcut
  go_upto_if 33 with fail
  go_cut [6, 7] from 33 to 38 (fun s6 s7 wx => s6 = .string t ∧ s7 = .bool (negB s) ∧ ∃ n, wx = wc.drewN n)
  case first =>
   rcases hsc with ⟨h1, h2, h3⟩ | ⟨h1, h2, h3, h4⟩ | ⟨h1, h2, h3, h4⟩
   ·have HV : Hid (t = s ∧ negB s = false) := ⟨by rw [HT.out]; exact bodyT_self h1, h2⟩
    have k : decide (signLen s = 1) = false := decide_eq_false (by omega)
    rw [k]
    clear h1 h2 h3
    go_wp2_with fail
    go_meet
    case rel => exact ⟨by rw [HV.out.1], by rw [HV.out.2], 0, rfl⟩
   ·have HV : Hid (s.extract 1 s.size = t ∧ negB s = false) := ⟨by rw [HT.out]; unfold bodyT; rw [if_pos h1], h4⟩
    have k : decide (signLen s = 1) = true := decide_eq_true h1
    have htt := HV.out.1
    have h1s : (1 : Int) ≤ (s.size : Int) := by omega
    have k2 : (bt s 0 == 45) = false := beq_eq_false_iff_ne.2 (by omega)
    rw [k]
    clear h1 h3 h4
    go_wp2_with fail
    go_quiet (fail)
    go_wp2_with fail
    go_meet
    case rel => exact ⟨rfl, by rw [HV.out.2], nq, rfl⟩
   ·have HV : Hid (s.extract 1 s.size = t ∧ negB s = true) := ⟨by rw [HT.out]; unfold bodyT; rw [if_pos h1], h4⟩
    have k : decide (signLen s = 1) = true := decide_eq_true h1
    have htt := HV.out.1
    have h1s : (1 : Int) ≤ (s.size : Int) := by omega
    have k2 : (bt s 0 == 45) = true := beq_iff_eq.2 h3
    rw [k]
    clear h1 h3 h4
    go_wp2_with fail
    go_quiet (fail)
    go_wp2_with fail
    go_meet
    case rel => exact ⟨rfl, by rw [HV.out.2], nq, rfl⟩
  case rest =>
   obtain ⟨rfl, rfl, nw, rfl⟩ := hcut
   clear hb hsc
   have HW : Hid (Below wc.heap.size wc (wc.drewN nw)) := below_drewN (Below.refl _ _) nw
   generalize wc.drewN nw = wd at *
   have HVAL := Lib.hid hval
   clear hval hcl
   cases hov : overRung r
   all_goals
    rw [hov] at KB
    have HVL := Lib.hid HVAL.out
    cases hneg : negB s
    all_goals
     have HV2 := Lib.hid HVAL.out
     go_wp2_with (first
      | (go_at_call 143; (with_reducible refine (light_form _).mono ?_); rintro e w2 ⟨rfl, hb2⟩; have HB2 := Lib.hid hb2; clear hb2; have HF2 := Lib.hid (formAt_alloc w2))
      | (go_at_call 140; (with_reducible refine (K2.out _).mono ?_); rintro e w8 ⟨rfl, rfl⟩)
      | (go_at_call 140; (with_reducible refine (K3.out _).mono ?_); rintro e w8 ⟨rfl, rfl⟩)
      | (go_at_call 145; (with_reducible refine (KR.out _).mono ?_); rintro e w3 ⟨b, es, ep, rfl, r1, r2, r3, r4, r5, hb3⟩; have HB3 := Lib.hid hb3; have HF3 := Lib.hid (HF2.out.below hb3 (by simp)); obtain ⟨f1, f2, f3⟩ := HF3.out; have HBITS := Lib.hid (KB.out _ _ _ _ _ r1 r2 r3 r4 r5); have HBB : Hid (w2.heap.size < w3.heap.size ∧ w2.heap.size < b ∧ b < w3.heap.size) := And.intro (by have := hb3.size; simp at this; omega) (And.intro (by have := r1.lo; simp at this; omega) r1.lt); clear r1 r2 r3 r4 r5 hb3)
      | (go_at_call 146; (with_reducible refine (KU.out _).mono ?_); rintro e w4 ⟨rfl, rfl⟩)
      | (go_at_call 148; (with_reducible refine HBITS.out.mono ?_); rintro e w5 ⟨rfl, ho⟩; have HO5 := Lib.hid ho; obtain ⟨f1', f2', f3'⟩ := HF3.out.only ho HBB.out.1 (by have := HBB.out.2.1; omega); clear ho)
      | (go_at_call 144; (with_reducible refine (light_float _ _).mono ?_); rintro e w6 ⟨rfl, hb6⟩; have HB6 := Lib.hid hb6; clear hb6)
      | (go_at_call 147; (with_reducible refine (light_fail _ _ _ _).mono ?_); rintro e w7 ⟨⟨tt, vv, rfl⟩, hb7⟩; have HB7 := Lib.hid hb7; clear hb7))
     go_ret2
     have q1 : Below wc.heap.size wc w2 := HW.out.trans (HB2.out.mono HW.out.size)
     have q2 := q1.alloc q1.size (.cells #[.int .i64 52, .int .i64 11, .int .i64 (-1023)] 227)
     have q3 := q2.trans (HB3.out.mono q2.size)
     have q5 := q3.trans (HO5.out.toBelow (base := wc.heap.size) (by have := HBB.out; have := q1.size; omega) HBB.out.2.2)
     have q6 := q5.trans (HB6.out.mono q5.size)
     first
      | exact num_none (by rw [HV2.out, hov]; rfl) (q6.trans (HB7.out.mono q6.size))
      | exact num_some (by rw [HV2.out, hov, hneg]; first | (rw [HX.out]; rfl) | (simp [sgv]; done)) q6

/-- The light ParseFloat on any text of at most 400 octets. -/
theorem light_any (s : ByteArray) (w : World) (hs : s.size ≤ 400) : Calls Tryz.prog 117 #[.string s, .int .i64 64] w (NumIs (fltOf s) w) := by
 by_cases h1 : FoldP s wNan
 ·exact light_is_nan s w hs h1
 by_cases h2 : FoldP (bodyT s) wInf
 ·exact light_is_inf s w hs h1 h2
 by_cases h3 : FoldP (bodyT s) wInfinity
 ·exact light_is_infinity s w hs h1 h2 h3
 cases hr : readU (hexL (bodyT s)) (behindT (bodyT s)) with
 | none => exact light_no_read s w hs h1 h2 h3 hr
 | some x =>
  obtain ⟨st, ex⟩ := x
  cases hk : usOK s with
  | true => exact light_value s w hs h1 h2 h3 st ex hr hk
  | false =>
   by_cases hu : ∃ i, i < s.size ∧ bt s i = 95
   ·obtain ⟨i, hi, hc⟩ := hu
    exact light_bad_und s w hs h1 h2 h3 st ex hr i hi hc hk
   ·rw [usOK_free (fun i hi hc => hu ⟨i, hi, hc⟩)] at hk
    simp at hk

end Go.Proofs.YtgolhmiocjpohaaGreatDoor
