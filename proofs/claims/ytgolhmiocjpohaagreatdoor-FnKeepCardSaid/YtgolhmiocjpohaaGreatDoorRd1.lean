/- Go's own reading of floats: readFloat (154), walked on texts that are not told in hexadecimal. No condition beyond that and the text's length. -/
import Derived.Test.YtgolhmiocjpohaaGreatDoorUc1
set_option linter.unusedVariables false
set_option linter.unusedSimpArgs false
namespace Go.Proofs.YtgolhmiocjpohaaGreatDoor
open Go.RowKit Go.PlainAid

/-- How the loop's slots stand. -/
def LoopAt (hex : Bool) (s : ByteArray) (v2 v5 v7 v9 v13 v14 v15 v16 v17 : Value) : Prop :=
 ∃ (j : Nat) (st : Sc) (dpv : Int), v2 = .int .u64 (mantOf hex st.ds : Nat) ∧ v5 = .bool (truncOf hex st.ds) ∧ v7 = .int .i64 (j : Nat) ∧ v9 = .bool st.us ∧ v13 = .bool st.dot ∧ v14 = .bool st.sm ∧ v15 = .int .i64 (st.ds.length : Nat) ∧ v16 = .int .i64 (min st.ds.length (cap hex) : Nat) ∧ v17 = .int .i64 dpv ∧
  StdAt hex s (scanAt hex s (digFrom s) sc0) st j dpv

/-- How they stand behind the loop. -/
def LoopOut (hex : Bool) (s : ByteArray) (v2 v5 v7 v9 v13 v14 v15 v16 v17 : Value) : Prop :=
 ∃ (j : Nat) (st : Sc) (dpv : Int), v2 = .int .u64 (mantOf hex st.ds : Nat) ∧ v5 = .bool (truncOf hex st.ds) ∧ v7 = .int .i64 (j : Nat) ∧ v9 = .bool st.us ∧ v13 = .bool st.dot ∧ v14 = .bool st.sm ∧ v15 = .int .i64 (st.ds.length : Nat) ∧ v16 = .int .i64 (min st.ds.length (cap hex) : Nat) ∧ v17 = .int .i64 dpv ∧
  StdAt hex s (scanAt hex s (digFrom s) sc0) st j dpv ∧ scanAt hex s (digFrom s) sc0 = (j, st)

theorem loop_start (hex : Bool) (s : ByteArray) (h : digFrom s ≤ s.size) : LoopAt hex s (.int .u64 0) (.bool false) (.int .i64 (digFrom s : Nat)) (.bool false) (.bool false) (.bool false) (.int .i64 0) (.int .i64 0) (.int .i64 0) :=
 ⟨digFrom s, sc0, 0, by rw [show sc0.ds = [] from rfl, mantOf_nil]; rfl, by rw [show sc0.ds = [] from rfl, truncOf_nil], rfl, rfl, rfl, rfl, rfl, by rw [show sc0.ds = [] from rfl]; simp, rfl, StdAt.start hex s h⟩

theorem dig_dec {hex : Bool} {c : Int} (h : 48 ≤ c ∧ c ≤ 57) : digV hex c = some (c - 48).toNat := by unfold digV; rw [if_pos h]
theorem dig_hex {c : Int} (h : ¬ (48 ≤ c ∧ c ≤ 57)) (h2 : 97 ≤ lowB c ∧ lowB c ≤ 102) : digV true c = some (lowB c - 87).toNat := by
 unfold digV; rw [if_neg h, if_pos ⟨rfl, h2⟩]
theorem dig_none {hex : Bool} {c : Int} (h : ¬ (48 ≤ c ∧ c ≤ 57)) (h2 : ¬ (hex = true ∧ 97 ≤ lowB c ∧ lowB c ≤ 102)) : digV hex c = none := by
 unfold digV; rw [if_neg h, if_neg h2]
theorem stop_point {hex : Bool} {st : Sc} {c : Int} (h : c = 46) (hd : st.dot = true) : stepC hex st c = none := by
 unfold stepC; rw [if_neg (by omega), if_pos h, hd]; rfl
theorem stop_other {hex : Bool} {st : Sc} {c : Int} (h1 : c ≠ 95) (h2 : c ≠ 46) (h3 : ¬ (48 ≤ c ∧ c ≤ 57)) (h4 : ¬ (hex = true ∧ 97 ≤ lowB c ∧ lowB c ≤ 102)) : stepC hex st c = none := by
 unfold stepC; rw [if_neg h1, if_neg h2, dig_none h3 h4]; rfl

/-- A post of readFloat. -/
def ReadPost (s : ByteArray) (w : World) (e : Ending) (w' : World) : Prop :=
 ((ReadBad s ∧ ∃ (m x n : Int) (a b c : Bool), e = .returned (.tuple #[.int .u64 m, .int .i64 x, .bool a, .bool b, .bool c, .int .i64 n, .bool false])) ∨
  ∃ R, ReadGood s R ∧ e = .returned (.tuple #[.int .u64 (mantOf R.hex R.st.ds : Nat), .int .i64 (expOfRead R), .bool (negB s), .bool (truncOf R.hex R.st.ds), .bool R.hex, .int .i64 (R.stop : Nat), .bool true])) ∧ w = w'

set_option maxHeartbeats 6400000 in
set_option maxRecDepth 100000 in
theorem std_read_dec (s : ByteArray) (w : World) (hs : s.size ≤ 100000) (h0 : 0 < s.size) (hh : hexAt s = false) : Calls Tryz.prog 154 #[.string s] w (ReadPost s w) := by
 have hb := get_bt s
 have HHH := Lib.hid hh
 clear hh
 have e0 : decide ((s.size : Int) ≤ 0) = false := decide_eq_false (by omega)
 have hne : decide (s = ByteArray.empty) = false := decide_eq_false (fun h => by rw [h] at h0; simp at h0)
 have e1 : decide ((0 : Int) < (s.size : Int)) = true := decide_eq_true (by omega)
 obtain ⟨p, hp⟩ : ∃ p, p = signLen s := ⟨_, rfl⟩
 have hp1 : p ≤ 1 := by rw [hp]; unfold signLen; split <;> omega
 go_enter Tryz.func154, Tryz.ntmps154
 go_wp2_with fail
 go_step3
 go_upto_block 0 with fail
 go_cut [7, 4] from 28 to 35 (fun s7 s4 wx => s7 = .int .i64 (p : Nat) ∧ s4 = .bool (negB s) ∧ wx = w)
 case first =>
  by_cases c1 : bt s 0 = 43
  ·have k1 : (bt s 0 == 43) = true := beq_iff_eq.2 c1
   have HR : Hid (p = 1 ∧ negB s = false) := ⟨by rw [hp]; unfold signLen; rw [if_pos ⟨h0, Or.inl c1⟩], by unfold negB; exact decide_eq_false (by omega)⟩
   clear c1 hp
   go_wp2_with fail
   go_meet
   case rel => exact ⟨by rw [HR.out.1]; rfl, by rw [HR.out.2], rfl⟩
  ·have k1 : (bt s 0 == 43) = false := beq_eq_false_iff_ne.2 c1
   by_cases c2 : bt s 0 = 45
   ·have k2 : (bt s 0 == 45) = true := beq_iff_eq.2 c2
    have HR : Hid (p = 1 ∧ negB s = true) := ⟨by rw [hp]; unfold signLen; rw [if_pos ⟨h0, Or.inr c2⟩], by unfold negB; exact decide_eq_true ⟨h0, c2⟩⟩
    clear c1 c2 hp
    go_wp2_with fail
    go_meet
    case rel => exact ⟨by rw [HR.out.1]; rfl, by rw [HR.out.2], rfl⟩
   ·have k2 : (bt s 0 == 45) = false := beq_eq_false_iff_ne.2 c2
    have HR : Hid (p = 0 ∧ negB s = false) := ⟨by rw [hp]; unfold signLen; rw [if_neg (by omega)], by unfold negB; exact decide_eq_false (by omega)⟩
    clear c1 c2 hp
    go_wp2_with fail
    go_meet
    case rel => exact ⟨by rw [HR.out.1]; rfl, by rw [HR.out.2], rfl⟩
 case rest =>
  obtain ⟨rfl, rfl, rfl⟩ := hcut
  clear e0 e1 hne
  have HP := Lib.hid hp
  go_upto_region 12 with fail
  go_cut [54] from 36 to 54 (fun s54 wx => s54 = .bool (hexAt s) ∧ wx = wc)
  case first =>
   by_cases c1 : p + 2 < s.size
   ·have k1 : decide ((p : Int) + 2 < (s.size : Int)) = true := decide_eq_true (by omega)
    by_cases c2 : bt s p = 48
    ·have k2 : (bt s p == 48) = true := beq_iff_eq.2 c2
     by_cases c3 : lowB (bt s (p + 1)) = 120
     ·have k3 : (lowB (bt s (p + 1)) == 120) = true := beq_iff_eq.2 c3
      have HR : Hid (hexAt s = true) := by unfold hexAt; rw [← HP.out]; exact decide_eq_true ⟨c1, c2, c3⟩
      clear c2 c3 hp
      go_wp2_with (go_at_call 183; (with_reducible refine (std_low _ _).mono ?_); rintro e w1 ⟨rfl, rfl⟩)
      go_meet
      case rel => exact ⟨by rw [HR.out], rfl⟩
     ·have k3 : (lowB (bt s (p + 1)) == 120) = false := beq_eq_false_iff_ne.2 c3
      have HR : Hid (hexAt s = false) := by unfold hexAt; rw [← HP.out]; exact decide_eq_false (fun h => c3 h.2.2)
      clear c2 c3 hp
      go_wp2_with (go_at_call 183; (with_reducible refine (std_low _ _).mono ?_); rintro e w1 ⟨rfl, rfl⟩)
      go_meet
      case rel => exact ⟨by rw [HR.out], rfl⟩
    ·have k2 : (bt s p == 48) = false := beq_eq_false_iff_ne.2 c2
     have HR : Hid (hexAt s = false) := by unfold hexAt; rw [← HP.out]; exact decide_eq_false (fun h => c2 h.2.1)
     clear c2 hp
     go_wp2_with (go_at_call 183; (with_reducible refine (std_low _ _).mono ?_); rintro e w1 ⟨rfl, rfl⟩)
     go_meet
     case rel => exact ⟨by rw [HR.out], rfl⟩
   ·have k1 : decide ((p : Int) + 2 < (s.size : Int)) = false := decide_eq_false (by omega)
    have HR : Hid (hexAt s = false) := by unfold hexAt; rw [← HP.out]; exact decide_eq_false (fun h => c1 h.1)
    clear hp
    go_wp2_with (go_at_call 183; (with_reducible refine (std_low _ _).mono ?_); rintro e w1 ⟨rfl, rfl⟩)
    go_meet
    case rel => exact ⟨by rw [HR.out], rfl⟩
  case rest =>
   obtain ⟨rfl, rfl⟩ := hcut
   have HDF : Hid (digFrom s = if hexAt s then p + 2 else p) := by show _ = _; unfold digFrom; rw [← HP.out]
   have HDL : Hid (digFrom s ≤ s.size) := by
    show _ ≤ _
    rw [HDF.out]
    cases hh : hexAt s with
    | true => unfold hexAt at hh; rw [← HP.out] at hh; have := (of_decide_eq_true hh).1; simp; omega
    | false =>
     rw [HP.out]; unfold signLen
     simp only [Bool.false_eq_true, if_false]
     split <;> omega
   clear hp
   have hh := HHH.out
   rw [hh]
   rw [hh] at HDF
   have HHX := Lib.hid hh
   clear hh
   obtain ⟨P, hP⟩ : ∃ P, P = digFrom s := ⟨_, rfl⟩
   have HPP := Lib.hid hP
   have eP : P = p := by rw [hP, HDF.out]; rfl
   clear hP
   subst eP
   go_wp2_with fail
   go_step3
   go_upto_block 1 with fail
   go_cut [2, 5, 7, 9, 13, 14, 15, 16, 17] from 18 to 138 (fun s2 s5 s7 s9 s13 s14 s15 s16 s17 wx => LoopOut false s s2 s5 s7 s9 s13 s14 s15 s16 s17 ∧ wx = wc)
   case first =>
    go_wp2_with fail
    go_loop [2, 5, 7, 9, 13, 14, 15, 16, 17] (fun v2 v5 v7 v9 v13 v14 v15 v16 v17 => LoopAt false s v2 v5 v7 v9 v13 v14 v15 v16 v17) (fun _ _ v _ _ _ _ _ _ => s.size - (intOf v).toNat)
    case atStart => rw [HPP.out]; exact loop_start false s HDL.out
    case round =>
     obtain ⟨j, st, dpv, rfl, rfl, rfl, rfl, rfl, rfl, rfl, h16, rfl, hat⟩ := hrel
     obtain ⟨nm, hnm⟩ : ∃ nm, nm = min st.ds.length (cap false) := ⟨_, rfl⟩
     rw [← hnm] at h16
     subst h16
     have HNM := Lib.hid hnm
     have HAT := Lib.hid hat
     have hjs := hat.le
     have hlen := hat.len
     have hlo := hat.lo
     have hhi := hat.hi
     have hnm2 : nm ≤ 19 := by rw [hnm]; unfold cap; simp; omega
     have HMB := Lib.hid (mantOf_lt hat.ok.digits)
     clear hat hnm
     by_cases hlt : j < s.size
     ·by_cases c1 : bt s j = 95
      ·have k1 : (bt s j == 95) = true := beq_iff_eq.2 c1
       have HN := Lib.hid (HAT.out.under hlt c1)
       clear c1
       go_wp2_with fail
       go_round
       case rel => exact ⟨j + 1, ⟨st.ds, st.sm, st.dot, true, st.dp⟩, dpv, rfl, rfl, by go_num, rfl, rfl, rfl, rfl, by rw [HNM.out], rfl, HN.out⟩
       case measure => simp [intOf]; omega
      ·have k1 : (bt s j == 95) = false := beq_eq_false_iff_ne.2 c1
       by_cases c2 : bt s j = 46
       ·have k2 : (bt s j == 46) = true := beq_iff_eq.2 c2
        cases hdot : st.dot with
        | true =>
          have HE := Lib.hid (And.intro HAT.out (HAT.out.stops (stop_point (hex := false) c2 hdot)))
          have HDT := Lib.hid hdot
          clear HAT c1 c2 hdot
          go_wp2_with fail
          go_meet
          case rel => exact ⟨⟨j, st, dpv, rfl, rfl, rfl, rfl, by rw [HDT.out], rfl, rfl, by rw [HNM.out], rfl, HE.out.1, HE.out.2⟩, rfl⟩
         | false =>
          have HN := Lib.hid (HAT.out.point hlt c2 hdot)
          clear c1 c2 hdot
          go_wp2_with fail
          go_round
          case rel => exact ⟨j + 1, ⟨st.ds, st.sm, true, st.us, st.dp⟩, (st.ds.length : Nat), rfl, rfl, by go_num, rfl, rfl, rfl, rfl, by rw [HNM.out], rfl, HN.out⟩
          case measure => simp [intOf]; omega
       ·have k2 : (bt s j == 46) = false := beq_eq_false_iff_ne.2 c2
        by_cases c3 : 48 ≤ bt s j ∧ bt s j ≤ 57
        ·have k3 : decide (48 ≤ bt s j) = true := decide_eq_true c3.1
         have k4 : decide (bt s j ≤ 57) = true := decide_eq_true c3.2
         obtain ⟨d, hd⟩ : ∃ d, d = (bt s j - 48).toNat := ⟨_, rfl⟩
         have hst := stepC_digit (st := st) c1 c2 (dig_dec (hex := false) c3)
         rw [← hd] at hst
         have k5 : (bt s j - 48) % 256 = (d : Int) := by omega
         have hd9 : d ≤ 9 := by omega
         by_cases hz : d = 0 ∧ st.ds.length = 0
         ·have k6 : (bt s j == 48) = true := beq_iff_eq.2 (by omega)
          have k7 : ((st.ds.length : Int) == 0) = true := beq_iff_eq.2 (by omega)
          have HST := Lib.hid hst
          have HZ := Lib.hid hz
          have HN : Hid (StdAt false s (scanAt false s (digFrom s) sc0) ⟨st.ds, true, st.dot, st.us, if st.dot then st.dp - 1 else st.dp⟩ (j + 1) (dpv - 1)) := HAT.out.zero hlt (by rw [← HZ.out.1]; exact HST.out) HZ.out.2
          clear c1 c2 c3 hd hz hst k5 hd9
          go_wp2_with fail
          go_round
          case rel => exact ⟨j + 1, ⟨st.ds, true, st.dot, st.us, if st.dot then st.dp - 1 else st.dp⟩, dpv - 1, rfl, rfl, by go_num, rfl, rfl, rfl, rfl, by rw [HNM.out], rfl, HN.out⟩
          case measure => simp [intOf]; omega
         ·have HN := Lib.hid (HAT.out.digit hlt hst (fun h => hz ⟨h.2, h.1⟩))
          have hcs : ((bt s j == 48) = false ∧ True) ∨ ((bt s j == 48) = true ∧ ((st.ds.length : Int) == 0) = false) := by
           by_cases e : bt s j = 48
           ·exact Or.inr ⟨beq_iff_eq.2 e, beq_eq_false_iff_ne.2 (fun e2 => hz ⟨by omega, by omega⟩)⟩
           ·exact Or.inl ⟨beq_eq_false_iff_ne.2 e, trivial⟩
          have hlm : st.ds.length ≤ 100000 := by omega
          by_cases hroom : st.ds.length < 19
          ·have HK := Lib.hid (show mantOf false (st.ds ++ [d]) = mantOf false st.ds * 10 + d ∧ truncOf false (st.ds ++ [d]) = truncOf false st.ds from ⟨mantOf_kept hroom, truncOf_kept hroom⟩)
           have hmr : mantOf false st.ds ≤ 999999999999999999 := mantOf_room HAT.out.ok hroom
           have k8 : nm < 19 := by rw [HNM.out]; unfold cap; simp; omega
           have HNM2 : Hid (min (st.ds ++ [d]).length (cap false) = nm + 1) := by show _ = _; rw [HNM.out, List.length_append]; unfold cap; simp; omega
           have HLN : Hid ((st.ds ++ [d]).length = st.ds.length + 1) := by show _ = _; simp
           clear c1 c2 c3 hd hz hst hroom
           generalize mantOf false st.ds = mm at *
           generalize truncOf false st.ds = tt at *
           rcases hcs with ⟨k6, k7⟩ | ⟨k6, k7⟩
           all_goals
           go_wp2_with fail
           go_round
           case rel => exact ⟨j + 1, ⟨st.ds ++ [d], true, st.dot, st.us, if st.dot then st.dp else st.dp + 1⟩, dpv, by rw [HK.out.1]; go_num, by rw [HK.out.2], by go_num, rfl, rfl, rfl, by rw [HLN.out]; go_num, by rw [HNM2.out]; go_num, rfl, HN.out⟩
           case measure => simp [intOf]; omega
          ·have HK := Lib.hid (show mantOf false (st.ds ++ [d]) = mantOf false st.ds ∧ truncOf false (st.ds ++ [d]) = (truncOf false st.ds || d != 0) from ⟨mantOf_left (by unfold cap; simp; omega), truncOf_left (by unfold cap; simp; omega)⟩)
           have k8 : ¬ nm < 19 := by rw [HNM.out]; unfold cap; simp; omega
           have HNM2 : Hid (min (st.ds ++ [d]).length (cap false) = nm) := by show _ = _; rw [HNM.out, List.length_append]; unfold cap; simp; omega
           have HLN : Hid ((st.ds ++ [d]).length = st.ds.length + 1) := by show _ = _; simp
           have hdz : (d = 0 ∧ (bt s j != 48) = false) ∨ (d ≠ 0 ∧ (bt s j != 48) = true) := by
            by_cases e : d = 0
            ·exact Or.inl ⟨e, by simp; omega⟩
            ·exact Or.inr ⟨e, by simp; omega⟩
           clear c1 c2 c3 hd hz hst hroom
           generalize mantOf false st.ds = mm at *
           generalize truncOf false st.ds = tt at *
           rcases hdz with ⟨e, k9⟩ | ⟨e, k9⟩
           ·have HTT : Hid ((tt || d != 0) = tt) := by show _ = _; rw [e]; simp
            clear e
            rcases hcs with ⟨k6, k7⟩ | ⟨k6, k7⟩
            all_goals
             go_wp2_with fail
             go_round
             case rel => exact ⟨j + 1, ⟨st.ds ++ [d], true, st.dot, st.us, if st.dot then st.dp else st.dp + 1⟩, dpv, by rw [HK.out.1], by rw [HK.out.2, HTT.out], by go_num, rfl, rfl, rfl, by rw [HLN.out]; go_num, by rw [HNM2.out], rfl, HN.out⟩
             case measure => simp [intOf]; omega
           ·have HTT : Hid ((tt || d != 0) = true) := by show _ = _; simp [e]
            clear e
            rcases hcs with ⟨k6, k7⟩ | ⟨k6, k7⟩
            all_goals
             go_wp2_with fail
             go_round
             case rel => exact ⟨j + 1, ⟨st.ds ++ [d], true, st.dot, st.us, if st.dot then st.dp else st.dp + 1⟩, dpv, by rw [HK.out.1], by rw [HK.out.2, HTT.out], by go_num, rfl, rfl, rfl, by rw [HLN.out]; go_num, by rw [HNM2.out], rfl, HN.out⟩
             case measure => simp [intOf]; omega
        ·have hcs : (decide (48 ≤ bt s j) = false ∧ True) ∨ (decide (48 ≤ bt s j) = true ∧ decide (bt s j ≤ 57) = false) := by
          by_cases e : 48 ≤ bt s j
          ·exact Or.inr ⟨decide_eq_true e, decide_eq_false (fun e2 => c3 ⟨e, e2⟩)⟩
          ·exact Or.inl ⟨decide_eq_false e, trivial⟩
         have HE := Lib.hid (And.intro HAT.out (HAT.out.stops (stop_other (hex := false) c1 c2 c3 (by simp))))
         clear HAT c1 c2 c3
         rcases hcs with ⟨k3, k4⟩ | ⟨k3, k4⟩
         all_goals
          go_wp2_with fail
          go_meet
          case rel => exact ⟨⟨j, st, dpv, rfl, rfl, rfl, rfl, rfl, rfl, rfl, by rw [HNM.out], rfl, HE.out.1, HE.out.2⟩, rfl⟩
     ·have hj : j = s.size := by omega
      subst hj
      have HE := Lib.hid (And.intro HAT.out HAT.out.ends)
      clear HAT
      go_wp2_with fail
      go_meet
      case rel => exact ⟨⟨s.size, st, dpv, rfl, rfl, rfl, rfl, rfl, rfl, rfl, by rw [HNM.out], rfl, HE.out.1, HE.out.2⟩, rfl⟩

   case rest =>
    obtain ⟨⟨j, st, dpv, rfl, rfl, rfl, rfl, rfl, rfl, rfl, h16, rfl, hat, hE⟩, rfl⟩ := hcut
    obtain ⟨nm, hnm⟩ : ∃ nm, nm = min st.ds.length (cap false) := ⟨_, rfl⟩
    rw [← hnm] at h16
    subst h16
    have HNM := Lib.hid hnm
    have HAT := Lib.hid hat
    have hjs := hat.le
    have hlen := hat.len
    have hlo := hat.lo
    have hhi := hat.hi
    have hdp1 := (scan_low hE).1
    have hdp2 := hat.ok.hi
    have hdp3 : -100000 ≤ st.dp := by omega
    have hdp4 : st.dp ≤ 100000 := by omega
    have hnm2 : nm ≤ 19 := by rw [hnm]; unfold cap; simp; omega
    have HE2 : Hid (scanAt (hexAt s) s (digFrom s) sc0 = (j, st)) := by show _ = _; rw [HHX.out]; exact hE
    clear hat hnm hE hdp1 hdp2
    cases hsm : st.sm with
    | false =>
     have HB : Hid (ReadBad s) := Or.inl (readOf_sm HE2.out hsm)
     clear hsm
     go_wp2_with (go_at_call 183; (with_reducible refine (std_low _ _).mono ?_); rintro e w1 ⟨rfl, rfl⟩)
     try rw [Exit.noGoto_ret]
     have hr : Tryz.f154.results = #[.tmp 2, .tmp 3, .tmp 4, .tmp 5, .tmp 6, .tmp 7, .tmp 8] := rfl
     refine bodyPost_ret (v := .tuple #[.int .u64 (mantOf false st.ds : Nat), .int .i64 0, .bool (negB s), .bool (truncOf false st.ds), .bool false, .int .i64 (j : Nat), .bool false]) (by simp [results, hr, go_sem]) rfl ⟨Or.inl ⟨HB.out, _, _, _, _, _, _, rfl⟩, rfl⟩
    | true =>
     have HSM := Lib.hid hsm
     clear hsm
     obtain ⟨dot, hdot⟩ : ∃ dot, dot = st.dot := ⟨_, rfl⟩
     rw [← hdot]
     have HDT := Lib.hid hdot
     clear hdot
     go_upto_if 142 with fail
     go_cut [17] from 141 to 143 (fun s17 wx => s17 = .int .i64 st.dp ∧ wx = wc)
     case first =>
      cases dot with
      | true =>
       have HV := Lib.hid (HAT.out.dot HDT.out.symm)
       go_wp2_with fail
       go_meet
       case rel => exact ⟨by rw [HV.out], rfl⟩
      | false =>
       have HV := Lib.hid (HAT.out.ok.whole HDT.out.symm)
       go_wp2_with fail
       go_meet
       case rel => exact ⟨by rw [HV.out], rfl⟩
     case rest =>
      obtain ⟨rfl, rfl⟩ := hcut
      obtain ⟨he, hhe⟩ : ∃ he, he = decide (j < s.size ∧ lowB (bt s j) = 101) := ⟨_, rfl⟩
      have HHE := Lib.hid hhe
      clear hhe
      go_upto_region 57 with fail
      go_cut [161] from 150 to 161 (fun s161 wx => s161 = .bool he ∧ wx = wc)
      case first =>
       by_cases c1 : j < s.size
       ·have k1 : decide ((j : Int) < (s.size : Int)) = true := decide_eq_true (by omega)
        by_cases c2 : lowB (bt s j) = 101
        ·have k2 : (lowB (bt s j) == 101) = true := beq_iff_eq.2 c2
         have HV : Hid (he = true) := by show _ = _; rw [HHE.out]; exact decide_eq_true ⟨c1, c2⟩
         clear c2
         go_wp2_with (go_at_call 183; (with_reducible refine (std_low _ _).mono ?_); rintro e w1 ⟨rfl, rfl⟩)
         go_meet
         case rel => exact ⟨by rw [HV.out], rfl⟩
        ·have k2 : (lowB (bt s j) == 101) = false := beq_eq_false_iff_ne.2 c2
         have HV : Hid (he = false) := by show _ = _; rw [HHE.out]; exact decide_eq_false (fun h => c2 h.2)
         clear c2
         go_wp2_with (go_at_call 183; (with_reducible refine (std_low _ _).mono ?_); rintro e w1 ⟨rfl, rfl⟩)
         go_meet
         case rel => exact ⟨by rw [HV.out], rfl⟩
       ·have k1 : decide ((j : Int) < (s.size : Int)) = false := decide_eq_false (by omega)
        have HV : Hid (he = false) := by show _ = _; rw [HHE.out]; exact decide_eq_false (fun h => c1 h.1)
        go_wp2_with (go_at_call 183; (with_reducible refine (std_low _ _).mono ?_); rintro e w1 ⟨rfl, rfl⟩)
        go_meet
        case rel => exact ⟨by rw [HV.out], rfl⟩
      case rest =>
       obtain ⟨rfl, rfl⟩ := hcut
       go_upto_if 161 with fail
       go_cut [7, 9, 17, 19, 20] from 161 to 239 (fun s7 s9 s17 s19 s20 wx => (∃ (j' : Nat) (ex : Int) (us' : Bool), s7 = .int .i64 (j' : Nat) ∧ s9 = .bool us' ∧ s17 = .int .i64 (st.dp + ex) ∧ TailIs false s j st.us j' ex us') ∧ wx = wc)
       case first =>
        cases he with
        | false =>
         have HV := Lib.hid (show ¬ (j < s.size ∧ lowB (bt s j) = (if false then 112 else 101)) from of_decide_eq_false (p := j < s.size ∧ lowB (bt s j) = 101) HHE.out.symm)
         have HTL : Hid (TailIs false s j st.us j 0 st.us) := ⟨by rw [tail_none HV.out]; rfl, Nat.le_refl _, hjs, by omega, by omega⟩
         go_wp2_with (go_at_call 183; (with_reducible refine (std_low _ _).mono ?_); rintro e w1 ⟨rfl, rfl⟩)
         go_meet
         case rel => exact ⟨⟨j, 0, st.us, rfl, rfl, by go_num, HTL.out⟩, rfl⟩
        | true =>
         have HV := Lib.hid (show j < s.size ∧ lowB (bt s j) = (if false then 112 else 101) from of_decide_eq_true (p := j < s.size ∧ lowB (bt s j) = 101) HHE.out.symm)
         by_cases c1 : j + 1 < s.size
         ·have k1 : decide ((s.size : Int) ≤ (j : Int) + 1) = false := decide_eq_false (by omega)
          obtain ⟨j2, hj2⟩ : ∃ j2, j2 = expFromAt s j := ⟨_, rfl⟩
          obtain ⟨en, hen⟩ : ∃ en, en = expNeg s j := ⟨_, rfl⟩
          have HJ2 := Lib.hid hj2
          have HEN := Lib.hid hen
          obtain ⟨sg, hsg⟩ : ∃ sg : Int, sg = if en then -1 else 1 := ⟨_, rfl⟩
          have HSG := Lib.hid hsg
          clear hsg
          have hj2a : j + 1 ≤ j2 := by rw [hj2]; unfold expFromAt; split <;> omega
          have hj2b : j2 ≤ s.size := by rw [hj2]; unfold expFromAt; split <;> omega
          clear hj2 hen
          go_upto_block 4 with fail
          go_cut [7, 19] from 171 to 178 (fun s7 s19 wx => s7 = .int .i64 (j2 : Nat) ∧ s19 = .int .i64 sg ∧ wx = wc)
          case first =>
           by_cases c2 : bt s (j + 1) = 43
           ·have k2 : (bt s (j + 1) == 43) = true := beq_iff_eq.2 c2
            have HW : Hid (j2 = j + 2 ∧ en = false) := ⟨by rw [HJ2.out]; unfold expFromAt; rw [if_pos ⟨c1, Or.inl c2⟩], by rw [HEN.out]; unfold expNeg; exact decide_eq_false (by omega)⟩
            clear c2
            go_wp2_with fail
            go_meet
            case rel => exact ⟨by rw [HW.out.1]; go_num, by rw [HSG.out, HW.out.2]; rfl, rfl⟩
           ·have k2 : (bt s (j + 1) == 43) = false := beq_eq_false_iff_ne.2 c2
            by_cases c3 : bt s (j + 1) = 45
            ·have k3 : (bt s (j + 1) == 45) = true := beq_iff_eq.2 c3
             have HW : Hid (j2 = j + 2 ∧ en = true) := ⟨by rw [HJ2.out]; unfold expFromAt; rw [if_pos ⟨c1, Or.inr c3⟩], by rw [HEN.out]; unfold expNeg; exact decide_eq_true ⟨c1, c3⟩⟩
             clear c2 c3
             go_wp2_with fail
             go_meet
             case rel => exact ⟨by rw [HW.out.1]; go_num, by rw [HSG.out, HW.out.2]; rfl, rfl⟩
            ·have k3 : (bt s (j + 1) == 45) = false := beq_eq_false_iff_ne.2 c3
             have HW : Hid (j2 = j + 1 ∧ en = false) := ⟨by rw [HJ2.out]; unfold expFromAt; rw [if_neg (by omega)], by rw [HEN.out]; unfold expNeg; exact decide_eq_false (by omega)⟩
             clear c2 c3
             go_wp2_with fail
             go_meet
             case rel => exact ⟨by rw [HW.out.1]; go_num, by rw [HSG.out, HW.out.2]; rfl, rfl⟩
          case rest =>
           obtain ⟨rfl, rfl, rfl⟩ := hcut
           obtain ⟨nd, hnd⟩ : ∃ nd, nd = decide (¬ (j2 < s.size ∧ 48 ≤ bt s j2 ∧ bt s j2 ≤ 57)) := ⟨_, rfl⟩
           have HND := Lib.hid hnd
           clear hnd
           go_upto_region 67 with fail
           go_cut [194] from 179 to 194 (fun s194 wx => s194 = .bool nd ∧ wx = wc)
           case first =>
            by_cases c2 : j2 < s.size
            ·have k2 : decide (s.size ≤ j2) = false := decide_eq_false (by omega)
             by_cases c3 : bt s j2 < 48
             ·have k3 : decide (bt s j2 < 48) = true := decide_eq_true c3
              have HW : Hid (nd = true) := by show _ = _; rw [HND.out]; exact decide_eq_true (by omega)
              clear c3
              go_wp2_with fail
              go_meet
              case rel => exact ⟨by rw [HW.out], rfl⟩
             ·have k3 : decide (bt s j2 < 48) = false := decide_eq_false c3
              by_cases c4 : 57 < bt s j2
              ·have k4 : decide (57 < bt s j2) = true := decide_eq_true c4
               have HW : Hid (nd = true) := by show _ = _; rw [HND.out]; exact decide_eq_true (by omega)
               clear c3 c4
               go_wp2_with fail
               go_meet
               case rel => exact ⟨by rw [HW.out], rfl⟩
              ·have k4 : decide (57 < bt s j2) = false := decide_eq_false c4
               have HW : Hid (nd = false) := by show _ = _; rw [HND.out]; exact decide_eq_false (by omega)
               clear c3 c4
               go_wp2_with fail
               go_meet
               case rel => exact ⟨by rw [HW.out], rfl⟩
            ·have k2 : decide (s.size ≤ j2) = true := decide_eq_true (by omega)
             have HW : Hid (nd = true) := by show _ = _; rw [HND.out]; exact decide_eq_true (by omega)
             go_wp2_with fail
             go_meet
             case rel => exact ⟨by rw [HW.out], rfl⟩
           case rest =>
            obtain ⟨rfl, rfl⟩ := hcut
            cases nd with
            | true =>
             have HB : Hid (ReadBad s) := Or.inl (by rw [readOf_tail HE2.out HSM.out, HHX.out, tail_bad HV.out (by rw [← HJ2.out]; exact of_decide_eq_true HND.out.symm)]; rfl)
             go_wp2_with (go_at_call 183; (with_reducible refine (std_low _ _).mono ?_); rintro e w1 ⟨rfl, rfl⟩)
             try rw [Exit.noGoto_ret]
             have hr : Tryz.f154.results = #[.tmp 2, .tmp 3, .tmp 4, .tmp 5, .tmp 6, .tmp 7, .tmp 8] := rfl
             refine bodyPost_ret (v := .tuple #[.int .u64 (mantOf false st.ds : Nat), .int .i64 0, .bool (negB s), .bool (truncOf false st.ds), .bool false, .int .i64 (j2 : Nat), .bool false]) (by simp [results, hr, go_sem]) rfl ⟨Or.inl ⟨HB.out, _, _, _, _, _, _, rfl⟩, rfl⟩
            | false =>
             have HG := Lib.hid (show j2 < s.size ∧ 48 ≤ bt s j2 ∧ bt s j2 ≤ 57 from Classical.not_not.1 (of_decide_eq_false (p := ¬ (j2 < s.size ∧ 48 ≤ bt s j2 ∧ bt s j2 ≤ 57)) HND.out.symm))
             obtain ⟨F, hF⟩ : ∃ F, F = expAt s j2 0 st.us := ⟨_, rfl⟩
             have HF := Lib.hid hF
             clear hF
             go_upto_block 5 with fail
             go_cut [7, 9, 20] from 195 to 232 (fun s7 s9 s20 wx => ExpOut s F j s7 s9 s20 ∧ wx = wc)
             case first =>
              go_wp2_with fail
              go_loop [7, 9, 20] (fun v7 v9 v20 => ExpAt s F j v7 v9 v20) (fun v _ _ => s.size - (intOf v).toNat)
              case atStart => exact ⟨j2, 0, st.us, rfl, rfl, rfl, hj2b, by omega, by omega, HF.out.symm⟩
              case round =>
               obtain ⟨i, e, us, rfl, rfl, rfl, hi1, hi2, hi3, hF⟩ := hrel
               have HFF := Lib.hid hF
               clear hF
               by_cases hlt : i < s.size
               ·have k1 : decide ((i : Int) < (s.size : Int)) = true := decide_eq_true (by omega)
                by_cases c2 : 48 ≤ bt s i ∧ bt s i ≤ 57
                ·have k2 : decide (48 ≤ bt s i) = true := decide_eq_true c2.1
                 have k3 : decide (bt s i ≤ 57) = true := decide_eq_true c2.2
                 have k4 : (bt s i == 95) = false := beq_eq_false_iff_ne.2 (by omega)
                 obtain ⟨d, hd⟩ : ∃ d, d = (bt s i - 48).toNat := ⟨_, rfl⟩
                 have eb : bt s i = (d : Int) + 48 := by omega
                 have hd9 : d ≤ 9 := by omega
                 have HN : Hid (expAt s (i + 1) (if e < 10000 then e * 10 + d else e) us = F) := by show _ = _; rw [hd, ← expAt_digit hlt c2]; exact HFF.out
                 have k5 : bt s i ≤ 57 := c2.2
                 have k6 : 48 ≤ bt s i := c2.1
                 have HEB := Lib.hid eb
                 clear c2 hd eb
                 by_cases hb10 : e < 10000
                 ·have k7 : decide ((e : Int) < 10000) = true := decide_eq_true (by omega)
                  go_wp2_with fail
                  go_round
                  case rel => exact ⟨i + 1, e * 10 + d, us, by go_num, rfl, by rw [HEB.out]; go_num, by omega, by omega, by omega, by have := HN.out; rwa [if_pos hb10] at this⟩
                  case measure => simp [intOf]; omega
                 ·have k7 : decide ((e : Int) < 10000) = false := decide_eq_false (by omega)
                  go_wp2_with fail
                  go_round
                  case rel => exact ⟨i + 1, e, us, by go_num, rfl, rfl, by omega, by omega, by omega, by have := HN.out; rwa [if_neg hb10] at this⟩
                  case measure => simp [intOf]; omega
                ·have hcs : (decide (48 ≤ bt s i) = false ∧ True) ∨ (decide (48 ≤ bt s i) = true ∧ decide (bt s i ≤ 57) = false) := by
                  by_cases e : 48 ≤ bt s i
                  ·exact Or.inr ⟨decide_eq_true e, decide_eq_false (fun e2 => c2 ⟨e, e2⟩)⟩
                  ·exact Or.inl ⟨decide_eq_false e, trivial⟩
                 by_cases c3 : bt s i = 95
                 ·have k4 : (bt s i == 95) = true := beq_iff_eq.2 c3
                  have HN : Hid (expAt s (i + 1) e true = F) := by show _ = _; rw [← expAt_under (us := us) hlt c3]; exact HFF.out
                  clear c2 c3
                  rcases hcs with ⟨k2, k3⟩ | ⟨k2, k3⟩
                  all_goals
                   go_wp2_with fail
                   go_round
                   case rel => exact ⟨i + 1, e, true, by go_num, rfl, rfl, by omega, by omega, by omega, HN.out⟩
                   case measure => simp [intOf]; omega
                 ·have k4 : (bt s i == 95) = false := beq_eq_false_iff_ne.2 c3
                  have HN : Hid (F = (i, e, us)) := by show _ = _; rw [← HFF.out]; exact expAt_stop c2 c3
                  clear c2 c3
                  rcases hcs with ⟨k2, k3⟩ | ⟨k2, k3⟩
                  all_goals
                   go_wp2_with fail
                   go_meet
                   case rel => exact ⟨⟨i, e, us, rfl, rfl, rfl, hi1, hi2, hi3, HN.out⟩, rfl⟩
               ·have k1 : decide ((i : Int) < (s.size : Int)) = false := decide_eq_false (by omega)
                have HN : Hid (F = (i, e, us)) := by show _ = _; rw [← HFF.out]; exact expAt_end (by omega)
                go_wp2_with fail
                go_meet
                case rel => exact ⟨⟨i, e, us, rfl, rfl, rfl, hi1, hi2, hi3, HN.out⟩, rfl⟩
             case rest =>
              obtain ⟨⟨j3, e, us3, rfl, rfl, rfl, q1, q2, q3, hF2⟩, rfl⟩ := hcut
              have HTL : Hid (TailIs false s j st.us j3 (if en then -(e : Int) else e) us3) :=
               ⟨by rw [HEN.out]; exact tail_good HV.out (by rw [← HJ2.out]; exact HG.out) (by rw [← HJ2.out, ← HF.out]; exact hF2), q2, q1, by split <;> omega, by split <;> omega⟩
              clear hF2
              cases en
              ·have esg : sg = 1 := HSG.out
               clear HSG
               subst esg
               go_wp2_with fail
               go_meet
               case rel => exact ⟨⟨j3, _, us3, rfl, rfl, by simp, HTL.out⟩, rfl⟩
              ·have esg : sg = -1 := HSG.out
               clear HSG
               subst esg
               go_wp2_with fail
               go_meet
               case rel => exact ⟨⟨j3, _, us3, rfl, rfl, by simp, HTL.out⟩, rfl⟩
         ·have k1 : decide ((s.size : Int) ≤ (j : Int) + 1) = true := decide_eq_true (by omega)
          have HB : Hid (ReadBad s) := Or.inl (by rw [readOf_tail HE2.out HSM.out, HHX.out, tail_bad HV.out (by unfold expFromAt; rw [if_neg (by omega)]; omega)]; rfl)
          go_wp2_with (go_at_call 183; (with_reducible refine (std_low _ _).mono ?_); rintro e w1 ⟨rfl, rfl⟩)
          try rw [Exit.noGoto_ret]
          have hr : Tryz.f154.results = #[.tmp 2, .tmp 3, .tmp 4, .tmp 5, .tmp 6, .tmp 7, .tmp 8] := rfl
          refine bodyPost_ret (v := .tuple #[.int .u64 (mantOf false st.ds : Nat), .int .i64 0, .bool (negB s), .bool (truncOf false st.ds), .bool false, .int .i64 ((j + 1 : Nat) : Int), .bool false]) (by simp [results, hr, go_sem]) rfl ⟨Or.inl ⟨HB.out, _, _, _, _, _, _, rfl⟩, rfl⟩
       case rest =>
        obtain ⟨⟨j', ex, us', rfl, rfl, rfl, htl⟩, rfl⟩ := hcut
        have HTL := Lib.hid htl
        have q1 := htl.lo
        have q2 := htl.hi
        have q3 := htl.e1
        have q4 := htl.e2
        clear htl
        have HRO : Hid (readOf s = some ⟨false, st, j', ex, us'⟩) := by show _ = _; rw [readOf_tail HE2.out HSM.out, HHX.out, HTL.out.eq]; rfl
        obtain ⟨mm, hmm⟩ : ∃ mm, mm = mantOf false st.ds := ⟨_, rfl⟩
        obtain ⟨xx, hxx⟩ : ∃ xx, xx = expOfRead ⟨false, st, j', ex, us'⟩ := ⟨_, rfl⟩
        have HMM := Lib.hid hmm
        have HXX := Lib.hid hxx
        rw [← hmm]
        clear hmm hxx
        go_upto_if 241 with fail
        go_cut [3] from 240 to 244 (fun s3 wx => s3 = .int .i64 xx ∧ wx = wc)
        case first =>
         by_cases c1 : mm = 0
         ·have k1 : ((mm : Int) != 0) = false := by simp; omega
          have HW : Hid (xx = 0) := by show _ = _; rw [HXX.out]; unfold expOfRead; rw [if_pos (by rw [← HMM.out]; exact c1)]
          go_wp2_with fail
          go_meet
          case rel => exact ⟨by rw [HW.out], rfl⟩
         ·have k1 : ((mm : Int) != 0) = true := by simp; omega
          have HW : Hid (xx = st.dp + ex - nm) := by show _ = _; rw [HXX.out]; unfold expOfRead; rw [if_neg (by rw [← HMM.out]; exact c1)]; simp only [← HNM.out]; simp
          clear c1
          go_wp2_with fail
          go_meet
          case rel => exact ⟨by rw [HW.out], rfl⟩
        case rest =>
         obtain ⟨rfl, rfl⟩ := hcut
         have KU : Hid (∀ w, Calls Tryz.prog 184 #[.string (s.extract 0 j')] w fun e w' => e = .returned (.bool (usOK (s.extract 0 j'))) ∧ w = w') := fun w => std_usok _ w (by simp; omega)
         have hj0 : (0 : Int) ≤ (j' : Int) := by omega
         have hjS : (j' : Int) ≤ (s.size : Int) := by omega
         have hr : Tryz.f154.results = #[.tmp 2, .tmp 3, .tmp 4, .tmp 5, .tmp 6, .tmp 7, .tmp 8] := rfl
         cases us' with
         | false =>
          have HGD : Hid (ReadGood s ⟨false, st, j', ex, false⟩) := ⟨HRO.out, fun h => by cases h⟩
          go_wp2_with fail
          try rw [Exit.noGoto_ret]
          refine bodyPost_ret (v := .tuple #[.int .u64 (mm : Nat), .int .i64 xx, .bool (negB s), .bool (truncOf false st.ds), .bool false, .int .i64 (j' : Nat), .bool true]) (by simp [results, hr, go_sem]) rfl ⟨Or.inr ⟨_, HGD.out, by rw [HMM.out, HXX.out]⟩, rfl⟩
         | true =>
          cases hu : usOK (s.extract 0 j') with
          | true =>
           rw [hu] at KU
           have HGD : Hid (ReadGood s ⟨false, st, j', ex, true⟩) := ⟨HRO.out, fun _ => hu⟩
           clear hu
           go_wp2_with (go_at_call 184; (with_reducible refine (KU.out _).mono ?_); rintro e w1 ⟨rfl, rfl⟩)
           try rw [Exit.noGoto_ret]
           refine bodyPost_ret (v := .tuple #[.int .u64 (mm : Nat), .int .i64 xx, .bool (negB s), .bool (truncOf false st.ds), .bool false, .int .i64 (j' : Nat), .bool true]) (by simp [results, hr, go_sem]) rfl ⟨Or.inr ⟨_, HGD.out, by rw [HMM.out, HXX.out]⟩, rfl⟩
          | false =>
           rw [hu] at KU
           have HB : Hid (ReadBad s) := Or.inr ⟨_, HRO.out, rfl, hu⟩
           clear hu
           go_wp2_with (go_at_call 184; (with_reducible refine (KU.out _).mono ?_); rintro e w1 ⟨rfl, rfl⟩)
           try rw [Exit.noGoto_ret]
           refine bodyPost_ret (v := .tuple #[.int .u64 (mm : Nat), .int .i64 xx, .bool (negB s), .bool (truncOf false st.ds), .bool false, .int .i64 (j' : Nat), .bool false]) (by simp [results, hr, go_sem]) rfl ⟨Or.inl ⟨HB.out, _, _, _, _, _, _, rfl⟩, rfl⟩

end Go.Proofs.YtgolhmiocjpohaaGreatDoor
