/- A text read into a slow decimal (160). No condition beyond those on the block and on the text. The light rule on underscores (173, 146), walked. No condition beyond the text's length. -/
import Derived.Deep.LoopGhost
import Derived.Deep.CutBlock
import Derived.Test.YtgolhmiocjpohaaGreatDoorGen6
import Derived.Test.YtgolhmiocjpohaaGreatDoorRd1
import Derived.Test.YtgolhmiocjpohaaGreatDoorUc1
import Derived.Test.YtgolhmiocjpohaaGreatDoorLight4
set_option linter.unusedVariables false
set_option linter.unusedSimpArgs false
namespace Go.Proofs.YtgolhmiocjpohaaGreatDoor
open Go.RowKit Go.PlainAid

/-- How the reading stands. -/
def SetAt (s : ByteArray) (b : Nat) (neg : Bool) (w wx : World) (v5 v6 v7 : Value) : Prop :=
 ∃ (j : Nat) (st : Sc) (dpv : Int) (g : Nat → Nat), v5 = .int .i64 (j : Nat) ∧ v6 = .bool st.dot ∧ v7 = .bool st.sm ∧ StdAt false s (scanAt false s (digFrom s) sc0) st j dpv ∧
  RDec wx b g (st.ds.length : Nat) dpv neg false ∧ (∀ i, i < st.ds.length → g i = 48 + dAt st.ds i) ∧ Only b w wx

/-- How it stands behind the digits. -/
def SetOut (s : ByteArray) (b : Nat) (neg : Bool) (w wx : World) (v5 v6 v7 : Value) : Prop :=
 ∃ (j : Nat) (st : Sc) (dpv : Int) (g : Nat → Nat), v5 = .int .i64 (j : Nat) ∧ v6 = .bool st.dot ∧ v7 = .bool st.sm ∧ StdAt false s (scanAt false s (digFrom s) sc0) st j dpv ∧
  RDec wx b g (st.ds.length : Nat) dpv neg false ∧ (∀ i, i < st.ds.length → g i = 48 + dAt st.ds i) ∧ Only b w wx ∧ scanAt false s (digFrom s) sc0 = (j, st)

/-- How the exponent's digits stand. -/
def SetExp (s : ByteArray) (F : Nat × Nat × Bool) (lo : Nat) (v5 v9 : Value) : Prop :=
 ∃ (j e : Nat) (us : Bool), v5 = .int .i64 (j : Nat) ∧ v9 = .int .i64 (e : Nat) ∧ j ≤ s.size ∧ lo ≤ j ∧ e ≤ 99999 ∧ expAt s j e us = F

set_option maxHeartbeats 3200000 in
set_option maxRecDepth 100000 in
theorem slow_set (s : ByteArray) (w : World) (b : Nat) (g0 : Nat → Nat) (neg0 tr0 : Bool) (R : Read) (hs : s.size ≤ 400) (hp : 0 < s.size) (hx : hexAt s = false) (hR : readOf s = some R) (hst : R.stop = s.size) (h : RDec w b g0 0 0 neg0 tr0) :
  Calls Tryz.prog 160 #[.pointer (some ⟨b, 0, none⟩), .string s] w fun e w' => e = .returned (.bool true) ∧ SDec w' b R.st.ds (R.st.dp + R.ex) (negB s) false ∧ Only b w w' := by
 have hb := get_bt s
 obtain ⟨p, hpp⟩ : ∃ p, p = signLen s := ⟨_, rfl⟩
 have HP := Lib.hid hpp
 have HDF : Hid (digFrom s = p) := by show _ = _; unfold digFrom; rw [hx, ← hpp]; rfl
 have HX := Lib.hid hx
 have HKEY : Hid (∀ j st, scanAt false s (digFrom s) sc0 = (j, st) → st.sm = true ∧ R.st = st ∧ tailAt false s j st.us = some (s.size, R.ex, R.us)) := by
  intro j st hsc
  have hsc' : scanAt (hexAt s) s (digFrom s) sc0 = (j, st) := by rw [hx]; exact hsc
  cases hsm : st.sm with
  | false => rw [readOf_sm hsc' hsm] at hR; cases hR
  | true =>
   rw [readOf_tail hsc' hsm, hx] at hR
   cases ht : tailAt false s j st.us with
   | none => rw [ht] at hR; cases hR
   | some t =>
    rw [ht] at hR
    simp only [Option.map_some, Option.some.injEq] at hR
    subst hR
    have e : t.1 = s.size := hst
    exact ⟨rfl, rfl, by rw [← e]⟩
 have HNOTAIL : Hid (∀ j st, scanAt false s (digFrom s) sc0 = (j, st) → j < s.size → lowB (bt s j) = 101) := by
  intro j st hsc hj
  apply Classical.byContradiction
  intro hc
  obtain ⟨_, _, h3⟩ := HKEY.out j st hsc
  rw [tail_none (hex := false) (fun hh => hc hh.2)] at h3
  have h4 := congrArg (fun o : Option (Nat × Int × Bool) => o.map (·.1)) h3
  simp at h4
  omega
 have HH := Lib.hid h
 have f2 := h.fr 802
 have f3 := h.fr 803
 have c2 := h.cs
 have c3 := h.ct
 have hp1 : p ≤ 1 := by rw [hpp]; unfold signLen; split <;> omega
 have hp2 : p ≤ s.size := by omega
 have hemp : ¬ s = ByteArray.empty := by intro e; rw [e] at hp; simp at hp
 clear hx hR hst h hpp
 go_enter Tryz.func160, Tryz.ntmps160
 go_upto_block 0 with fail
 go_cut [5] from 8 to 33 (fun s5 wx => s5 = .int .i64 (p : Nat) ∧ RDec wx b g0 0 0 (negB s) false ∧ Only b w wx)
 case first =>
  have HW : Hid (RDec ((w.setCell ⟨b, 802, none⟩ (.bool false)).setCell ⟨b, 803, none⟩ (.bool false)) b g0 0 0 false false ∧ Only b w ((w.setCell ⟨b, 802, none⟩ (.bool false)).setCell ⟨b, 803, none⟩ (.bool false))) :=
   ⟨(HH.out.setS false).setT false, ((Only.refl _ _).set _ _).set _ _⟩
  by_cases k1 : bt s 0 = 43
  ·have e1 : (bt s 0 == 43) = true := beq_iff_eq.2 k1
   have HQ : Hid (p = 1 ∧ negB s = false) := ⟨by rw [HP.out]; unfold signLen; rw [if_pos ⟨hp, Or.inl k1⟩], by unfold negB; exact decide_eq_false (by omega)⟩
   clear k1
   go_wp2_with fail
   go_meet
   case rel => exact ⟨by rw [HQ.out.1]; rfl, by rw [HQ.out.2]; exact HW.out.1, HW.out.2⟩
  ·have e1 : (bt s 0 == 43) = false := beq_eq_false_iff_ne.2 k1
   by_cases k2 : bt s 0 = 45
   ·have e2 : (bt s 0 == 45) = true := beq_iff_eq.2 k2
    have HQ : Hid (p = 1 ∧ negB s = true) := ⟨by rw [HP.out]; unfold signLen; rw [if_pos ⟨hp, Or.inr k2⟩], by unfold negB; exact decide_eq_true ⟨hp, k2⟩⟩
    clear k1 k2
    go_wp2_with fail
    go_meet
    case rel => exact ⟨by rw [HQ.out.1]; rfl, by rw [HQ.out.2]; exact HW.out.1.setS true, HW.out.2.set _ _⟩
   ·have e2 : (bt s 0 == 45) = false := beq_eq_false_iff_ne.2 k2
    have HQ : Hid (p = 0 ∧ negB s = false) := ⟨by rw [HP.out]; unfold signLen; rw [if_neg (by omega)], by unfold negB; exact decide_eq_false (by omega)⟩
    clear k1 k2
    go_wp2_with fail
    go_meet
    case rel => exact ⟨by rw [HQ.out.1]; rfl, by rw [HQ.out.2]; exact HW.out.1, HW.out.2⟩
 case rest =>
  obtain ⟨rfl, hrd, ho⟩ := hcut
  have HRD0 := Lib.hid hrd
  have HO0 := Lib.hid ho
  clear hrd ho f2 f3 c2 c3 HH
  have HDL : Hid (digFrom s ≤ s.size) := by show _ ≤ _; rw [HDF.out]; omega
  go_upto_block 1 with fail
  go_cut [5, 6, 7] from 34 to 106 (fun s5 s6 s7 wx => SetOut s b (negB s) w wx s5 s6 s7)
  case first =>
   go_wp2_with fail
   go_loopw [5, 6, 7] (fun v5 v6 v7 wx => SetAt s b (negB s) w wx v5 v6 v7) (fun v _ _ _ => s.size - (intOf v).toNat)
   case atStart =>
    refine ⟨p, sc0, 0, g0, rfl, rfl, rfl, ?_, HRD0.out, fun i hi => by simp [sc0] at hi, HO0.out⟩
    have := StdAt.start false s HDL.out
    rwa [HDF.out] at this ⊢
   case round =>
    obtain ⟨j, st, dpv, g, rfl, rfl, rfl, hat, hrd, hgd, ho⟩ := hrel
    have HAT := Lib.hid hat
    have HRW := Lib.hid hrd
    have HGD := Lib.hid hgd
    have HO := Lib.hid ho
    have hjs := hat.le
    have hlen := hat.len
    have hlo := hat.lo
    have hhi := hat.hi
    have c0 := hrd.cn
    have c1 := hrd.cp
    have f0 := hrd.fr
    clear hat hgd ho HRD0 HO0
    by_cases hlt : j < s.size
    ·by_cases c1' : bt s j = 95
     ·have k1 : (bt s j == 95) = true := beq_iff_eq.2 c1'
      have HN := Lib.hid (HAT.out.under hlt c1')
      clear c1' hrd
      go_wp2_with fail
      go_roundw
      case rel => exact ⟨j + 1, ⟨st.ds, st.sm, st.dot, true, st.dp⟩, dpv, g, by go_num, rfl, rfl, HN.out, HRW.out, HGD.out, HO.out⟩
      case measure => simp [intOf]; omega
     ·have k1 : (bt s j == 95) = false := beq_eq_false_iff_ne.2 c1'
      by_cases c2 : bt s j = 46
      ·have k2 : (bt s j == 46) = true := beq_iff_eq.2 c2
       cases hdot : st.dot with
       | true =>
        have hE := HAT.out.stops (stop_point (hex := false) c2 hdot)
        have h5 := HNOTAIL.out j st hE hlt
        rw [c2] at h5
        exact absurd h5 (by decide)
       | false =>
        have HN := Lib.hid (HAT.out.point hlt c2 hdot)
        clear c1' c2 hdot hrd
        go_wp2_with fail
        go_roundw
        case rel => exact ⟨j + 1, ⟨st.ds, st.sm, true, st.us, st.dp⟩, (st.ds.length : Nat), g, by go_num, rfl, rfl, HN.out, HRW.out.setP _, HGD.out, HO.out.set _ _⟩
        case measure => simp [intOf]; omega
      ·have k2 : (bt s j == 46) = false := beq_eq_false_iff_ne.2 c2
       by_cases c3 : 48 ≤ bt s j ∧ bt s j ≤ 57
       ·have k3 : decide (48 ≤ bt s j) = true := decide_eq_true c3.1
        have k4 : decide (bt s j ≤ 57) = true := decide_eq_true c3.2
        obtain ⟨d, hd⟩ : ∃ d, d = (bt s j - 48).toNat := ⟨_, rfl⟩
        have hst := stepC_digit (st := st) c1' c2 (dig_dec (hex := false) c3)
        rw [← hd] at hst
        have k5 : bt s j = 48 + (d : Int) := by omega
        have hd9 : d ≤ 9 := by omega
        by_cases hz : d = 0 ∧ st.ds.length = 0
        ·have k6 : (bt s j == 48) = true := beq_iff_eq.2 (by omega)
         have k7 : ((st.ds.length : Int) == 0) = true := beq_iff_eq.2 (by omega)
         have HST := Lib.hid hst
         have HZ := Lib.hid hz
         have HN : Hid (StdAt false s (scanAt false s (digFrom s) sc0) ⟨st.ds, true, st.dot, st.us, if st.dot then st.dp - 1 else st.dp⟩ (j + 1) (dpv - 1)) := HAT.out.zero hlt (by rw [← HZ.out.1]; exact HST.out) HZ.out.2
         clear c1' c2 c3 hd hz hst k5 hd9 hrd
         go_wp2_with fail
         go_roundw
         case rel => exact ⟨j + 1, ⟨st.ds, true, st.dot, st.us, if st.dot then st.dp - 1 else st.dp⟩, dpv - 1, g, by go_num, rfl, rfl, HN.out, HRW.out.setP _, HGD.out, HO.out.set _ _⟩
         case measure => simp [intOf]; omega
        ·have HN := Lib.hid (HAT.out.digit hlt hst (fun h => hz ⟨h.2, h.1⟩))
         have hcs : ((bt s j == 48) = false ∧ True) ∨ ((bt s j == 48) = true ∧ ((st.ds.length : Int) == 0) = false) := by
          by_cases e : bt s j = 48
          ·exact Or.inr ⟨beq_iff_eq.2 e, beq_eq_false_iff_ne.2 (fun e2 => hz ⟨by omega, by omega⟩)⟩
          ·exact Or.inl ⟨beq_eq_false_iff_ne.2 e, trivial⟩
         have hlm : (st.ds.length : Int) < 800 := by omega
         have hcd := hrd.cd (i := st.ds.length) (by omega)
         have K5 := Lib.hid k5
         have HLN : Hid ((st.ds ++ [d]).length = st.ds.length + 1) := by show _ = _; simp
         clear c1' c2 c3 hd hz hst k5 hrd
         have HFIN : Hid (∀ wq, wq.heap = ((wr.setCell ⟨b, st.ds.length, none⟩ (.int .u8 (bt s j))).setCell ⟨b, 800, none⟩ (.int .i64 ((st.ds.length : Int) + 1))).heap → Only b w wq → SetAt s b (negB s) w wq (.int .i64 ((j : Int) + 1)) (.bool st.dot) (.bool true)) := by
          intro wq hq ho
          refine ⟨j + 1, ⟨st.ds ++ [d], true, st.dot, st.us, if st.dot then st.dp else st.dp + 1⟩, dpv, fun t => if t = st.ds.length then 48 + d else g t, by simp, rfl, rfl, HN.out, ?_, fun i hi => ?_, ho⟩
          ·have h1 := (HRW.out.setD (i := st.ds.length) (v := 48 + d) (by omega) (by omega)).setN ((st.ds.length : Int) + 1)
           rw [K5.out] at hq
           have h2 := h1.heap_eq (w' := wq) (by rw [hq]; rfl)
           rw [show (((st.ds ++ [d]).length : Nat) : Int) = (st.ds.length : Int) + 1 by rw [HLN.out]; simp]
           exact h2
          ·rw [HLN.out] at hi
           show (if i = st.ds.length then 48 + d else g i) = _
           rw [dAt_snoc]
           by_cases e : i = st.ds.length
           ·rw [if_pos e, if_neg (by omega), if_pos e]
           ·rw [if_neg e, if_pos (by omega)]
            exact HGD.out i (by omega)
         rcases hcs with ⟨k6, k7⟩ | ⟨k6, k7⟩
         ·go_wp2_with fail
          go_region
          go_wp2_with fail
          exact ⟨HFIN.out _ rfl (((HO.out.set _ _).set _ _).drew), by simp [intOf]; omega⟩
         ·go_wp2_with fail
          go_region
          go_wp2_with fail
          exact ⟨HFIN.out _ rfl (((HO.out.set _ _).set _ _).drew), by simp [intOf]; omega⟩
       ·have hcs : (decide (48 ≤ bt s j) = false ∧ True) ∨ (decide (48 ≤ bt s j) = true ∧ decide (bt s j ≤ 57) = false) := by
         by_cases e : 48 ≤ bt s j
         ·exact Or.inr ⟨decide_eq_true e, decide_eq_false (fun e2 => c3 ⟨e, e2⟩)⟩
         ·exact Or.inl ⟨decide_eq_false e, trivial⟩
        have HE := Lib.hid (And.intro HAT.out (HAT.out.stops (stop_other (hex := false) c1' c2 c3 (by simp))))
        clear HAT c1' c2 c3 hrd
        rcases hcs with ⟨k3, k4⟩ | ⟨k3, k4⟩
        all_goals
         go_wp2_with fail
         go_meet
         case rel => exact ⟨j, st, dpv, g, rfl, rfl, rfl, HE.out.1, HRW.out, HGD.out, HO.out, HE.out.2⟩
    ·have hj : j = s.size := by omega
     subst hj
     have HE := Lib.hid (And.intro HAT.out HAT.out.ends)
     clear HAT hrd
     go_wp2_with fail
     go_meet
     case rel => exact ⟨s.size, st, dpv, g, rfl, rfl, rfl, HE.out.1, HRW.out, HGD.out, HO.out, HE.out.2⟩
  case rest =>
   clear HRD0 HO0
   obtain ⟨j, st, dpv, g, rfl, h6, h7, hat, hrd, hgd, ho, hE⟩ := hcut
   obtain ⟨hsm, hst, htl⟩ := HKEY.out j st hE
   rw [hsm] at h7
   subst h7
   obtain ⟨dt, hdt⟩ : ∃ dt, dt = st.dot := ⟨_, rfl⟩
   rw [← hdt] at h6
   subst h6
   have HDT := Lib.hid hdt
   have HAT := Lib.hid hat
   have HRW := Lib.hid hrd
   have HGD := Lib.hid hgd
   have HO := Lib.hid ho
   have HTL := Lib.hid htl
   have HE := Lib.hid hE
   have HST := Lib.hid hst
   have hjs := hat.le
   have hlen := hat.len
   have c0 := hrd.cn
   have c1 := hrd.cp
   have f1 := hrd.fr 801
   have hdp1 := (scan_low hE).1
   have hdp2 := hat.ok.hi
   have hdp3 : -100000 ≤ st.dp := by omega
   have hdp4 : st.dp ≤ 100000 := by omega
   clear hat hrd hgd ho htl hE hsm hdt hst hdp1 hdp2
   go_upto_if 120 with fail
   go_cut [5] from 8 to 133 (fun s5 wx => s5 = .int .i64 (j : Nat) ∧ RDec wx b g (st.ds.length : Nat) st.dp (negB s) false ∧ Only b w wx)
   case first =>
    cases dt with
    | true =>
     have HV := Lib.hid (HAT.out.dot HDT.out.symm)
     go_wp2_with fail
     go_meet
     case rel => exact ⟨rfl, by rw [← HV.out]; exact HRW.out, HO.out⟩
    | false =>
     have HV := Lib.hid (HAT.out.ok.whole HDT.out.symm)
     go_wp2_with fail
     go_meet
     case rel => exact ⟨rfl, by rw [HV.out]; exact HRW.out.setP _, HO.out.set _ _⟩
   case rest =>
    clear HRW HO c0 c1 f1
    obtain ⟨rfl, hrd, ho⟩ := hcut
    have HRW := Lib.hid hrd
    have HO := Lib.hid ho
    have c1 := hrd.cp
    have f1 := hrd.fr 801
    have HSD : Hid (∀ (wx : World) (v : Int), RDec wx b g (st.ds.length : Nat) v (negB s) false → v = st.dp + R.ex → Only b w wx → SDec wx b R.st.ds (R.st.dp + R.ex) (negB s) false ∧ Only b w wx) := by
     intro wx v h1 h2 h3
     rw [HST.out, ← h2]
     exact ⟨⟨fun i hi => HAT.out.ok.digits _ (by unfold dAt; rw [List.getD_eq_getElem?_getD, List.getElem?_eq_getElem hi]; exact List.getElem_mem hi), by omega, g, h1, HGD.out⟩, h3⟩
    clear hrd ho
    by_cases hj : j = s.size
    ·have HEX : Hid (R.ex = 0) := by
      have h1 := HTL.out
      rw [hj, tail_none (hex := false) (fun hh => absurd hh.1 (by omega))] at h1
      simp at h1
      exact h1.1.symm
     have HF := Lib.hid (HSD.out wc st.dp HRW.out (by rw [HEX.out]; omega) HO.out)
     subst hj
     clear HTL HE HAT HRW HO
     go_wp2_with (go_at_call 183; (with_reducible refine (std_low _ _).mono ?_); rintro e w1 ⟨rfl, rfl⟩)
     go_ret
     exact ⟨rfl, HF.out⟩
    ·have hjl : j < s.size := by omega
     have hlow := HNOTAIL.out j st HE.out hjl
     have HV : Hid (j < s.size ∧ lowB (bt s j) = (if false then 112 else 101)) := ⟨hjl, hlow⟩
     have k1 : decide ((j : Int) < (s.size : Int)) = true := decide_eq_true (by omega)
     have k2 : (lowB (bt s j) == 101) = true := beq_iff_eq.2 hlow
     have hG : expFromAt s j < s.size ∧ 48 ≤ bt s (expFromAt s j) ∧ bt s (expFromAt s j) ≤ 57 := by
      apply Classical.byContradiction
      intro hn
      have h1 := HTL.out
      rw [tail_bad HV.out hn] at h1
      cases h1
     obtain ⟨j2, hj2⟩ : ∃ j2, j2 = expFromAt s j := ⟨_, rfl⟩
     obtain ⟨en, hen⟩ : ∃ en, en = expNeg s j := ⟨_, rfl⟩
     rw [← hj2] at hG
     have HG := Lib.hid hG
     have HJ2 := Lib.hid hj2
     have HEN := Lib.hid hen
     obtain ⟨sg, hsg⟩ : ∃ sg : Int, sg = if en then -1 else 1 := ⟨_, rfl⟩
     have HSG := Lib.hid hsg
     have hj2a : j + 1 ≤ j2 := by rw [hj2]; unfold expFromAt; split <;> omega
     have hj2b : j2 < s.size := hG.1
     have hk3 : ¬ (s.size : Int) ≤ (j : Int) + 1 := by omega
     clear hsg hj2 hen hG hlow hj
     go_upto_if 138 with (go_at_call 183; (with_reducible refine (std_low _ _).mono ?_); rintro e w1 ⟨rfl, rfl⟩)
     go_upto_block 4 with fail
     go_cut [5, 8] from 10 to 158 (fun s5 s8 wx => s5 = .int .i64 (j2 : Nat) ∧ s8 = .int .i64 sg ∧ wx = wc)
     case first =>
      by_cases c2 : bt s (j + 1) = 43
      ·have k2 : (bt s (j + 1) == 43) = true := beq_iff_eq.2 c2
       have HW : Hid (j2 = j + 2 ∧ en = false) := ⟨by rw [HJ2.out]; unfold expFromAt; rw [if_pos ⟨by omega, Or.inl c2⟩], by rw [HEN.out]; unfold expNeg; exact decide_eq_false (by omega)⟩
       clear c2
       go_wp2_with fail
       go_meet
       case rel => exact ⟨by rw [HW.out.1]; go_num, by rw [HSG.out, HW.out.2]; rfl, rfl⟩
      ·have k2 : (bt s (j + 1) == 43) = false := beq_eq_false_iff_ne.2 c2
       by_cases c3 : bt s (j + 1) = 45
       ·have k3 : (bt s (j + 1) == 45) = true := beq_iff_eq.2 c3
        have HW : Hid (j2 = j + 2 ∧ en = true) := ⟨by rw [HJ2.out]; unfold expFromAt; rw [if_pos ⟨by omega, Or.inr c3⟩], by rw [HEN.out]; unfold expNeg; exact decide_eq_true ⟨by omega, c3⟩⟩
        clear c2 c3
        go_wp2_with fail
        go_meet
        case rel => exact ⟨by rw [HW.out.1]; go_num, by rw [HSG.out, HW.out.2]; rfl, rfl⟩
       ·have k3 : (bt s (j + 1) == 45) = false := beq_eq_false_iff_ne.2 c3
        have HW : Hid (j2 = j + 1 ∧ en = false) := ⟨by rw [HJ2.out]; unfold expFromAt; rw [if_neg (by omega)], by rw [HEN.out]; unfold expNeg; exact decide_eq_false (by omega)⟩
        clear c2 c3
        go_wp2_with fail
        go_meet
        case rel => exact ⟨by rw [HW.out.1]; go_num, by rw [HSG.out, HW.out.2]; rfl, rfl⟩
     case rest =>
      obtain ⟨rfl, rfl, rfl⟩ := hcut
      obtain ⟨_, hg1, hg2⟩ := HG.out
      have q1 : decide (s.size ≤ j2) = false := decide_eq_false (by omega)
      have q1' : ¬ (s.size : Int) ≤ (j2 : Int) := by omega
      have q2 : decide (bt s j2 < 48) = false := decide_eq_false (by omega)
      have q3 : decide (57 < bt s j2) = false := decide_eq_false (by omega)
      obtain ⟨F, hF⟩ : ∃ F, F = expAt s j2 0 st.us := ⟨_, rfl⟩
      have HF := Lib.hid hF
      clear hF hg1 hg2 k1 k2
      go_upto_block 5 with fail
      clear q1 q1' q2 q3
      go_cut [5, 9] from 10 to 210 (fun s5 s9 wx => (∃ (i e : Nat) (us : Bool), s5 = .int .i64 (i : Nat) ∧ s9 = .int .i64 (e : Nat) ∧ i ≤ s.size ∧ e ≤ 99999 ∧ F = (i, e, us)) ∧ wx = wc)
      case first =>
       go_wp2_with fail
       go_loop [5, 9] (fun v5 v9 => SetExp s F j v5 v9) (fun v _ => s.size - (intOf v).toNat)
       case atStart => exact ⟨j2, 0, st.us, rfl, rfl, by omega, by omega, by omega, HF.out.symm⟩
       case round =>
        obtain ⟨i, e, us, rfl, rfl, hi1, hi2, hi3, hF⟩ := hrel
        have HFF := Lib.hid hF
        clear hF
        by_cases hlt : i < s.size
        ·have k1 : decide ((i : Int) < (s.size : Int)) = true := decide_eq_true (by omega)
         by_cases c2 : 48 ≤ bt s i ∧ bt s i ≤ 57
         ·have k2 : decide (48 ≤ bt s i) = true := decide_eq_true c2.1
          have k3 : decide (bt s i ≤ 57) = true := decide_eq_true c2.2
          have k4 : (bt s i == 95) = false := beq_eq_false_iff_ne.2 (by omega)
          obtain ⟨d, hd⟩ : ∃ d, d = (bt s i - 48).toNat := ⟨_, rfl⟩
          have eb : bt s i = (d : Int) + 48 := by omega
          have hd9 : d ≤ 9 := by omega
          have HN : Hid (expAt s (i + 1) (if e < 10000 then e * 10 + d else e) us = F) := by show _ = _; rw [hd, ← expAt_digit hlt c2]; exact HFF.out
          have k5 : bt s i ≤ 57 := c2.2
          have k6 : 48 ≤ bt s i := c2.1
          have HEB := Lib.hid eb
          clear c2 hd eb
          by_cases hb10 : e < 10000
          ·have k7 : decide ((e : Int) < 10000) = true := decide_eq_true (by omega)
           go_wp2_with fail
           go_round
           case rel => exact ⟨i + 1, e * 10 + d, us, by go_num, by rw [HEB.out]; go_num, by omega, by omega, by omega, by have := HN.out; rwa [if_pos hb10] at this⟩
           case measure => simp [intOf]; omega
          ·have k7 : decide ((e : Int) < 10000) = false := decide_eq_false (by omega)
           go_wp2_with fail
           go_round
           case rel => exact ⟨i + 1, e, us, by go_num, rfl, by omega, by omega, by omega, by have := HN.out; rwa [if_neg hb10] at this⟩
           case measure => simp [intOf]; omega
         ·have hcs : (decide (48 ≤ bt s i) = false ∧ True) ∨ (decide (48 ≤ bt s i) = true ∧ decide (bt s i ≤ 57) = false) := by
           by_cases e : 48 ≤ bt s i
           ·exact Or.inr ⟨decide_eq_true e, decide_eq_false (fun e2 => c2 ⟨e, e2⟩)⟩
           ·exact Or.inl ⟨decide_eq_false e, trivial⟩
          by_cases c3 : bt s i = 95
          ·have k4 : (bt s i == 95) = true := beq_iff_eq.2 c3
           have HN : Hid (expAt s (i + 1) e true = F) := by show _ = _; rw [← expAt_under (us := us) hlt c3]; exact HFF.out
           clear c2 c3
           rcases hcs with ⟨k2, k3⟩ | ⟨k2, k3⟩
           all_goals
            go_wp2_with fail
            go_round
            case rel => exact ⟨i + 1, e, true, by go_num, rfl, by omega, by omega, by omega, HN.out⟩
            case measure => simp [intOf]; omega
          ·have k4 : (bt s i == 95) = false := beq_eq_false_iff_ne.2 c3
           have HN : Hid (F = (i, e, us)) := by show _ = _; rw [← HFF.out]; exact expAt_stop c2 c3
           clear c2 c3
           rcases hcs with ⟨k2, k3⟩ | ⟨k2, k3⟩
           all_goals
            go_wp2_with fail
            go_meet
            case rel => exact ⟨⟨i, e, us, rfl, rfl, hi1, hi3, HN.out⟩, rfl⟩
        ·have k1 : decide ((i : Int) < (s.size : Int)) = false := decide_eq_false (by omega)
         have HN : Hid (F = (i, e, us)) := by show _ = _; rw [← HFF.out]; exact expAt_end (by omega)
         go_wp2_with fail
         go_meet
         case rel => exact ⟨⟨i, e, us, rfl, rfl, hi1, hi3, HN.out⟩, rfl⟩
      case rest =>
       obtain ⟨⟨i, e, us, rfl, rfl, hi1, hi3, hF2⟩, rfl⟩ := hcut
       have htl := HTL.out
       rw [tail_good HV.out (by rw [← HJ2.out]; exact HG.out) (j' := i) (e := e) (us' := us) (by rw [← HJ2.out, ← HF.out]; exact hF2), ← HEN.out] at htl
       simp only [Option.some.injEq, Prod.mk.injEq] at htl
       obtain ⟨hi, hex, _⟩ := htl
       subst hi
       have HEX : Hid (R.ex = (e : Int) * sg) := by
        show _ = _
        rw [← hex, HSG.out]
        cases en <;> simp
       have hsg1 : -1 ≤ sg := by rw [HSG.out]; split <;> omega
       have hsg2 : sg ≤ 1 := by rw [HSG.out]; split <;> omega
       obtain ⟨y, hy⟩ : ∃ y, y = (e : Int) * sg := ⟨_, rfl⟩
       have hyv : (e : Int) * sg = y := hy.symm
       have hy1 : -99999 ≤ y := by
        rw [hy]
        have hss : sg = 1 ∨ sg = -1 := by have := HSG.out; cases en <;> simp at this <;> omega
        rcases hss with e1 | e1 <;> (rw [e1]; omega)
       have hy2 : y ≤ 99999 := by
        rw [hy]
        have hss : sg = 1 ∨ sg = -1 := by have := HSG.out; cases en <;> simp at this <;> omega
        rcases hss with e1 | e1 <;> (rw [e1]; omega)
       rw [← hy] at HEX
       have HFN := Lib.hid (HSD.out (wc.setCell ⟨b, 801, none⟩ (.int .i64 (st.dp + y))) (st.dp + y) (HRW.out.setP _) (by rw [HEX.out]) (HO.out.set _ _))
       clear hex hF2 hy hj2a hj2b hk3 hjl HTL HE HAT HRW HO
       go_wp2_with fail
       go_ret
       exact ⟨rfl, HFN.out⟩

end Go.Proofs.YtgolhmiocjpohaaGreatDoor

namespace Go.Proofs.YtgolhmiocjpohaaGreatDoor
open Go.RowKit Go.PlainAid

theorem light_low (c : Int) (w : World) : Calls Tryz.prog 169 #[.int .u8 c] w fun e w' => e = .returned (.int .u8 (lowB c)) ∧ w = w' := by
 unfold lowB
 go_enter Tryz.func169, Tryz.ntmps169
 go_wp2
 go_ret
 exact ⟨rfl, rfl⟩

/-- The rule's machine over a text that is cut ahead. -/
theorem usFrom_cut {hex : Bool} {t u : ByteArray} {p : Nat} (h : ∀ i, i < u.size → bt u i = bt t (p + i)) (hs : u.size + p = t.size) : ∀ (n j l : Nat), j + n = u.size → usFrom hex u n j l = usFrom hex t n (p + j) l := by
 intro n
 induction n with
 | zero => intro j l _; rfl
 | succ n ih =>
  intro j l hj
  rw [usFrom, usFrom, h j (by omega), ih (j + 1) 1 (by omega), ih (j + 1) 2 (by omega), ih (j + 1) 0 (by omega), show p + (j + 1) = p + j + 1 by omega]

/-- How the light machine stands. -/
def LawAt (hex : Bool) (u : ByteArray) (R : Bool) (v3 v5 : Value) : Prop :=
 ∃ (j l : Nat) (v : Int), v3 = .int .u8 v ∧ v5 = .int .i64 (j : Nat) ∧ SawIs v l ∧ j ≤ u.size ∧ usFrom hex u (u.size - j) j l = R

theorem bt_cut (s : ByteArray) (p i : Nat) (h : p + i < s.size) : bt (s.extract p s.size) i = bt s (p + i) := by
 unfold bt
 rw [dif_pos (by simp; omega), dif_pos h]
 simp [ByteArray.getElem_extract]

set_option maxHeartbeats 6400000 in
set_option maxRecDepth 100000 in
theorem light_usok (s : ByteArray) (w : World) (hs : s.size ≤ 100000) : Calls Tryz.prog 173 #[.string s] w fun e w' => e = .returned (.bool (usOK s)) ∧ w = w' := by
 have hb := get_bt s
 obtain ⟨t, ht⟩ : ∃ t, t = bodyT s := ⟨_, rfl⟩
 obtain ⟨R, hR⟩ : ∃ R, R = usT t := ⟨_, rfl⟩
 have hts : t.size ≤ 100000 := by
  rw [ht]; unfold bodyT; split
  ·simp; omega
  ·exact hs
 have hbt := get_bt t
 have HUS : Hid (usOK s = R) := by show _ = _; rw [hR, ht]; rfl
 have HT := Lib.hid ht
 rw [HUS.out]
 obtain ⟨q, hq⟩ : ∃ q, q = decide (signLen s = 1) := ⟨_, rfl⟩
 have HQ := Lib.hid hq
 clear hq
 go_enter Tryz.func173, Tryz.ntmps173
 go_upto_region 1 with fail
 go_cut [18] from 7 to 18 (fun s18 wx => s18 = .bool q ∧ wx = w)
 case first =>
  clear ht hR hbt hts
  by_cases c0 : 0 < s.size
  ·have k0 : (s.toList == []) = false := by
    cases e : s.toList == []
    ·rfl
    ·have := (empty_toList s).1 e; omega
   by_cases c1 : bt s 0 = 45
   ·have k1 : (bt s 0 == 45) = true := beq_iff_eq.2 c1
    have HS : Hid (decide (signLen s = 1) = true) := decide_eq_true (by unfold signLen; rw [if_pos ⟨c0, Or.inr c1⟩])
    clear c1
    go_wp2_with fail
    go_meet
    case rel => exact ⟨by rw [HQ.out, HS.out], rfl⟩
   ·have k1 : (bt s 0 == 45) = false := beq_eq_false_iff_ne.2 c1
    by_cases c2 : bt s 0 = 43
    ·have k2 : (bt s 0 == 43) = true := beq_iff_eq.2 c2
     have HS : Hid (decide (signLen s = 1) = true) := decide_eq_true (by unfold signLen; rw [if_pos ⟨c0, Or.inl c2⟩])
     clear c1 c2
     go_wp2_with fail
     go_meet
     case rel => exact ⟨by rw [HQ.out, HS.out], rfl⟩
    ·have k2 : (bt s 0 == 43) = false := beq_eq_false_iff_ne.2 c2
     have HS : Hid (decide (signLen s = 1) = false) := decide_eq_false (by unfold signLen; rw [if_neg (by omega)]; omega)
     clear c1 c2
     go_wp2_with fail
     go_meet
     case rel => exact ⟨by rw [HQ.out, HS.out], rfl⟩
  ·have k0 : (s.toList == []) = true := (empty_toList s).2 (by omega)
   have HS : Hid (decide (signLen s = 1) = false) := decide_eq_false (by unfold signLen; rw [if_neg (by omega)]; omega)
   go_wp2_with fail
   go_meet
   case rel => exact ⟨by rw [HQ.out, HS.out], rfl⟩
 case rest =>
  obtain ⟨rfl, rfl⟩ := hcut
  go_upto_if 18 with fail
  go_cut [0] from 18 to 20 (fun s0 wx => s0 = .string t ∧ wx = wc)
  case first =>
   clear ht hR hbt
   by_cases c : signLen s = 1
   ·have k : q = true := by rw [HQ.out]; exact decide_eq_true c
    subst k
    have HE : Hid (t = s.extract 1 s.size) := by show _ = _; rw [HT.out]; unfold bodyT; rw [if_pos c]
    have h1 : (1 : Int) ≤ (s.size : Int) := by unfold signLen at c; split at c <;> omega
    clear c
    go_wp2_with fail
    go_meet
    case rel => exact ⟨by rw [HE.out], rfl⟩
   ·have k : q = false := by rw [HQ.out]; exact decide_eq_false c
    subst k
    have HE : Hid (t = s) := by show _ = _; rw [HT.out]; unfold bodyT; rw [if_neg c]
    clear c
    go_wp2_with fail
    go_meet
    case rel => exact ⟨by rw [HE.out], rfl⟩
  case rest =>
   obtain ⟨rfl, rfl⟩ := hcut
   clear hb ht
   have HR := Lib.hid hR
   clear hR
   go_upto_region 4 with fail
   go_cut [46] from 21 to 46 (fun s46 wx => s46 = .bool (preAt t) ∧ wx = wc)
   case first =>
    by_cases c0 : 2 ≤ t.size
    ·have k0 : decide ((2 : Int) ≤ (t.size : Int)) = true := decide_eq_true (by omega)
     by_cases c1 : bt t 0 = 48
     ·have k1 : (bt t 0 == 48) = true := beq_iff_eq.2 c1
      by_cases c2 : lowB (bt t 1) = 98
      ·have k2 : (lowB (bt t 1) == 98) = true := beq_iff_eq.2 c2
       have HS : Hid (preAt t = true) := decide_eq_true ⟨c0, c1, Or.inl c2⟩
       clear c1 c2
       go_wp2_with (go_at_call 169; (with_reducible refine (light_low _ _).mono ?_); rintro e w1 ⟨rfl, rfl⟩)
       go_meet
       case rel => exact ⟨by rw [HS.out], rfl⟩
      ·have k2 : (lowB (bt t 1) == 98) = false := beq_eq_false_iff_ne.2 c2
       by_cases c3 : lowB (bt t 1) = 111
       ·have k3 : (lowB (bt t 1) == 111) = true := beq_iff_eq.2 c3
        have HS : Hid (preAt t = true) := decide_eq_true ⟨c0, c1, Or.inr (Or.inl c3)⟩
        clear c1 c2 c3
        go_wp2_with (go_at_call 169; (with_reducible refine (light_low _ _).mono ?_); rintro e w1 ⟨rfl, rfl⟩)
        go_meet
        case rel => exact ⟨by rw [HS.out], rfl⟩
       ·have k3 : (lowB (bt t 1) == 111) = false := beq_eq_false_iff_ne.2 c3
        by_cases c4 : lowB (bt t 1) = 120
        ·have k4 : (lowB (bt t 1) == 120) = true := beq_iff_eq.2 c4
         have HS : Hid (preAt t = true) := decide_eq_true ⟨c0, c1, Or.inr (Or.inr c4)⟩
         clear c1 c2 c3 c4
         go_wp2_with (go_at_call 169; (with_reducible refine (light_low _ _).mono ?_); rintro e w1 ⟨rfl, rfl⟩)
         go_meet
         case rel => exact ⟨by rw [HS.out], rfl⟩
        ·have k4 : (lowB (bt t 1) == 120) = false := beq_eq_false_iff_ne.2 c4
         have HS : Hid (preAt t = false) := decide_eq_false (fun h => by rcases h.2.2 with h | h | h <;> contradiction)
         clear c1 c2 c3 c4
         go_wp2_with (go_at_call 169; (with_reducible refine (light_low _ _).mono ?_); rintro e w1 ⟨rfl, rfl⟩)
         go_meet
         case rel => exact ⟨by rw [HS.out], rfl⟩
     ·have k1 : (bt t 0 == 48) = false := beq_eq_false_iff_ne.2 c1
      have HS : Hid (preAt t = false) := decide_eq_false (fun h => c1 h.2.1)
      clear c1
      go_wp2_with fail
      go_meet
      case rel => exact ⟨by rw [HS.out], rfl⟩
    ·have k0 : decide ((2 : Int) ≤ (t.size : Int)) = false := decide_eq_false (by omega)
     have HS : Hid (preAt t = false) := decide_eq_false (fun h => c0 h.1)
     go_wp2_with fail
     go_meet
     case rel => exact ⟨by rw [HS.out], rfl⟩
   case rest =>
    obtain ⟨rfl, rfl⟩ := hcut
    obtain ⟨hex, hhex⟩ : ∃ hex, hex = (preAt t && decide (lowB (bt t 1) = 120)) := ⟨_, rfl⟩
    obtain ⟨u, hu⟩ : ∃ u, u = (if preAt t then t.extract 2 t.size else t) := ⟨_, rfl⟩
    go_upto_if 46 with fail
    go_cut [0, 3, 4] from 46 to 52 (fun s0 s3 s4 wx => s0 = .string u ∧ (∃ v, s3 = .int .u8 v ∧ ∃ l, SawIs v l ∧ usFrom hex u u.size 0 l = R) ∧ s4 = .bool hex ∧ u.size ≤ 100000 ∧ wx = wc)
    case first =>
     cases hp : preAt t with
     | false =>
      have HS : Hid (u = t ∧ hex = false ∧ usFrom hex u u.size 0 0 = R) := by
       have e : hex = false := by rw [hhex, hp]; rfl
       have e2 : u = t := by rw [hu, hp]; rfl
       refine ⟨e2, e, ?_⟩
       rw [e, e2, HR.out]; unfold usT; rw [hp]; rfl
      clear hhex hp hu
      go_wp2_with fail
      go_meet
      case rel => exact ⟨by rw [HS.out.1], ⟨94, rfl, 0, Or.inr (Or.inr ⟨rfl, Or.inl rfl⟩), HS.out.2.2⟩, by rw [HS.out.2.1], by rw [HS.out.1]; exact hts, rfl⟩
     | true =>
      have h2 : 2 ≤ t.size := by unfold preAt at hp; exact (of_decide_eq_true hp).1
      have HS : Hid (u = t.extract 2 t.size ∧ hex = (lowB (bt t 1) == 120) ∧ usFrom hex u u.size 0 1 = R) := by
       have e : hex = decide (lowB (bt t 1) = 120) := by rw [hhex, hp]; rfl
       have e2 : u = t.extract 2 t.size := by rw [hu, hp]; rfl
       refine ⟨e2, ?_, ?_⟩
       ·rw [e]; by_cases h : lowB (bt t 1) = 120 <;> simp [h]
       ·have hz : u.size + 2 = t.size := by rw [e2]; simp; omega
        rw [usFrom_cut (p := 2) (fun i hi => by rw [e2, bt_cut t 2 i (by omega)]) hz u.size 0 1 (by omega), e, HR.out]
        unfold usT
        rw [hp, if_pos rfl, show t.size - 2 = u.size by omega]
      have h2i : (2 : Int) ≤ (t.size : Int) := by omega
      clear hhex hp hu
      go_wp2_with (go_at_call 169; (with_reducible refine (light_low _ _).mono ?_); rintro e w1 ⟨rfl, rfl⟩)
      go_meet
      case rel => exact ⟨by rw [HS.out.1], ⟨48, rfl, 1, Or.inl ⟨rfl, rfl⟩, HS.out.2.2⟩, by rw [HS.out.2.1], by rw [HS.out.1]; simp; omega, rfl⟩
    case rest =>
     obtain ⟨rfl, ⟨v0, rfl, l0, hv0, hu0⟩, rfl, hts2, rfl⟩ := hcut
     clear hhex hu hbt hts
     have HST : Hid (LawAt hex u R (.int .u8 v0) (.int .i64 0)) := ⟨0, l0, v0, rfl, rfl, hv0, by omega, by rw [Nat.sub_zero]; exact hu0⟩
     clear hv0 hu0
     have hbt := get_bt u
     go_wp2_with fail
     go_loop [3, 5] (fun v3 v5 => LawAt hex u R v3 v5) (fun _ v => u.size - (intOf v).toNat)
     case atStart => exact HST.out
     case round =>
      obtain ⟨j, l, v, rfl, rfl, hsaw, hj, hu⟩ := hrel
      have HSW := Lib.hid hsaw
      have HU := Lib.hid hu
      clear hsaw hu
      by_cases hlt : j < u.size
      ·by_cases c1 : 48 ≤ bt u j ∧ bt u j ≤ 57
       ·have k1 : decide (48 ≤ bt u j) = true := decide_eq_true c1.1
        have k2 : decide (bt u j ≤ 57) = true := decide_eq_true c1.2
        have HN : Hid (usFrom hex u (u.size - (j + 1)) (j + 1) 1 = R) := by show _ = _; rw [← usFrom_digit (l := l) hlt (Or.inl c1)]; exact HU.out
        clear c1
        go_wp2_with fail
        go_round
        case rel => exact ⟨j + 1, 1, 48, rfl, by go_num, Or.inl ⟨rfl, rfl⟩, by omega, HN.out⟩
        case measure => simp [intOf]; omega
       ·have hcs : (decide (48 ≤ bt u j) = false ∧ True) ∨ (decide (48 ≤ bt u j) = true ∧ decide (bt u j ≤ 57) = false) := by
         by_cases e : 48 ≤ bt u j
         ·exact Or.inr ⟨decide_eq_true e, decide_eq_false (fun e2 => c1 ⟨e, e2⟩)⟩
         ·exact Or.inl ⟨decide_eq_false e, trivial⟩
        by_cases c2 : hex = true ∧ 97 ≤ lowB (bt u j) ∧ lowB (bt u j) ≤ 102
        ·have k10 : decide (97 ≤ lowB (bt u j)) = true := decide_eq_true c2.2.1
         have k11 : decide (lowB (bt u j) ≤ 102) = true := decide_eq_true c2.2.2
         have HN : Hid (usFrom hex u (u.size - (j + 1)) (j + 1) 1 = R) := by show _ = _; rw [← usFrom_digit (l := l) hlt (Or.inr c2)]; exact HU.out
         have hx := c2.1
         clear c1 c2
         subst hx
         rcases hcs with ⟨k1, k2⟩ | ⟨k1, k2⟩
         all_goals
          go_wp2_with (go_at_call 169; (with_reducible refine (light_low _ _).mono ?_); rintro e w1 ⟨rfl, rfl⟩)
          go_round
          case rel => exact ⟨j + 1, 1, 48, rfl, by go_num, Or.inl ⟨rfl, rfl⟩, by omega, HN.out⟩
          case measure => simp [intOf]; omega
        ·have hno : ¬ ((48 ≤ bt u j ∧ bt u j ≤ 57) ∨ (hex = true ∧ 97 ≤ lowB (bt u j) ∧ lowB (bt u j) ≤ 102)) := fun h => by
          rcases h with h | h
          ·exact c1 h
          ·exact c2 h
         have hcl : hex = false ∨ (hex = true ∧ decide (97 ≤ lowB (bt u j)) = false ∧ True) ∨ (hex = true ∧ decide (97 ≤ lowB (bt u j)) = true ∧ decide (lowB (bt u j) ≤ 102) = false) := by
          cases hex
          ·exact Or.inl rfl
          ·right
           by_cases e : 97 ≤ lowB (bt u j)
           ·exact Or.inr ⟨rfl, decide_eq_true e, decide_eq_false (fun e2 => c2 ⟨rfl, e, e2⟩)⟩
           ·exact Or.inl ⟨rfl, decide_eq_false e, trivial⟩
         by_cases c3 : bt u j = 95
         ·have k3 : (bt u j == 95) = true := beq_iff_eq.2 c3
          have k3' : (bt u j != 95) = false := by simp [c3]
          have hu2 := usFrom_under (l := l) hlt hno c3
          rw [HU.out] at hu2
          by_cases hl : l = 1
          ·rw [if_pos hl] at hu2
           have HN := Lib.hid hu2.symm
           have k4 : (v != 48) = false := by
            rcases HSW.out with h | h | h
            ·simp [h.2]
            ·omega
            ·omega
           clear c1 c2 c3 hno hu2 hl
           rcases hcl with rfl | ⟨rfl, k5, k6⟩ | ⟨rfl, k5, k6⟩ <;> rcases hcs with ⟨k1, k2⟩ | ⟨k1, k2⟩
           all_goals
            go_wp2_with (go_at_call 169; (with_reducible refine (light_low _ _).mono ?_); rintro e w1 ⟨rfl, rfl⟩)
            go_round
            case rel => exact ⟨j + 1, 2, 95, rfl, by go_num, Or.inr (Or.inl ⟨rfl, rfl⟩), by omega, HN.out⟩
            case measure => simp [intOf]; omega
          ·rw [if_neg hl] at hu2
           have HN := Lib.hid hu2
           have k4 : (v != 48) = true := by
            rcases HSW.out with h | h | h
            ·omega
            ·simp [h.2]
            ·rcases h.2 with h | h <;> simp [h]
           clear c1 c2 c3 hno hu2 hl
           rcases hcl with rfl | ⟨rfl, k5, k6⟩ | ⟨rfl, k5, k6⟩ <;> rcases hcs with ⟨k1, k2⟩ | ⟨k1, k2⟩
           all_goals
            go_wp2_with (go_at_call 169; (with_reducible refine (light_low _ _).mono ?_); rintro e w1 ⟨rfl, rfl⟩)
            go_ret
            exact ⟨by rw [HN.out]; rfl, rfl⟩
         ·have k3 : (bt u j == 95) = false := beq_eq_false_iff_ne.2 c3
          have k3' : (bt u j != 95) = true := by simp [c3]
          have hu2 := usFrom_other (l := l) hlt hno c3
          rw [HU.out] at hu2
          by_cases hl : l = 2
          ·rw [if_pos hl] at hu2
           have HN := Lib.hid hu2
           have k4 : (v == 95) = true := by
            rcases HSW.out with h | h | h
            ·omega
            ·simp [h.2]
            ·omega
           clear c1 c2 c3 hno hu2 hl
           rcases hcl with rfl | ⟨rfl, k5, k6⟩ | ⟨rfl, k5, k6⟩ <;> rcases hcs with ⟨k1, k2⟩ | ⟨k1, k2⟩
           all_goals
            go_wp2_with (go_at_call 169; (with_reducible refine (light_low _ _).mono ?_); rintro e w1 ⟨rfl, rfl⟩)
            go_ret
            exact ⟨by rw [HN.out]; rfl, rfl⟩
          ·rw [if_neg hl] at hu2
           have HN := Lib.hid hu2.symm
           have k4 : (v == 95) = false := by
            rcases HSW.out with h | h | h
            ·simp [h.2]
            ·omega
            ·rcases h.2 with h | h <;> simp [h]
           clear c1 c2 c3 hno hu2 hl
           rcases hcl with rfl | ⟨rfl, k5, k6⟩ | ⟨rfl, k5, k6⟩ <;> rcases hcs with ⟨k1, k2⟩ | ⟨k1, k2⟩
           all_goals
            go_wp2_with (go_at_call 169; (with_reducible refine (light_low _ _).mono ?_); rintro e w1 ⟨rfl, rfl⟩)
            go_round
            case rel => exact ⟨j + 1, 0, 33, rfl, by go_num, Or.inr (Or.inr ⟨rfl, Or.inr rfl⟩), by omega, HN.out⟩
            case measure => simp [intOf]; omega
      ·have hj2 : j = u.size := by omega
       subst hj2
       have HN : Hid ((v != 95) = R) := by
        have := HU.out
        rw [Nat.sub_self, usFrom_end] at this
        rw [← this]
        rcases HSW.out with ⟨h1, h2⟩ | ⟨h1, h2⟩ | ⟨h1, h2⟩
        ·rw [h1, h2]; rfl
        ·rw [h1, h2]; rfl
        ·rw [h1]; rcases h2 with h2 | h2 <;> rw [h2] <;> rfl
       clear HU
       go_wp2_with fail
       go_ret
       exact ⟨by rw [← HN.out]; rfl, rfl⟩

/-- A post: whether the underscores stand well. -/
def UndIs (s : ByteArray) (w : World) (e : Ending) (w' : World) : Prop :=
 ∃ b, e = .returned (.bool b) ∧ ((∀ i, i < s.size → bt s i ≠ 95) ∧ b = true ∨ (∃ i, i < s.size ∧ bt s i = 95) ∧ b = usOK s) ∧ w = w'

set_option maxHeartbeats 1600000 in
set_option maxRecDepth 100000 in
/-- The light reading's look for underscores: where there is one the rule is asked. -/
theorem light_unders (s : ByteArray) (w : World) (hs : s.size ≤ 100000) : Calls Tryz.prog 146 #[.string s] w (UndIs s w) := by
 have hb := get_bt s
 have K := Lib.hid (fun w => light_usok s w hs)
 go_enter Tryz.func146, Tryz.ntmps146
 go_wp2_with fail
 go_loop [3] (fun v => ∃ j : Nat, v = .int .i64 (j : Nat) ∧ j ≤ s.size ∧ ∀ i, i < j → bt s i ≠ 95) (fun v => s.size - (intOf v).toNat)
 case atStart => exact ⟨0, rfl, by omega, fun i hi => by omega⟩
 case round =>
  obtain ⟨j, rfl, hj, hno⟩ := hrel
  have HNO := Lib.hid hno
  clear hno
  by_cases hlt : j < s.size
  ·by_cases c : bt s j = 95
   ·have k : (bt s j == 95) = true := beq_iff_eq.2 c
    have HC := Lib.hid c
    clear c
    go_wp2_with (go_at_call 173; (with_reducible refine (K.out _).mono ?_); rintro e w1 ⟨rfl, rfl⟩)
    go_ret
    exact ⟨_, rfl, Or.inr ⟨⟨j, hlt, HC.out⟩, rfl⟩, rfl⟩
   ·have k : (bt s j == 95) = false := beq_eq_false_iff_ne.2 c
    have HC := Lib.hid c
    clear c
    go_wp2_with fail
    go_round
    case rel => exact ⟨j + 1, by go_num, by omega, fun i hi => by rcases Nat.lt_or_ge i j with h | h; (· exact HNO.out i h); (· rw [show i = j by omega]; exact HC.out)⟩
    case measure => simp [intOf]; omega
  ·go_wp2_with fail
   go_ret
   exact ⟨true, rfl, Or.inl ⟨fun i hi => HNO.out i (by omega), rfl⟩, rfl⟩

end Go.Proofs.YtgolhmiocjpohaaGreatDoor
