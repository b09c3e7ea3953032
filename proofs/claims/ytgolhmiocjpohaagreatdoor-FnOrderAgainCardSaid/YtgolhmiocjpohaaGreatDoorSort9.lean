/- sort.pdqsort_func (83), for a less that lays blocks. (Printed by gen_sort9.py.) -/
import Derived.Test.YtgolhmiocjpohaaGreatDoorShelf1
import Derived.Test.YtgolhmiocjpohaaGreatDoorSort1
import Derived.Test.YtgolhmiocjpohaaGreatDoorSort3
import Derived.Test.YtgolhmiocjpohaaGreatDoorSort5
import Derived.Test.YtgolhmiocjpohaaGreatDoorSort7
import Derived.Test.YtgolhmiocjpohaaGreatDoorSort8
import Derived.Sort.Walk13
import Derived.Sort.AssemblyPlain
set_option linter.unusedVariables false
set_option linter.unusedSimpArgs false
namespace Go.Proofs.YtgolhmiocjpohaaGreatDoor
open Go.RowKit Go.Sort

theorem hintN_two {h : Hint} (e : hintN h = 2) : h = .decreasing := by cases h <;> simp [hintN] at e ⊢

/-- The data's value. -/
abbrev D2 (gl : Nat) (lb : Array Value) (sf : Nat) (sb : Array Value) : Value := .agg #[.func (.func gl) #[] lb, .func (.func sf) #[] sb]

set_option maxHeartbeats 12800000 in
set_option maxRecDepth 1000000 in
theorem sort_pdq {w0 : World} {g n m : Nat} {lt : Nat → Nat → Bool} (hO : SWO lt) {gl : Nat} {lb : Array Value} {sf : Nat} {sb : Array Value} (E : SortEnv w0 g n m lt gl lb sf sb) (hS : SwapSwaps Tryz.prog sf sb encN g 0 n) :
    ∀ (N a b limit : Nat) (d : Array Nat) (w : World), b - a < N → Moved g n m d w0 w → a ≤ b → b ≤ n → limit < 2147483647 → Sort.Below lt a b d →
    Calls Tryz.prog 83 #[.agg #[.func (.func gl) #[] lb, .func (.func sf) #[] sb], .int .i64 a, .int .i64 b, .int .i64 limit] w (SortsTo g n m (pdq lt d a b limit true true) w) := by
  have HE := Lib.hid E
  have HSW := Lib.hid hS
  have eg := E.enter
  have hn := E.hn
  clear E hS
  intro N
  induction N with
  | zero => intro _ _ _ _ _ h; exact absurd h (Nat.not_lt_zero _)
  | succ N ih =>
    have IH := Lib.hid ih
    clear ih
    intro a b limit d w hN hw hab hb hlimit hBel0
    have HW0 := Lib.hid hw
    have HS0 := Lib.hid (InS.start (gl := gl) (lb := lb) (sf := sf) (sb := sb) hw)
    have HB0 := Lib.hid hBel0
    clear hw hBel0
    go_enter Tryz.func83, Tryz.ntmps83
    go_wp2
    go_loopg [1, 2, 3, 8, 9] (b - a) (fun k s1 s2 s3 s8 s9 wr => ∃ (a' b' lim : Nat) (wb wp : Bool) (dk : Array Nat), s1 = .int .i64 a' ∧ s2 = .int .i64 b' ∧ s3 = .int .i64 lim ∧ s8 = .bool wb ∧ s9 = .bool wp ∧
      a' ≤ b' ∧ b' ≤ n ∧ b' - a' ≤ k ∧ k ≤ b - a ∧ lim ≤ limit ∧ Sort.Below lt a' b' dk ∧ InS g n m w.heap.size gl lb sf sb dk w wr ∧ pdq lt dk a' b' lim wb wp = pdq lt d a b limit true true)
    case atStart => exact ⟨a, b, limit, true, true, d, rfl, rfl, rfl, rfl, rfl, hab, hb, Nat.le_refl _, Nat.le_refl _, Nat.le_refl _, HB0.out, HS0.out, rfl⟩
    case round =>
      obtain ⟨a', b', lim, wb, wp, dk, rfl, rfl, rfl, rfl, rfl, hab', hb', hk, hkN, hlim, hBel, hs, heq⟩ := hrel
      have x0 := hs.c0
      have x1 := hs.c1
      have HK := Lib.hid hs
      have A := Lib.hid heq
      have hds : dk.size = n := hs.mv.len
      clear hs heq
      by_cases h12 : b' - a' ≤ 12
      · have h12z : (b' : Int) - (a' : Int) ≤ 12 := by omega
        go_wp2_with (go_at_call 109; refine (sort_insertion HE.out dk wr (HW0.out.trans HK.out.mv) a' b' hab' hb').mono ?_; rintro e w1 ⟨rfl, hw1⟩; have HW1 := Lib.hid hw1; clear hw1)
        go_end0
        refine ⟨rfl, ?_⟩
        rw [← A.out, pdq_small h12]
        exact HK.out.mv.trans HW1.out
      · have h12z : ¬ ((b' : Int) - (a' : Int) ≤ 12) := by omega
        by_cases hl0 : lim = 0
        · subst hl0
          go_wp2_with (go_at_call 110; refine (sort_heap HE.out dk wr (HW0.out.trans HK.out.mv) a' b' (by omega) hb').mono ?_; rintro e w1 ⟨rfl, hw1⟩; have HW1 := Lib.hid hw1; clear hw1)
          go_end0
          refine ⟨rfl, ?_⟩
          rw [← A.out, pdq_heap h12 rfl]
          exact HK.out.mv.trans HW1.out
        · have hl0z : ¬ ((lim : Int) = 0) := by omega
          obtain ⟨s1, B1, hc1, s2, B2, hpv, s3, B3⟩ := rd_facts (lt := lt) (limit := lim) (wb := wb) (wp := wp) hO partialInsertionSort_holds reverseRange_holds (show a' < b' by omega) (show b' ≤ dk.size by omega) hBel
          have HB3 := Lib.hid B3
          have HB1 := Lib.hid B1
          have HB2 := Lib.hid B2
          clear hBel B1 B2 B3
          go_upto_if 35 with fail
          go_cut [3] from 19 (fun s3 wc => s3 = .int .i64 ((rd lt dk a' b' lim wb wp).lim : Nat) ∧ InS g n m w.heap.size gl lb sf sb (rd lt dk a' b' lim wb wp).d1 w wc)
          case first =>
            cases wb
            · go_wp2_with (go_at_call 111; refine (sort_break (gl := gl) (lb := lb) HSW.out dk wr HK.out.mv a' b' hab' hb' hn).mono ?_; rintro e w1 ⟨rfl, hw1⟩; have HW1 := Lib.hid hw1; clear hw1)
              go_meet
              case rel =>
                refine ⟨?_, HK.out.moved HW1.out⟩
                show Value.int .i64 ((lim : Int) - 1) = Value.int .i64 ((lim - 1 : Nat) : Int)
                congr 1
                omega
            · go_wp2_with fail
              go_meet
              case rel => exact ⟨rfl, HK.out⟩
          case rest =>
            obtain ⟨rfl, hs1⟩ := hcut
            clear x0 x1
            have x0 := hs1.c0
            have x1 := hs1.c1
            have HK1 := Lib.hid hs1
            clear hs1
            have hcp : Hid (Calls Tryz.prog 112 #[.agg #[.func (.func gl) #[] lb, .func (.func sf) #[] sb], .int .i64 a', .int .i64 b'] wc (PivotIs g n m (rd lt dk a' b' lim wb wp).d1 (rd lt dk a' b' lim wb wp).c wc)) := sort_choose HE.out (rd lt dk a' b' lim wb wp).d1 wc (HW0.out.trans HK1.out.mv) a' b' (by omega) hb'
            go_upto_if 50 with (go_at_call 112; refine hcp.out.mono ?_; rintro e w2 ⟨rfl, hw2⟩; have HW2 := Lib.hid hw2; clear hw2)
            have HK2 := Lib.hid (HK1.out.moved HW2.out)
            clear hcp HW2 x0 x1
            have x0 := HK2.out.c0
            have x1 := HK2.out.c1
            go_cut [11, 12] from 19 (fun s11 s12 wc => s11 = .int .i64 ((rd lt dk a' b' lim wb wp).pivot : Nat) ∧ s12 = .int .i64 (hintN (rd lt dk a' b' lim wb wp).hint : Nat) ∧ InS g n m w.heap.size gl lb sf sb (rd lt dk a' b' lim wb wp).d2 w wc)
            case first =>
              by_cases hh : (rd lt dk a' b' lim wb wp).c.2 = .decreasing
              · have hcode : hintN (rd lt dk a' b' lim wb wp).c.2 = 2 := by rw [hh]; rfl
                obtain ⟨e2, epv, eht⟩ := rd_dec hh
                go_wp2_with (go_at_call 113; refine (sort_reverse (gl := gl) (lb := lb) HSW.out (rd lt dk a' b' lim wb wp).d1 _ HK2.out.mv a' b' hab' hb' hn).mono ?_; rintro e w3 ⟨rfl, hw3⟩; have HW3 := Lib.hid hw3; clear hw3)
                go_meet
                case rel =>
                  refine ⟨?_, by rw [eht]; rfl, by rw [e2]; exact HK2.out.moved HW3.out⟩
                  rw [epv]
                  congr 1
                  omega
              · have hcode : ¬ (hintN (rd lt dk a' b' lim wb wp).c.2 = 2) := fun h => hh (hintN_two h)
                obtain ⟨e2, epv, eht⟩ := rd_not hh
                go_wp2_with fail
                go_meet
                case rel => exact ⟨by rw [epv], by rw [eht], by rw [e2]; exact HK2.out⟩
            case rest =>
              obtain ⟨rfl, rfl, hs3⟩ := hcut
              clear x0 x1 HK2 HK1
              have x0 := hs3.c0
              have x1 := hs3.c1
              have HK3 := Lib.hid hs3
              clear hs3
              go_upto_region 16 with fail
              go_cut [12, 68] from 19 (fun s12 s68 wx => s12 = .int .i64 (hintN (rd lt dk a' b' lim wb wp).hint : Nat) ∧ s68 = .bool (wb && wp && decide ((rd lt dk a' b' lim wb wp).hint = .increasing)) ∧ wx = wc)
              case first =>
                cases wb <;> cases wp <;> cases hh3 : (rd lt dk a' b' lim _ _).hint <;>
                  (have hcode3 := congrArg hintN hh3
                   simp only [hintN] at hcode3
                   go_wp2_with fail
                   go_meet
                   exact ⟨by simp [hh3, hintN], by simp [hh3, hintN], rfl⟩)
              case rest =>
                obtain ⟨rfl, rfl, rfl⟩ := hcut
                go_upto_if 68 with fail
                go_cut [] from 19 (fun wx => (rd lt dk a' b' lim wb wp).pi.2 = false ∧ InS g n m w.heap.size gl lb sf sb (rd lt dk a' b' lim wb wp).pi.1 w wx)
                case first =>
                  cases h68 : (wb && wp && decide ((rd lt dk a' b' lim wb wp).hint = .increasing))
                  · have epi := rd_pi_no h68
                    go_wp2_with fail
                    go_meet
                    case rel => exact ⟨by rw [epi], by rw [epi]; exact HK3.out⟩
                  · have epi := rd_pi_yes h68
                    have hcp : Hid (Calls Tryz.prog 114 #[.agg #[.func (.func gl) #[] lb, .func (.func sf) #[] sb], .int .i64 a', .int .i64 b'] wc (PInsIs g n m (rd lt dk a' b' lim wb wp).pi wc)) := by
                      show Calls _ _ _ _ _
                      rw [epi]
                      exact sort_partial HE.out (rd lt dk a' b' lim wb wp).d2 wc (HW0.out.trans HK3.out.mv) a' b' (by omega) hb'
                    cases hp2 : (rd lt dk a' b' lim wb wp).pi.2
                    · go_wp2_with (go_at_call 114; refine hcp.out.mono ?_; rintro e w4 ⟨rfl, hw4⟩; rw [hp2]; have HW4 := Lib.hid hw4; clear hw4)
                      go_meet
                      exact ⟨hp2, HK3.out.moved HW4.out⟩
                    · go_wp2_with (go_at_call 114; refine hcp.out.mono ?_; rintro e w4 ⟨rfl, hw4⟩; rw [hp2]; have HW4 := Lib.hid hw4; clear hw4)
                      go_end0
                      refine ⟨rfl, ?_⟩
                      rw [← A.out, pdq_done h12 hl0 hp2]
                      exact HK3.out.mv.trans HW4.out
                case rest =>
                  obtain ⟨hp2, hs5⟩ := hcut
                  clear x0 x1 HK3
                  have x0 := hs5.c0
                  have x1 := hs5.c1
                  have HK5 := Lib.hid hs5
                  have hl5 : (rd lt dk a' b' lim wb wp).pi.1.size = n := hs5.mv.len
                  clear hs5
                  go_upto_region 18 with fail
                  go_cut [83] from 19 (fun s83 wx => s83 = .bool (decide (a' > 0) && !lt (rd lt dk a' b' lim wb wp).pi.1[a' - 1]! (rd lt dk a' b' lim wb wp).pi.1[(rd lt dk a' b' lim wb wp).pivot]!) ∧ InS g n m w.heap.size gl lb sf sb (rd lt dk a' b' lim wb wp).pi.1 w wx)
                  case first =>
                    rcases Nat.eq_zero_or_pos a' with ha0 | ha0
                    · have ha0z : decide ((0 : Int) < (a' : Int)) = false := decide_eq_false (by omega)
                      go_wp2_with fail
                      go_meet
                      case rel => exact ⟨by simp [ha0], HK5.out⟩
                    · have ha0z : decide ((0 : Int) < (a' : Int)) = true := decide_eq_true (by omega)
                      cases hlv : lt (rd lt dk a' b' lim wb wp).pi.1[a' - 1]! (rd lt dk a' b' lim wb wp).pi.1[(rd lt dk a' b' lim wb wp).pivot]! <;>
                        (go_wp2_with (go_at_fn gl; refine (HK5.out.less HE.out HW0.out (a' - 1) (rd lt dk a' b' lim wb wp).pivot _ _ (by omega) (by omega) (by omega) (by omega)).mono ?_; rw [hlv]; rintro e w' ⟨rfl, hs6⟩; have HK6 := Lib.hid hs6; clear hs6)
                         go_meet
                         exact ⟨by simp [ha0, hlv], HK6.out⟩)
                  case rest =>
                    obtain ⟨rfl, hs6⟩ := hcut
                    clear x0 x1 HK5
                    have x0 := hs6.c0
                    have x1 := hs6.c1
                    have HK6 := Lib.hid hs6
                    clear hs6
                    cases h87 : (decide (a' > 0) && !lt (rd lt dk a' b' lim wb wp).pi.1[a' - 1]! (rd lt dk a' b' lim wb wp).pi.1[(rd lt dk a' b' lim wb wp).pivot]!)
                    · obtain ⟨mid, ap, d4, hx⟩ : ∃ mid ap d4, partition lt (rd lt dk a' b' lim wb wp).pi.1 a' b' (rd lt dk a' b' lim wb wp).pivot = (mid, ap, d4) := ⟨_, _, _, rfl⟩
                      obtain ⟨r1, r2, r3, r4, r5, r6, r7⟩ := round_part hO (partition_holds lt) hpv.1 hpv.2 (show b' ≤ (rd lt dk a' b' lim wb wp).pi.1.size by omega) HB3.out hx
                      have hcp : Hid (Calls Tryz.prog 116 #[.agg #[.func (.func gl) #[] lb, .func (.func sf) #[] sb], .int .i64 a', .int .i64 b', .int .i64 ((rd lt dk a' b' lim wb wp).pivot : Nat)] wc (PartIs g n m (mid, ap, d4) wc)) := by
                        show Calls _ _ _ _ _
                        rw [← hx]
                        exact sort_part HE.out (rd lt dk a' b' lim wb wp).pi.1 wc (HW0.out.trans HK6.out.mv) a' b' (rd lt dk a' b' lim wb wp).pivot (by omega) hb' (by omega)
                      have X := Lib.hid hx
                      have R4 := Lib.hid r4
                      have R5 := Lib.hid r5
                      have R6 := Lib.hid r6
                      have R7 := Lib.hid r7
                      clear hx r4 r5 r6 r7
                      go_upto_if 109 with (go_at_call 116; refine hcp.out.mono ?_; rintro e w7 ⟨rfl, hw7⟩; have HW7 := Lib.hid hw7; clear hw7)
                      have HK7 := Lib.hid (HK6.out.moved HW7.out)
                      clear x0 x1 hcp HW7 HK6
                      have x0 := HK7.out.c0
                      have x1 := HK7.out.c1
                      have hs4 : d4.size = n := HK7.out.mv.len
                      have hlim2 : (rd lt dk a' b' lim wb wp).lim ≤ lim := rd_lim_le
                      by_cases h4 : mid - a' < b' - mid
                      · have h4z : (mid : Int) - (a' : Int) < (b' : Int) - (mid : Int) := by omega
                        obtain ⟨pL, sL⟩ := pdq_sorts lt hO d4 a' mid (rd lt dk a' b' lim wb wp).lim true true (by omega) (by omega) R4.out
                        have PL := Lib.hid pL
                        have SL := Lib.hid sL
                        clear pL sL
                        go_wp2_with (go_at_call 83; refine (IH.out a' mid (rd lt dk a' b' lim wb wp).lim d4 w7 (by omega) (HW0.out.trans HK7.out.mv) (by omega) (by omega) (by omega) R4.out).mono ?_; rintro e w8 ⟨rfl, hw8⟩; have HW8 := Lib.hid hw8; clear hw8)
                        go_roundg (b' - (mid + 1))
                        case measure => omega
                        case rel =>
                          refine ⟨mid + 1, b', (rd lt dk a' b' lim wb wp).lim, decide (mid - a' ≥ (b' - a') / 8), ap, pdq lt d4 a' mid (rd lt dk a' b' lim wb wp).lim true true, by simp, rfl, rfl, ?_, rfl, by omega, by omega, Nat.le_refl _, by omega, by omega, (R6.out _ PL.out SL.out).1, HK7.out.moved HW8.out, ?_⟩
                          · exact congrArg Value.bool (eighth (by omega) (by omega))
                          · rw [← A.out, pdq_left h12 hl0 hp2 h87 (by rw [X.out]; exact ⟨r1, r2⟩) (by rw [X.out]; exact h4), X.out]
                      · have h4z : ¬ ((mid : Int) - (a' : Int) < (b' : Int) - (mid : Int)) := by omega
                        have hih : ∀ x : Int, x = ((mid + 1 : Nat) : Int) → Hid (Calls Tryz.prog 83 #[.agg #[.func (.func gl) #[] lb, .func (.func sf) #[] sb], .int .i64 x, .int .i64 b', .int .i64 ((rd lt dk a' b' lim wb wp).lim : Nat)] w7 (SortsTo g n m (pdq lt d4 (mid + 1) b' (rd lt dk a' b' lim wb wp).lim true true) w7)) := fun x hx => by
                          subst hx
                          exact IH.out (mid + 1) b' (rd lt dk a' b' lim wb wp).lim d4 w7 (by omega) (HW0.out.trans HK7.out.mv) (by omega) (by omega) (by omega) R5.out
                        obtain ⟨pL, sL⟩ := pdq_sorts lt hO d4 (mid + 1) b' (rd lt dk a' b' lim wb wp).lim true true (by omega) (by omega) R5.out
                        have PL := Lib.hid pL
                        have SL := Lib.hid sL
                        clear pL sL
                        go_wp2_with (go_at_call 83; refine (hih _ (by omega)).out.mono ?_; rintro e w8 ⟨rfl, hw8⟩; have HW8 := Lib.hid hw8; clear hw8)
                        go_roundg (mid - a')
                        case measure => omega
                        case rel =>
                          refine ⟨a', mid, (rd lt dk a' b' lim wb wp).lim, decide (b' - mid ≥ (b' - a') / 8), ap, pdq lt d4 (mid + 1) b' (rd lt dk a' b' lim wb wp).lim true true, rfl, rfl, rfl, ?_, rfl, by omega, by omega, Nat.le_refl _, by omega, by omega, (R7.out _ PL.out SL.out).1, HK7.out.moved HW8.out, ?_⟩
                          · exact congrArg Value.bool (eighth (by omega) (by omega))
                          · rw [← A.out, pdq_right h12 hl0 hp2 h87 (by rw [X.out]; exact ⟨r1, r2⟩) (by rw [X.out]; exact h4), X.out]
                    · have h87' := h87
                      simp only [Bool.and_eq_true, decide_eq_true_eq, Bool.not_eq_true'] at h87'
                      obtain ⟨mid, d4, hx⟩ : ∃ mid d4, partitionEqual lt (rd lt dk a' b' lim wb wp).pi.1 a' b' (rd lt dk a' b' lim wb wp).pivot = (mid, d4) := ⟨_, _, rfl⟩
                      obtain ⟨r1, r2, r3, r4, _⟩ := round_eq hO (partitionEqual_holds lt) h87'.1 hpv.1 hpv.2 (show b' ≤ (rd lt dk a' b' lim wb wp).pi.1.size by omega) HB3.out h87'.2 hx
                      have hcp : Hid (Calls Tryz.prog 115 #[.agg #[.func (.func gl) #[] lb, .func (.func sf) #[] sb], .int .i64 a', .int .i64 b', .int .i64 ((rd lt dk a' b' lim wb wp).pivot : Nat)] wc (PartEqIs g n m (mid, d4) wc)) := by
                        show Calls _ _ _ _ _
                        rw [← hx]
                        exact sort_partEq HE.out (rd lt dk a' b' lim wb wp).pi.1 wc (HW0.out.trans HK6.out.mv) a' b' (rd lt dk a' b' lim wb wp).pivot (by omega) hb' (by omega)
                      have X := Lib.hid hx
                      have R4 := Lib.hid r4
                      have hlim2 : (rd lt dk a' b' lim wb wp).lim ≤ lim := rd_lim_le
                      clear hx r4 h87'
                      go_wp2_with (go_at_call 115; refine hcp.out.mono ?_; rintro e w7 ⟨rfl, hw7⟩; have HW7 := Lib.hid hw7; clear hw7)
                      go_roundg (b' - mid)
                      case measure => omega
                      case rel =>
                        exact ⟨mid, b', (rd lt dk a' b' lim wb wp).lim, wb, wp, d4, rfl, rfl, rfl, rfl, rfl, r2, hb', Nat.le_refl _, by omega, by omega, R4.out, HK6.out.moved HW7.out, by rw [← A.out, pdq_eq h12 hl0 hp2 h87 (by rw [X.out]; exact ⟨r1, r2⟩), X.out]⟩

end Go.Proofs.YtgolhmiocjpohaaGreatDoor
