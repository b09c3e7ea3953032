/- Go's own reading of floats on whole numbers of at most fifteen digits: no name (153), the digits read (154). No condition beyond that on the text. -/
import Derived.Test.YtgolhmiocjpohaaGreatDoorStd4
import Derived.Test.YtgolhmiocjpohaaGreatDoorLight4
set_option linter.unusedVariables false
set_option linter.unusedSimpArgs false
namespace Go.Proofs.YtgolhmiocjpohaaGreatDoor
open Go.RowKit Go.PlainAid

set_option maxHeartbeats 1600000 in
set_option maxRecDepth 100000 in
theorem std_special_whole (s : ByteArray) (w : World) (h : WholeP s) :
    Calls Tryz.prog 153 #[.string s] w fun e w' => (∃ (x : Nat) (n : Int), e = .returned (.tuple #[.float .f64 x, .int .i64 n, .bool false])) ∧ Below w.heap.size w w' := by
  have hbody := h.body
  have hb := get_bt s
  by_cases hm : 0 < s.size ∧ bt s 0 = 45
  · have hneg : negP s = true := by unfold negP; simp [hm]
    have hbo : bodyOf s = s.extract 1 s.size := by unfold bodyOf; rw [hneg]; rfl
    rw [hbo] at hbody
    have hsz : s.size ≤ 16 := by have := hbody.2.1; have := hbody.1; simp at *; omega
    have hts : (s.extract 1 s.size).size ≤ 2147483647 := by have := hbody.2.1; omega
    obtain ⟨t, ht⟩ : ∃ t, t = s.extract 1 s.size := ⟨_, rfl⟩
    rw [← ht] at hts hbody
    have htt : s.extract 1 s.size = t := ht.symm
    have h0 := hbody.2.2 0 hbody.1
    have K1 := Lib.hid (fun w => std_prefix t ⟨#[105, 110, 102, 105, 110, 105, 116, 121]⟩ w hts (by decide))
    have HP : Hid (∀ k : Nat, (∀ i, i < k → lowerI (bt t i) = bt ⟨#[105, 110, 102, 105, 110, 105, 116, 121]⟩ i) → k = 0) := fun k hall => by
      rcases Nat.eq_zero_or_pos k with e | e
      · exact e
      · exfalso
        have := hall 0 e
        unfold lowerI at this
        rw [if_neg (by omega)] at this
        have e105 : bt ⟨#[105, 110, 102, 105, 110, 105, 116, 121]⟩ 0 = 105 := by decide
        omega
    have e0 : ((s.size : Int) == 0) = false := beq_eq_false_iff_ne.2 (by omega)
    have h1s : (1 : Int) ≤ (s.size : Int) := by omega
    have k1 : (bt s 0 == 43) = false := by simp [hm.2]
    have k2 : (bt s 0 == 45) = true := by simp [hm.2]
    have hp : 0 < s.size := hm.1
    clear hm hbody hbo hneg ht h0 h
    go_enter Tryz.func153, Tryz.ntmps153
    go_wp2_with (first
        | (go_at_call 180; (with_reducible refine (K1.out _).mono ?_); rintro e w1 ⟨k, rfl, hk1, hk2, hall, rfl⟩; have hk0 := HP.out k hall; subst hk0; clear hall hk1 hk2)
        | (go_at_call 181; (with_reducible refine (std_inf _).mono ?_); rintro e w1 ⟨⟨x, rfl⟩, rfl⟩))
    trace_state
    go_ret3
    exact ⟨⟨_, _, rfl⟩, Below.refl _ _⟩
  · have hneg : negP s = false := by unfold negP; simp [hm]
    have hbo : bodyOf s = s := by unfold bodyOf; rw [hneg]; rfl
    rw [hbo] at hbody
    have h0 := hbody.2.2 0 hbody.1
    have hp : 0 < s.size := hbody.1
    have hsz : s.size ≤ 15 := hbody.2.1
    have e0 : ((s.size : Int) == 0) = false := beq_eq_false_iff_ne.2 (by omega)
    have k1 : (bt s 0 == 43) = false := by simp; omega
    have k2 : (bt s 0 == 45) = false := by simp; omega
    have k3 : (bt s 0 == 105) = false := by simp; omega
    have k4 : (bt s 0 == 73) = false := by simp; omega
    have k5 : (bt s 0 == 110) = false := by simp; omega
    have k6 : (bt s 0 == 78) = false := by simp; omega
    clear hm hbody hbo hneg h0 h
    go_enter Tryz.func153, Tryz.ntmps153
    go_wp2
    go_ret3
    exact ⟨⟨_, _, rfl⟩, Below.refl _ _⟩

end Go.Proofs.YtgolhmiocjpohaaGreatDoor
