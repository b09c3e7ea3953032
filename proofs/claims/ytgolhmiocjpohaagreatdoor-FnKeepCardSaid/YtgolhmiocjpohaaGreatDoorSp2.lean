/- How far a text is the head of a word (180): to the full. No condition beyond sizes. Which floats infinity (181) and not-a-number (182) are. No condition. -/
import Derived.Test.YtgolhmiocjpohaaGreatDoorStd2
set_option linter.unusedVariables false
set_option linter.unusedSimpArgs false
namespace Go.Proofs.YtgolhmiocjpohaaGreatDoor
open Go.RowKit Go.PlainAid

/-- A post: so many bytes are the word's, but for the case; the next one is not. -/
def PrefixMax (s word : ByteArray) (w : World) (e : Ending) (w' : World) : Prop :=
 ∃ k : Nat, e = .returned (.int .i64 k) ∧ k ≤ s.size ∧ k ≤ word.size ∧ (∀ i, i < k → lowerI (bt s i) = bt word i) ∧ (k = word.size ∨ k = s.size ∨ lowerI (bt s k) ≠ bt word k) ∧ w = w'

set_option maxHeartbeats 1600000 in
set_option maxRecDepth 100000 in
theorem std_prefix_max (s word : ByteArray) (w : World) (hs : s.size ≤ 2147483647) (hw : word.size ≤ 2147483647) : Calls Tryz.prog 180 #[.string s, .string word] w (PrefixMax s word w) := by
 have hb := get_bt s
 have hb2 := get_bt word
 by_cases hle : word.size ≤ s.size
 ·have dm : decide ((word.size : Int) ≤ (s.size : Int)) = true := decide_eq_true (by omega)
  go_enter Tryz.func180, Tryz.ntmps180
  go_wp2
  all_goals try (exfalso; omega)
  go_loop [6] (fun v => ∃ k : Nat, v = .int .i64 k ∧ k ≤ s.size ∧ k ≤ word.size ∧ ∀ i, i < k → lowerI (bt s i) = bt word i) (fun v => word.size - (intOf v).toNat)
  case atStart => exact ⟨0, rfl, by omega, by omega, by omega⟩
  case round =>
   obtain ⟨k, rfl, hk, hkw, hall⟩ := hrel
   have HALL := Lib.hid hall
   clear hall
   by_cases hlt : k < word.size
   ·have hlt1 : k < s.size := by omega
    have hlt2 : k < word.size := by omega
    have step : lowerI (bt s k) = bt word k → Hid (∀ i, i < k + 1 → lowerI (bt s i) = bt word i) := fun h => by
     intro i hi
     by_cases e : i = k
     ·rw [e]; exact h
     ·exact HALL.out i (by omega)
    by_cases h1 : 65 ≤ bt s k ∧ bt s k ≤ 90
    ·have d1 : decide (65 ≤ bt s k) = true := decide_eq_true h1.1
     have d2 : decide (bt s k ≤ 90) = true := decide_eq_true h1.2
     have ha : (bt s k + 32) % 256 = bt s k + 32 := by omega
     have EE : Hid (bt s k + 32 = lowerI (bt s k)) := by show _ = _; unfold lowerI; rw [if_pos h1]
     clear h1
     by_cases h3 : lowerI (bt s k) = bt word k
     ·have d3 : (bt s k + 32 != bt word k) = false := by rw [EE.out]; simp [h3]
      have ST := step h3
      clear step h3
      go_wp2
      go_round
      case rel => exact ⟨k + 1, by go_num, by omega, by omega, ST.out⟩
      case measure => simp [intOf]; omega
     ·have d3 : (bt s k + 32 != bt word k) = true := by rw [EE.out]; simp [h3]
      have H3 := Lib.hid h3
      clear step h3
      go_wp2
      go_ret
      exact ⟨k, rfl, by omega, by omega, HALL.out, by first | exact Or.inr (Or.inr H3.out) | exact Or.inl (by omega) | exact Or.inr (Or.inl (by omega)), rfl⟩
    ·have EE : Hid (bt s k = lowerI (bt s k)) := by show _ = _; unfold lowerI; rw [if_neg h1]
     have EQ : ∀ b : Bool, (bt s k != bt word k) = b ↔ (lowerI (bt s k) != bt word k) = b := fun b => by rw [← EE.out]
     by_cases h2 : 65 ≤ bt s k
     ·have d1 : decide (65 ≤ bt s k) = true := decide_eq_true h2
      have d2 : decide (bt s k ≤ 90) = false := decide_eq_false (by omega)
      clear h1 h2
      by_cases h3 : lowerI (bt s k) = bt word k
      ·have d3 : (bt s k != bt word k) = false := by rw [EQ]; simp [h3]
       have ST := step h3
       clear step h3 EQ
       go_wp2
       go_round
       case rel => exact ⟨k + 1, by go_num, by omega, by omega, ST.out⟩
       case measure => simp [intOf]; omega
      ·have d3 : (bt s k != bt word k) = true := by rw [EQ]; simp [h3]
       have H3 := Lib.hid h3
       clear step h3 EQ
       go_wp2
       go_ret
       exact ⟨k, rfl, by omega, by omega, HALL.out, by first | exact Or.inr (Or.inr H3.out) | exact Or.inl (by omega) | exact Or.inr (Or.inl (by omega)), rfl⟩
     ·have d1 : decide (65 ≤ bt s k) = false := decide_eq_false h2
      clear h1 h2
      by_cases h3 : lowerI (bt s k) = bt word k
      ·have d3 : (bt s k != bt word k) = false := by rw [EQ]; simp [h3]
       have ST := step h3
       clear step h3 EQ
       go_wp2
       go_round
       case rel => exact ⟨k + 1, by go_num, by omega, by omega, ST.out⟩
       case measure => simp [intOf]; omega
      ·have d3 : (bt s k != bt word k) = true := by rw [EQ]; simp [h3]
       have H3 := Lib.hid h3
       clear step h3 EQ
       go_wp2
       go_ret
       exact ⟨k, rfl, by omega, by omega, HALL.out, by first | exact Or.inr (Or.inr H3.out) | exact Or.inl (by omega) | exact Or.inr (Or.inl (by omega)), rfl⟩
   ·go_wp2
    go_ret
    exact ⟨word.size, rfl, by omega, by omega, fun i hi => HALL.out i (by omega), Or.inl rfl, rfl⟩
 ·have dm : decide ((word.size : Int) ≤ (s.size : Int)) = false := decide_eq_false (by omega)
  go_enter Tryz.func180, Tryz.ntmps180
  go_wp2
  all_goals try (exfalso; omega)
  go_loop [6] (fun v => ∃ k : Nat, v = .int .i64 k ∧ k ≤ s.size ∧ k ≤ word.size ∧ ∀ i, i < k → lowerI (bt s i) = bt word i) (fun v => s.size - (intOf v).toNat)
  case atStart => exact ⟨0, rfl, by omega, by omega, by omega⟩
  case round =>
   obtain ⟨k, rfl, hk, hkw, hall⟩ := hrel
   have HALL := Lib.hid hall
   clear hall
   by_cases hlt : k < s.size
   ·have hlt1 : k < s.size := by omega
    have hlt2 : k < word.size := by omega
    have step : lowerI (bt s k) = bt word k → Hid (∀ i, i < k + 1 → lowerI (bt s i) = bt word i) := fun h => by
     intro i hi
     by_cases e : i = k
     ·rw [e]; exact h
     ·exact HALL.out i (by omega)
    by_cases h1 : 65 ≤ bt s k ∧ bt s k ≤ 90
    ·have d1 : decide (65 ≤ bt s k) = true := decide_eq_true h1.1
     have d2 : decide (bt s k ≤ 90) = true := decide_eq_true h1.2
     have ha : (bt s k + 32) % 256 = bt s k + 32 := by omega
     have EE : Hid (bt s k + 32 = lowerI (bt s k)) := by show _ = _; unfold lowerI; rw [if_pos h1]
     clear h1
     by_cases h3 : lowerI (bt s k) = bt word k
     ·have d3 : (bt s k + 32 != bt word k) = false := by rw [EE.out]; simp [h3]
      have ST := step h3
      clear step h3
      go_wp2
      go_round
      case rel => exact ⟨k + 1, by go_num, by omega, by omega, ST.out⟩
      case measure => simp [intOf]; omega
     ·have d3 : (bt s k + 32 != bt word k) = true := by rw [EE.out]; simp [h3]
      have H3 := Lib.hid h3
      clear step h3
      go_wp2
      go_ret
      exact ⟨k, rfl, by omega, by omega, HALL.out, by first | exact Or.inr (Or.inr H3.out) | exact Or.inl (by omega) | exact Or.inr (Or.inl (by omega)), rfl⟩
    ·have EE : Hid (bt s k = lowerI (bt s k)) := by show _ = _; unfold lowerI; rw [if_neg h1]
     have EQ : ∀ b : Bool, (bt s k != bt word k) = b ↔ (lowerI (bt s k) != bt word k) = b := fun b => by rw [← EE.out]
     by_cases h2 : 65 ≤ bt s k
     ·have d1 : decide (65 ≤ bt s k) = true := decide_eq_true h2
      have d2 : decide (bt s k ≤ 90) = false := decide_eq_false (by omega)
      clear h1 h2
      by_cases h3 : lowerI (bt s k) = bt word k
      ·have d3 : (bt s k != bt word k) = false := by rw [EQ]; simp [h3]
       have ST := step h3
       clear step h3 EQ
       go_wp2
       go_round
       case rel => exact ⟨k + 1, by go_num, by omega, by omega, ST.out⟩
       case measure => simp [intOf]; omega
      ·have d3 : (bt s k != bt word k) = true := by rw [EQ]; simp [h3]
       have H3 := Lib.hid h3
       clear step h3 EQ
       go_wp2
       go_ret
       exact ⟨k, rfl, by omega, by omega, HALL.out, by first | exact Or.inr (Or.inr H3.out) | exact Or.inl (by omega) | exact Or.inr (Or.inl (by omega)), rfl⟩
     ·have d1 : decide (65 ≤ bt s k) = false := decide_eq_false h2
      clear h1 h2
      by_cases h3 : lowerI (bt s k) = bt word k
      ·have d3 : (bt s k != bt word k) = false := by rw [EQ]; simp [h3]
       have ST := step h3
       clear step h3 EQ
       go_wp2
       go_round
       case rel => exact ⟨k + 1, by go_num, by omega, by omega, ST.out⟩
       case measure => simp [intOf]; omega
      ·have d3 : (bt s k != bt word k) = true := by rw [EQ]; simp [h3]
       have H3 := Lib.hid h3
       clear step h3 EQ
       go_wp2
       go_ret
       exact ⟨k, rfl, by omega, by omega, HALL.out, by first | exact Or.inr (Or.inr H3.out) | exact Or.inl (by omega) | exact Or.inr (Or.inl (by omega)), rfl⟩
   ·go_wp2
    go_ret
    exact ⟨s.size, rfl, by omega, by omega, fun i hi => HALL.out i (by omega), Or.inr (Or.inl rfl), rfl⟩

end Go.Proofs.YtgolhmiocjpohaaGreatDoor

namespace Go.Proofs.YtgolhmiocjpohaaGreatDoor
open Go.RowKit Go.PlainAid

set_option maxHeartbeats 400000 in
set_option maxRecDepth 100000 in
theorem std_inf_pos (w : World) : Calls Tryz.prog 181 #[.int .i64 1] w fun e w' => e = .returned (.float .f64 9218868437227405312) ∧ w' = w := by
 go_enter Tryz.func181, Tryz.ntmps181
 go_wp2
 rw [call163, Oper.upon_value]
 go_wp2
 go_ret
 exact ⟨rfl, rfl⟩

set_option maxHeartbeats 400000 in
set_option maxRecDepth 100000 in
theorem std_inf_neg (w : World) : Calls Tryz.prog 181 #[.int .i64 (-1)] w fun e w' => e = .returned (.float .f64 18442240474082181120) ∧ w' = w := by
 go_enter Tryz.func181, Tryz.ntmps181
 go_wp2
 rw [call163, Oper.upon_value]
 go_wp2
 go_ret
 exact ⟨rfl, rfl⟩

set_option maxHeartbeats 400000 in
set_option maxRecDepth 100000 in
theorem std_nan_is (w : World) : Calls Tryz.prog 182 #[] w fun e w' => e = .returned (.float .f64 9221120237041090561) ∧ w' = w := by
 go_enter Tryz.func182, Tryz.ntmps182
 go_wp2
 rw [call163, Oper.upon_value]
 go_wp2
 go_ret
 exact ⟨rfl, rfl⟩

end Go.Proofs.YtgolhmiocjpohaaGreatDoor
