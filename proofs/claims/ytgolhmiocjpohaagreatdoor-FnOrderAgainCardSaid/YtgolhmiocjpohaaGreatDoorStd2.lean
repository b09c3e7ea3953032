/- Go's own reading of floats: its look for the names of floats (153), on letters that are none. -/
import Derived.Test.YtgolhmiocjpohaaGreatDoorStd1
import Derived.Test.YtgolhmiocjpohaaGreatDoorLight1
import Derived.Laws.Externs
set_option linter.unusedVariables false
set_option linter.unusedSimpArgs false
namespace Go.Proofs.YtgolhmiocjpohaaGreatDoor
open Go.RowKit Go.PlainAid

/-- A post: no name of a float to the text's end. -/
def NoName (s : ByteArray) (w : World) (e : Ending) (w' : World) : Prop :=
  ∃ (x n : Nat) (ok : Bool), e = .returned (.tuple #[.float .f64 x, .int .i64 n, .bool ok]) ∧ (ok = true → n ≠ s.size) ∧ w = w'

set_option maxHeartbeats 1600000 in
set_option maxRecDepth 100000 in
theorem std_special_empty (s : ByteArray) (w : World) (h : s.size = 0) : Calls Tryz.prog 153 #[.string s] w (NoName s w) := by
  have d : ((s.size : Int) == 0) = true := by simp [h]
  have e : (s.size : Int) = 0 := by omega
  go_enter Tryz.func153, Tryz.ntmps153
  go_wp2
  go_ret3
  exact ⟨0, 0, false, rfl, fun h => by simp at h, rfl⟩

theorem call163 (n : Int) (w : World) : (callFunc 163 #[.int .u64 n]).run Tryz.prog w = .ok (.value (.float .f64 n.toNat)) w :=
  (run_callFunc_extern Tryz.func163 (by kernel_rfl) (by kernel_rfl) (by kernel_rfl) (e := Extern.MathFloatBits.float64frombits) (by kernel_rfl) #[.int .u64 n] w).trans rfl

set_option maxHeartbeats 400000 in
set_option maxRecDepth 100000 in
theorem std_inf (w : World) : Calls Tryz.prog 181 #[.int .i64 1] w fun e w' => (∃ x, e = .returned (.float .f64 x)) ∧ w' = w := by
  go_enter Tryz.func181, Tryz.ntmps181
  go_wp2
  rw [call163, Oper.upon_value]
  go_wp2
  go_ret
  exact ⟨⟨_, rfl⟩, rfl⟩

set_option maxHeartbeats 400000 in
set_option maxRecDepth 100000 in
theorem std_nan (w : World) : Calls Tryz.prog 182 #[] w fun e w' => (∃ x, e = .returned (.float .f64 x)) ∧ w' = w := by
  go_enter Tryz.func182, Tryz.ntmps182
  go_wp2
  rw [call163, Oper.upon_value]
  go_wp2
  go_ret
  exact ⟨⟨_, rfl⟩, rfl⟩

theorem sz3 : (⟨#[110, 97, 110]⟩ : ByteArray).size = 3 := rfl
theorem sz8 : (⟨#[105, 110, 102, 105, 110, 105, 116, 121]⟩ : ByteArray).size = 8 := rfl

set_option maxHeartbeats 3200000 in
set_option maxRecDepth 100000 in
theorem std_special_word (s : ByteArray) (w : World) (hs : s.size ≤ 2147483647) (h : WordedP s) (h1 : ¬ FoldP s wNan) (h2 : ¬ FoldP s wInf) (h3 : ¬ FoldP s wInfinity) : Calls Tryz.prog 153 #[.string s] w (NoName s w) := by
  have K1 := Lib.hid (fun w => std_prefix s ⟨#[105, 110, 102, 105, 110, 105, 116, 121]⟩ w hs (by decide))
  have K2 := Lib.hid (fun w => std_prefix s ⟨#[110, 97, 110]⟩ w hs (by decide))
  have hp := h.1
  have hh := h.2 0 h.1
  have hb := get_bt s
  have H1 := Lib.hid h1
  have H2 := Lib.hid h2
  have H3 := Lib.hid h3
  clear h h1 h2 h3
  have e0 : ((s.size : Int) == 0) = false := beq_eq_false_iff_ne.2 (by omega)
  have k1 : (bt s 0 == 43) = false := by rcases hh with h | h <;> simp <;> omega
  have k2 : (bt s 0 == 45) = false := by rcases hh with h | h <;> simp <;> omega
  have inf3 : Hid (∀ k : Nat, 3 ≤ k → (∀ i, i < k → lowerI (bt s i) = bt ⟨#[105, 110, 102, 105, 110, 105, 116, 121]⟩ i) → 3 ≠ s.size) := fun k hk hall e => by
    refine H2.out ⟨by rw [← e]; rfl, fun i hi => ?_⟩
    rw [hall i (by omega)]
    have : i = 0 ∨ i = 1 ∨ i = 2 := by omega
    rcases this with rfl | rfl | rfl <;> rfl
  have inf8 : Hid (∀ k : Nat, 8 ≤ k → (∀ i, i < k → lowerI (bt s i) = bt ⟨#[105, 110, 102, 105, 110, 105, 116, 121]⟩ i) → 8 ≠ s.size) := fun k hk hall e => by
    refine H3.out ⟨by rw [← e]; rfl, fun i hi => ?_⟩
    exact hall i (by omega)
  have nan3 : Hid (∀ k : Nat, 3 ≤ k → (∀ i, i < k → lowerI (bt s i) = bt ⟨#[110, 97, 110]⟩ i) → 3 ≠ s.size) := fun k hk hall e => by
    refine H1.out ⟨by rw [← e]; rfl, fun i hi => ?_⟩
    exact hall i (by omega)
  clear hh
  by_cases c1 : bt s 0 = 105 ∨ bt s 0 = 73
  · rcases c1 with c1 | c1
    · have m1 : (bt s 0 == 105) = true := by simp [c1]
      clear c1
      go_enter Tryz.func153, Tryz.ntmps153
      go_wp2_with (first
        | (go_at_call 180; (with_reducible refine (K1.out _).mono ?_); rintro e w1 ⟨k, rfl, hk1, hk2, hall, rfl⟩; have HA := Lib.hid hall; clear hall; rw [sz8] at hk2)
        | (go_at_call 181; (with_reducible refine (std_inf _).mono ?_); rintro e w1 ⟨⟨x, rfl⟩, rfl⟩))
      all_goals
        go_ret3
        simp only [beq_iff_eq] at *
        first
          | exact ⟨_, 3, true, rfl, fun _ => inf3.out k (by omega) HA.out, rfl⟩
          | exact ⟨_, 0, false, rfl, fun h => by simp at h, rfl⟩
          | (have hk : k = 3 ∨ k = 8 := by omega
             rcases hk with rfl | rfl
             · exact ⟨_, 3, true, rfl, fun _ => inf3.out 3 (by omega) HA.out, rfl⟩
             · exact ⟨_, 8, true, rfl, fun _ => inf8.out 8 (by omega) HA.out, rfl⟩)
    · have m1 : (bt s 0 == 105) = false := by simp [c1]
      have m2 : (bt s 0 == 73) = true := by simp [c1]
      clear c1
      go_enter Tryz.func153, Tryz.ntmps153
      go_wp2_with (first
        | (go_at_call 180; (with_reducible refine (K1.out _).mono ?_); rintro e w1 ⟨k, rfl, hk1, hk2, hall, rfl⟩; have HA := Lib.hid hall; clear hall; rw [sz8] at hk2)
        | (go_at_call 181; (with_reducible refine (std_inf _).mono ?_); rintro e w1 ⟨⟨x, rfl⟩, rfl⟩))
      all_goals
        go_ret3
        simp only [beq_iff_eq] at *
        first
          | exact ⟨_, 3, true, rfl, fun _ => inf3.out k (by omega) HA.out, rfl⟩
          | exact ⟨_, 0, false, rfl, fun h => by simp at h, rfl⟩
          | (have hk : k = 3 ∨ k = 8 := by omega
             rcases hk with rfl | rfl
             · exact ⟨_, 3, true, rfl, fun _ => inf3.out 3 (by omega) HA.out, rfl⟩
             · exact ⟨_, 8, true, rfl, fun _ => inf8.out 8 (by omega) HA.out, rfl⟩)
  · have m1 : (bt s 0 == 105) = false := by simp; omega
    have m2 : (bt s 0 == 73) = false := by simp; omega
    clear c1
    by_cases c2 : bt s 0 = 110 ∨ bt s 0 = 78
    · rcases c2 with c2 | c2
      · have m3 : (bt s 0 == 110) = true := by simp [c2]
        clear c2
        go_enter Tryz.func153, Tryz.ntmps153
        go_wp2_with (first
          | (go_at_call 180; (with_reducible refine (K2.out _).mono ?_); rintro e w1 ⟨k, rfl, hk1, hk2, hall, rfl⟩; have HA := Lib.hid hall; clear hall; rw [sz3] at hk2)
          | (go_at_call 182; (with_reducible refine (std_nan _).mono ?_); rintro e w1 ⟨⟨x, rfl⟩, rfl⟩))
        all_goals
          go_ret3
          simp only [beq_iff_eq] at *
          first
            | exact ⟨_, 3, true, rfl, fun _ => nan3.out k (by omega) HA.out, rfl⟩
            | exact ⟨_, 0, false, rfl, fun h => by simp at h, rfl⟩
      · have m3 : (bt s 0 == 110) = false := by simp [c2]
        have m4 : (bt s 0 == 78) = true := by simp [c2]
        clear c2
        go_enter Tryz.func153, Tryz.ntmps153
        go_wp2_with (first
          | (go_at_call 180; (with_reducible refine (K2.out _).mono ?_); rintro e w1 ⟨k, rfl, hk1, hk2, hall, rfl⟩; have HA := Lib.hid hall; clear hall; rw [sz3] at hk2)
          | (go_at_call 182; (with_reducible refine (std_nan _).mono ?_); rintro e w1 ⟨⟨x, rfl⟩, rfl⟩))
        all_goals
          go_ret3
          simp only [beq_iff_eq] at *
          first
            | exact ⟨_, 3, true, rfl, fun _ => nan3.out k (by omega) HA.out, rfl⟩
            | exact ⟨_, 0, false, rfl, fun h => by simp at h, rfl⟩
    · have m3 : (bt s 0 == 110) = false := by simp; omega
      have m4 : (bt s 0 == 78) = false := by simp; omega
      clear c2
      go_enter Tryz.func153, Tryz.ntmps153
      go_wp2
      go_ret3
      exact ⟨0, 0, false, rfl, fun h => by simp at h, rfl⟩

end Go.Proofs.YtgolhmiocjpohaaGreatDoor
