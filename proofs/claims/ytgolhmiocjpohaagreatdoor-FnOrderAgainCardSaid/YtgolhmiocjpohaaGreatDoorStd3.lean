/- Go's own reading of floats (154) refuses a text that is empty or begins with a letter. -/
import Derived.Test.YtgolhmiocjpohaaGreatDoorStd2
import Derived.WalkMore
set_option linter.unusedVariables false
set_option linter.unusedSimpArgs false
namespace Go.Proofs.YtgolhmiocjpohaaGreatDoor
open Go.RowKit Go.PlainAid

/-- A post of readFloat: no number. -/
def ReadNo (w : World) (e : Ending) (w' : World) : Prop :=
  ∃ (m x n : Int) (a b c : Bool), e = .returned (.tuple #[.int .u64 m, .int .i64 x, .bool a, .bool b, .bool c, .int .i64 n, .bool false]) ∧ w = w'

set_option maxHeartbeats 3200000 in
set_option maxRecDepth 100000 in
theorem std_read_none (s : ByteArray) (w : World) (hs : s.size ≤ 2147483647) (h : NoHead s) : Calls Tryz.prog 154 #[.string s] w (ReadNo w) := by
  have hb := get_bt s
  rcases h with h | ⟨h0, h⟩
  · have e0 : decide ((s.size : Int) ≤ 0) = true := decide_eq_true (by omega)
    go_enter Tryz.func154, Tryz.ntmps154
    go_wp2
    go_step3
    go_wp2
    rw [Exit.noGoto_ret]
    have hr : Tryz.f154.results = #[.tmp 2, .tmp 3, .tmp 4, .tmp 5, .tmp 6, .tmp 7, .tmp 8] := rfl
    refine bodyPost_ret (v := .tuple #[.int .u64 0, .int .i64 0, .bool false, .bool false, .bool false, .int .i64 0, .bool false]) (by simp [results, hr, go_sem]) rfl ⟨0, 0, 0, false, false, false, rfl, rfl⟩
  · have e0 : decide ((s.size : Int) ≤ 0) = false := decide_eq_false (by omega)
    have hne : decide (s = ByteArray.empty) = false := decide_eq_false (fun h => by rw [h] at h0; simp at h0)
    have e1 : decide ((0 : Int) < (s.size : Int)) = true := decide_eq_true (by omega)
    have k1 : (bt s 0 == 43) = false := by rcases h with h | h <;> simp <;> omega
    have k2 : (bt s 0 == 45) = false := by rcases h with h | h <;> simp <;> omega
    have k3 : (bt s 0 == 48) = false := by rcases h with h | h <;> simp <;> omega
    have k4 : (bt s 0 == 95) = false := by rcases h with h | h <;> simp <;> omega
    have k5 : (bt s 0 == 46) = false := by rcases h with h | h <;> simp <;> omega
    have k6 : decide (48 ≤ bt s 0) = true := decide_eq_true (by rcases h with h | h <;> omega)
    have k7 : decide (bt s 0 ≤ 57) = false := decide_eq_false (by rcases h with h | h <;> omega)
    clear h
    by_cases h2 : 2 < s.size
    · have d2 : decide ((2 : Int) < (s.size : Int)) = true := decide_eq_true (by omega)
      go_enter Tryz.func154, Tryz.ntmps154
      go_wp2_with fail
      go_step3
      go_wp2_with fail
      go_step3
      go_wp2_with fail
      refine wp_loop_rounds 1 ?_
      rw [rounds_succ]
      go_wp2_with fail
      rw [Exit.noGoto_ret]
      have hr : Tryz.f154.results = #[.tmp 2, .tmp 3, .tmp 4, .tmp 5, .tmp 6, .tmp 7, .tmp 8] := rfl
      refine bodyPost_ret (v := .tuple #[.int .u64 0, .int .i64 0, .bool false, .bool false, .bool false, .int .i64 0, .bool false]) (by simp [results, hr, go_sem]) rfl ⟨0, 0, 0, false, false, false, rfl, rfl⟩
    · have d2 : decide ((2 : Int) < (s.size : Int)) = false := decide_eq_false (by omega)
      go_enter Tryz.func154, Tryz.ntmps154
      go_wp2_with fail
      go_step3
      go_wp2_with fail
      go_step3
      go_wp2_with fail
      refine wp_loop_rounds 1 ?_
      rw [rounds_succ]
      go_wp2_with fail
      rw [Exit.noGoto_ret]
      have hr : Tryz.f154.results = #[.tmp 2, .tmp 3, .tmp 4, .tmp 5, .tmp 6, .tmp 7, .tmp 8] := rfl
      refine bodyPost_ret (v := .tuple #[.int .u64 0, .int .i64 0, .bool false, .bool false, .bool false, .int .i64 0, .bool false]) (by simp [results, hr, go_sem]) rfl ⟨0, 0, 0, false, false, false, rfl, rfl⟩

end Go.Proofs.YtgolhmiocjpohaaGreatDoor
