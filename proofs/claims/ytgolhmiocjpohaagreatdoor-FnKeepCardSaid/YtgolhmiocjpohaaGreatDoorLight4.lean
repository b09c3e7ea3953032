/- Go's own reading of floats (154) refuses a text that is empty or begins with a letter. The light ParseFloat reads a whole number of at most fifteen digits as the float that it is. No condition beyond that on the text. -/
import Derived.WalkMore
import Derived.Test.YtgolhmiocjpohaaGreatDoorStd2
import Derived.Laws.Externs
import Derived.Test.YtgolhmiocjpohaaGreatDoorTx2
import Derived.Test.YtgolhmiocjpohaaGreatDoorGen6
set_option linter.unusedVariables false
set_option linter.unusedSimpArgs false
namespace Go.Proofs.YtgolhmiocjpohaaGreatDoor
open Go.RowKit Go.PlainAid

/-- A post of readFloat: no number. -/
def ReadNo (w : World) (e : Ending) (w' : World) : Prop :=
 ∃ (m x n : Int) (a b c : Bool), e = .returned (.tuple #[.int .u64 m, .int .i64 x, .bool a, .bool b, .bool c, .int .i64 n, .bool false]) ∧ w = w'

set_option maxHeartbeats 3200000 in
set_option maxRecDepth 100000 in
theorem std_read_none (s : ByteArray) (w : World) (hs : s.size ≤ 2147483647) (h : NoHead s) : Calls Tryz.prog 154 #[.string s] w (ReadNo w) := by
 have hb := get_bt s
 rcases h with h | ⟨h0, h⟩
 ·have e0 : decide ((s.size : Int) ≤ 0) = true := decide_eq_true (by omega)
  go_enter Tryz.func154, Tryz.ntmps154
  go_wp2
  go_step3
  go_wp2
  rw [Exit.noGoto_ret]
  have hr : Tryz.f154.results = #[.tmp 2, .tmp 3, .tmp 4, .tmp 5, .tmp 6, .tmp 7, .tmp 8] := rfl
  refine bodyPost_ret (v := .tuple #[.int .u64 0, .int .i64 0, .bool false, .bool false, .bool false, .int .i64 0, .bool false]) (by simp [results, hr, go_sem]) rfl ⟨0, 0, 0, false, false, false, rfl, rfl⟩
 ·have e0 : decide ((s.size : Int) ≤ 0) = false := decide_eq_false (by omega)
  have hne : decide (s = ByteArray.empty) = false := decide_eq_false (fun h => by rw [h] at h0; simp at h0)
  have e1 : decide ((0 : Int) < (s.size : Int)) = true := decide_eq_true (by omega)
  have k1 : (bt s 0 == 43) = false := by rcases h with h | h <;> simp <;> omega
  have k2 : (bt s 0 == 45) = false := by rcases h with h | h <;> simp <;> omega
  have k3 : (bt s 0 == 48) = false := by rcases h with h | h <;> simp <;> omega
  have k4 : (bt s 0 == 95) = false := by rcases h with h | h <;> simp <;> omega
  have k5 : (bt s 0 == 46) = false := by rcases h with h | h <;> simp <;> omega
  have k6 : decide (48 ≤ bt s 0) = true := decide_eq_true (by rcases h with h | h <;> omega)
  have k7 : decide (bt s 0 ≤ 57) = false := decide_eq_false (by rcases h with h | h <;> omega)
  clear h
  by_cases h2 : 2 < s.size
  ·have d2 : decide ((2 : Int) < (s.size : Int)) = true := decide_eq_true (by omega)
   go_enter Tryz.func154, Tryz.ntmps154
   go_wp2_with fail
   go_step3
   go_wp2_with fail
   go_step3
   go_wp2_with fail
   refine wp_loop_rounds 1 ?_
   rw [rounds_succ]
   go_wp2_with fail
   rw [Exit.noGoto_ret]
   have hr : Tryz.f154.results = #[.tmp 2, .tmp 3, .tmp 4, .tmp 5, .tmp 6, .tmp 7, .tmp 8] := rfl
   refine bodyPost_ret (v := .tuple #[.int .u64 0, .int .i64 0, .bool false, .bool false, .bool false, .int .i64 0, .bool false]) (by simp [results, hr, go_sem]) rfl ⟨0, 0, 0, false, false, false, rfl, rfl⟩
  ·have d2 : decide ((2 : Int) < (s.size : Int)) = false := decide_eq_false (by omega)
   go_enter Tryz.func154, Tryz.ntmps154
   go_wp2_with fail
   go_step3
   go_wp2_with fail
   go_step3
   go_wp2_with fail
   refine wp_loop_rounds 1 ?_
   rw [rounds_succ]
   go_wp2_with fail
   rw [Exit.noGoto_ret]
   have hr : Tryz.f154.results = #[.tmp 2, .tmp 3, .tmp 4, .tmp 5, .tmp 6, .tmp 7, .tmp 8] := rfl
   refine bodyPost_ret (v := .tuple #[.int .u64 0, .int .i64 0, .bool false, .bool false, .bool false, .int .i64 0, .bool false]) (by simp [results, hr, go_sem]) rfl ⟨0, 0, 0, false, false, false, rfl, rfl⟩

end Go.Proofs.YtgolhmiocjpohaaGreatDoor

namespace Go.Proofs.YtgolhmiocjpohaaGreatDoor
open Go.RowKit Go.PlainAid

theorem call168 (n : Int) (w : World) : (callFunc 168 #[.int .u64 n]).run Tryz.prog w = .ok (.value (.float .f64 n.toNat)) w :=
 (run_callFunc_extern Tryz.func168 (by kernel_rfl) (by kernel_rfl) (by kernel_rfl) (e := Extern.MathFloatBits.float64frombits) (by kernel_rfl) #[.int .u64 n] w).trans rfl

set_option maxHeartbeats 400000 in
set_option maxRecDepth 100000 in
theorem light_float (n : Nat) (w : World) : Calls Tryz.prog 144 #[form64, .int .u64 (n : Int)] w fun e w' => e = .returned (.float .f64 n) ∧ Below w.heap.size w w' := by
 go_enter Tryz.func144, Tryz.ntmps144
 go_wp2_with fail
 rw [call168, Oper.upon_value]
 go_wp2_with fail
 go_ret
 exact ⟨rfl, (Below.refl _ _).alloc (Nat.le_refl _) _⟩

theorem formAt_alloc (w : World) : FormAt (w.alloc (.cells #[.int .i64 52, .int .i64 11, .int .i64 (-1023)] 227)) w.heap.size :=
 ⟨by rw [World.cell?_alloc_at _ _ _ _ rfl]; rfl, by rw [World.cell?_alloc_at _ _ _ _ rfl]; rfl, by rw [World.cell?_alloc_at _ _ _ _ rfl]; rfl⟩

theorem FormAt.below {w w' : World} {g : Nat} (h : FormAt w g) (hb : Below w.heap.size w w') (hg : g < w.heap.size) : FormAt w' g := h.only (b := w.heap.size) (Only.of hb) hg (by omega)

theorem or_zero_u64 (n : Nat) (h : n < 2 ^ 64) : bits .or .u64 0 (n : Int) = (n : Int) := by
 have := bits_or_u64 0 n (by omega) h
 simpa using this

theorem or_sign_u64 (n : Nat) (h : n < 2 ^ 63) : bits .or .u64 9223372036854775808 (n : Int) = ((2 ^ 63 + n : Nat) : Int) := by
 have h1 := bits_or_u64 (2 ^ 63) n (by omega) (by omega)
 have h2 : 2 ^ 63 ||| n = 2 ^ 63 + n := by
  have := Nat.two_pow_add_eq_or_of_lt h 1
  rw [Nat.mul_one] at this
  exact this.symm
 rw [h2] at h1
 exact h1

theorem bt_tail (s : ByteArray) (i : Nat) (h : i + 1 < s.size) : bt (s.extract 1 s.size) i = bt s (i + 1) := by
 unfold bt
 rw [dif_pos (by simp; omega), dif_pos h]
 simp [ByteArray.getElem_extract]
 congr 3
 omega

end Go.Proofs.YtgolhmiocjpohaaGreatDoor
