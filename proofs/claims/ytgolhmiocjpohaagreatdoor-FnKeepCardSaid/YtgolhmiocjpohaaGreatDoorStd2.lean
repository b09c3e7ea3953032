/- The light reading of floats: its small functions (fold 140, underscores 146). The light reading of floats refuses a text of letters that is no name of a float, and the empty text. Go's own reading of floats: its look for the names of floats (153), on letters that are none. -/
import Derived.LoopN
import Derived.Test.YtgolhmiocjpohaaGreatDoorOrdered
import Derived.Test.YtgolhmiocjpohaaGreatDoorDec5
import Derived.Laws.Externs
set_option linter.unusedVariables false
set_option linter.unusedSimpArgs false
namespace Go.Proofs.YtgolhmiocjpohaaGreatDoor
open Go.RowKit Go.PlainAid

/-- The text is the word, but for the case of ASCII's letters. -/
def FoldP (s word : ByteArray) : Prop := s.size = word.size ∧ ∀ i, i < s.size → lowerI (bt s i) = bt word i

set_option maxHeartbeats 1600000 in
set_option maxRecDepth 100000 in
theorem light_fold (s word : ByteArray) (w : World) (hs : s.size ≤ 2147483647) :
  Calls Tryz.prog 140 #[.string s, .string word] w (BoolThat (fun b => b = true ↔ FoldP s word) w) := by
 have hb := get_bt s
 have hb2 := get_bt word
 by_cases hl : s.size = word.size
 ·have hl' : ((s.size : Int) == (word.size : Int)) = true := by simp [hl]
  have hn : ((s.size : Int) != (word.size : Int)) = false := by simp [hl]
  go_enter Tryz.func140, Tryz.ntmps140
  go_wp2
  go_loop [5] (fun v => ∃ k : Nat, v = .int .i64 k ∧ k ≤ s.size ∧ ∀ i, i < k → lowerI (bt s i) = bt word i) (fun v => s.size - (intOf v).toNat)
  case atStart => exact ⟨0, rfl, by omega, by omega⟩
  case round =>
   obtain ⟨k, rfl, hk, hall⟩ := hrel
   have HALL := Lib.hid hall
   clear hall
   by_cases hlt : k < s.size
   ·have hlt2 : k < word.size := by omega
    have step : lowerI (bt s k) = bt word k → Hid (∀ i, i < k + 1 → lowerI (bt s i) = bt word i) := fun h => by
     intro i hi
     by_cases e : i = k
     ·rw [e]; exact h
     ·exact HALL.out i (by omega)
    have stop : ¬ lowerI (bt s k) = bt word k → Hid (¬ FoldP s word) := fun h hf => h (hf.2 k hlt)
    by_cases h1 : 65 ≤ bt s k ∧ bt s k ≤ 90
    ·have d1 : decide (65 ≤ bt s k) = true := decide_eq_true h1.1
     have d2 : decide (bt s k ≤ 90) = true := decide_eq_true h1.2
     have ha : (bt s k + 32) % 256 = bt s k + 32 := by omega
     have EE : Hid (bt s k + 32 = lowerI (bt s k)) := by show _ = _; unfold lowerI; rw [if_pos h1]
     clear h1
     by_cases h3 : lowerI (bt s k) = bt word k
     ·have d3 : (bt s k + 32 != bt word k) = false := by rw [EE.out]; simp [h3]
      have ST := step h3
      clear step stop h3
      go_wp2
      go_round
      case rel => exact ⟨k + 1, by go_num, by omega, ST.out⟩
      case measure => simp [intOf]; omega
     ·have d3 : (bt s k + 32 != bt word k) = true := by rw [EE.out]; simp [h3]
      have ST := stop h3
      clear step stop h3
      go_wp2
      go_ret
      exact ⟨_, rfl, ⟨fun h => by simp at h, fun h => absurd h ST.out⟩, rfl⟩
    ·have EE : Hid (bt s k = lowerI (bt s k)) := by show _ = _; unfold lowerI; rw [if_neg h1]
     have EQ : ∀ b : Bool, (bt s k != bt word k) = b ↔ (lowerI (bt s k) != bt word k) = b := fun b => by rw [← EE.out]
     by_cases h2 : 65 ≤ bt s k
     ·have d1 : decide (65 ≤ bt s k) = true := decide_eq_true h2
      have d2 : decide (bt s k ≤ 90) = false := decide_eq_false (by omega)
      clear h1 h2
      by_cases h3 : lowerI (bt s k) = bt word k
      ·have d3 : (bt s k != bt word k) = false := by rw [EQ]; simp [h3]
       have ST := step h3
       clear step stop h3 EQ
       go_wp2
       go_round
       case rel => exact ⟨k + 1, by go_num, by omega, ST.out⟩
       case measure => simp [intOf]; omega
      ·have d3 : (bt s k != bt word k) = true := by rw [EQ]; simp [h3]
       have ST := stop h3
       clear step stop h3 EQ
       go_wp2
       go_ret
       exact ⟨_, rfl, ⟨fun h => by simp at h, fun h => absurd h ST.out⟩, rfl⟩
     ·have d1 : decide (65 ≤ bt s k) = false := decide_eq_false h2
      clear h1 h2
      by_cases h3 : lowerI (bt s k) = bt word k
      ·have d3 : (bt s k != bt word k) = false := by rw [EQ]; simp [h3]
       have ST := step h3
       clear step stop h3 EQ
       go_wp2
       go_round
       case rel => exact ⟨k + 1, by go_num, by omega, ST.out⟩
       case measure => simp [intOf]; omega
      ·have d3 : (bt s k != bt word k) = true := by rw [EQ]; simp [h3]
       have ST := stop h3
       clear step stop h3 EQ
       go_wp2
       go_ret
       exact ⟨_, rfl, ⟨fun h => by simp at h, fun h => absurd h ST.out⟩, rfl⟩
   ·go_wp2
    go_ret
    exact ⟨_, rfl, ⟨fun _ => ⟨hl, fun i hi => HALL.out i (by omega)⟩, fun _ => by simp⟩, rfl⟩
 ·have hl' : ((s.size : Int) == (word.size : Int)) = false := decide_eq_false (by omega)
  have hn : ((s.size : Int) != (word.size : Int)) = true := by simp; omega
  go_enter Tryz.func140, Tryz.ntmps140
  go_wp2
  go_ret
  exact ⟨_, rfl, ⟨fun h => by simp at h, fun h => absurd h.1 hl⟩, rfl⟩

/-- A text that is empty, or begins with a letter, is no number to the light reading. -/
def NoHead (t : ByteArray) : Prop := t.size = 0 ∨ (0 < t.size ∧ LetterP (bt t 0))

end Go.Proofs.YtgolhmiocjpohaaGreatDoor

namespace Go.Proofs.YtgolhmiocjpohaaGreatDoor
open Go.RowKit Go.PlainAid

def wNan : ByteArray := ⟨#[110, 97, 110]⟩
def wInf : ByteArray := ⟨#[105, 110, 102]⟩
def wInfinity : ByteArray := ⟨#[105, 110, 102, 105, 110, 105, 116, 121]⟩

theorem fold_no {s word : ByteArray} {w : World} (hs : s.size ≤ 2147483647) (h : ¬ FoldP s word) : Calls Tryz.prog 140 #[.string s, .string word] w fun e w' => e = .returned (.bool false) ∧ w' = w :=
 (light_fold s word w hs).mono fun e w' ⟨b, he, hb, hw⟩ => ⟨by rw [he, show b = false from Bool.eq_false_iff.2 (fun h' => h (hb.1 h'))], hw.symm⟩

set_option maxHeartbeats 400000 in
set_option maxRecDepth 100000 in
theorem light_form (w : World) : Calls Tryz.prog 143 #[.int .i64 64] w fun e w' => e = .returned (.agg #[.int .i64 52, .int .i64 11, .int .i64 (-1023)]) ∧ Below w.heap.size w w' := by
 go_enter Tryz.func143, Tryz.ntmps143
 go_wp2_with fail
 refine bodyPost_ret (v := .agg #[.int .i64 52, .int .i64 11, .int .i64 (-1023)]) ?_ rfl ⟨rfl, (Below.refl _ _).alloc (Nat.le_refl _) _⟩
 have hr : Tryz.f143.results = #[.cell 2 227] := rfl
 simp [results, hr, go_sem]

set_option maxHeartbeats 400000 in
set_option maxRecDepth 100000 in
theorem light_fail (a b c : ByteArray) (w : World) : Calls Tryz.prog 147 #[.string a, .string b, .string c] w fun e w' => (∃ t v, e = .returned (.iface t v)) ∧ Below w.heap.size w w' := by
 go_enter Tryz.func147, Tryz.ntmps147
 go_wp2_with fail
 go_ret
 exact ⟨⟨_, _, rfl⟩, (Below.refl _ _).alloc (Nat.le_refl _) _⟩

end Go.Proofs.YtgolhmiocjpohaaGreatDoor

namespace Go.Proofs.YtgolhmiocjpohaaGreatDoor
open Go.RowKit Go.PlainAid

theorem call163 (n : Int) (w : World) : (callFunc 163 #[.int .u64 n]).run Tryz.prog w = .ok (.value (.float .f64 n.toNat)) w :=
 (run_callFunc_extern Tryz.func163 (by kernel_rfl) (by kernel_rfl) (by kernel_rfl) (e := Extern.MathFloatBits.float64frombits) (by kernel_rfl) #[.int .u64 n] w).trans rfl

theorem sz3 : (⟨#[110, 97, 110]⟩ : ByteArray).size = 3 := rfl
theorem sz8 : (⟨#[105, 110, 102, 105, 110, 105, 116, 121]⟩ : ByteArray).size = 8 := rfl

end Go.Proofs.YtgolhmiocjpohaaGreatDoor
