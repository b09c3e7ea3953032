/- The light reading of floats: its small functions (fold 140, underscores 146). The light reading of floats refuses a text of letters that is no name of a float, and the empty text. -/
import Derived.Test.YtgolhmiocjpohaaGreatDoorWords
import Derived.LoopN
import Derived.Test.YtgolhmiocjpohaaGreatDoorLess
import Derived.Test.YtgolhmiocjpohaaGreatDoorOrdered
set_option linter.unusedVariables false
set_option linter.unusedSimpArgs false
namespace Go.Proofs.YtgolhmiocjpohaaGreatDoor
open Go.RowKit Go.PlainAid

/-- The text is the word, but for the case of ASCII's letters. -/
def FoldP (s word : ByteArray) : Prop := s.size = word.size ∧ ∀ i, i < s.size → lowerI (bt s i) = bt word i

set_option maxHeartbeats 1600000 in
set_option maxRecDepth 100000 in
theorem light_fold (s word : ByteArray) (w : World) (hs : s.size ≤ 2147483647) :
    Calls Tryz.prog 140 #[.string s, .string word] w (BoolThat (fun b => b = true ↔ FoldP s word) w) := by
  have hb := get_bt s
  have hb2 := get_bt word
  by_cases hl : s.size = word.size
  · have hl' : ((s.size : Int) == (word.size : Int)) = true := by simp [hl]
    have hn : ((s.size : Int) != (word.size : Int)) = false := by simp [hl]
    go_enter Tryz.func140, Tryz.ntmps140
    go_wp2
    go_loop [5] (fun v => ∃ k : Nat, v = .int .i64 k ∧ k ≤ s.size ∧ ∀ i, i < k → lowerI (bt s i) = bt word i) (fun v => s.size - (intOf v).toNat)
    case atStart => exact ⟨0, rfl, by omega, by omega⟩
    case round =>
      obtain ⟨k, rfl, hk, hall⟩ := hrel
      have HALL := Lib.hid hall
      clear hall
      by_cases hlt : k < s.size
      · have hlt2 : k < word.size := by omega
        have step : lowerI (bt s k) = bt word k → Hid (∀ i, i < k + 1 → lowerI (bt s i) = bt word i) := fun h => by
          intro i hi
          by_cases e : i = k
          · rw [e]; exact h
          · exact HALL.out i (by omega)
        have stop : ¬ lowerI (bt s k) = bt word k → Hid (¬ FoldP s word) := fun h hf => h (hf.2 k hlt)
        by_cases h1 : 65 ≤ bt s k ∧ bt s k ≤ 90
        · have d1 : decide (65 ≤ bt s k) = true := decide_eq_true h1.1
          have d2 : decide (bt s k ≤ 90) = true := decide_eq_true h1.2
          have ha : (bt s k + 32) % 256 = bt s k + 32 := by omega
          have EE : Hid (bt s k + 32 = lowerI (bt s k)) := by show _ = _; unfold lowerI; rw [if_pos h1]
          clear h1
          by_cases h3 : lowerI (bt s k) = bt word k
          · have d3 : (bt s k + 32 != bt word k) = false := by rw [EE.out]; simp [h3]
            have ST := step h3
            clear step stop h3
            go_wp2
            go_round
            case rel => exact ⟨k + 1, by go_num, by omega, ST.out⟩
            case measure => simp [intOf]; omega
          · have d3 : (bt s k + 32 != bt word k) = true := by rw [EE.out]; simp [h3]
            have ST := stop h3
            clear step stop h3
            go_wp2
            go_ret
            exact ⟨_, rfl, ⟨fun h => by simp at h, fun h => absurd h ST.out⟩, rfl⟩
        · have EE : Hid (bt s k = lowerI (bt s k)) := by show _ = _; unfold lowerI; rw [if_neg h1]
          have EQ : ∀ b : Bool, (bt s k != bt word k) = b ↔ (lowerI (bt s k) != bt word k) = b := fun b => by rw [← EE.out]
          by_cases h2 : 65 ≤ bt s k
          · have d1 : decide (65 ≤ bt s k) = true := decide_eq_true h2
            have d2 : decide (bt s k ≤ 90) = false := decide_eq_false (by omega)
            clear h1 h2
            by_cases h3 : lowerI (bt s k) = bt word k
            · have d3 : (bt s k != bt word k) = false := by rw [EQ]; simp [h3]
              have ST := step h3
              clear step stop h3 EQ
              go_wp2
              go_round
              case rel => exact ⟨k + 1, by go_num, by omega, ST.out⟩
              case measure => simp [intOf]; omega
            · have d3 : (bt s k != bt word k) = true := by rw [EQ]; simp [h3]
              have ST := stop h3
              clear step stop h3 EQ
              go_wp2
              go_ret
              exact ⟨_, rfl, ⟨fun h => by simp at h, fun h => absurd h ST.out⟩, rfl⟩
          · have d1 : decide (65 ≤ bt s k) = false := decide_eq_false h2
            clear h1 h2
            by_cases h3 : lowerI (bt s k) = bt word k
            · have d3 : (bt s k != bt word k) = false := by rw [EQ]; simp [h3]
              have ST := step h3
              clear step stop h3 EQ
              go_wp2
              go_round
              case rel => exact ⟨k + 1, by go_num, by omega, ST.out⟩
              case measure => simp [intOf]; omega
            · have d3 : (bt s k != bt word k) = true := by rw [EQ]; simp [h3]
              have ST := stop h3
              clear step stop h3 EQ
              go_wp2
              go_ret
              exact ⟨_, rfl, ⟨fun h => by simp at h, fun h => absurd h ST.out⟩, rfl⟩
      · go_wp2
        go_ret
        exact ⟨_, rfl, ⟨fun _ => ⟨hl, fun i hi => HALL.out i (by omega)⟩, fun _ => by simp⟩, rfl⟩
  · have hl' : ((s.size : Int) == (word.size : Int)) = false := decide_eq_false (by omega)
    have hn : ((s.size : Int) != (word.size : Int)) = true := by simp; omega
    go_enter Tryz.func140, Tryz.ntmps140
    go_wp2
    go_ret
    exact ⟨_, rfl, ⟨fun h => by simp at h, fun h => absurd h.1 hl⟩, rfl⟩

set_option maxHeartbeats 1600000 in
set_option maxRecDepth 100000 in
theorem light_underscores (s : ByteArray) (w : World) (hs : s.size ≤ 2147483647) (h : ∀ i, i < s.size → bt s i ≠ 95) :
    Calls Tryz.prog 146 #[.string s] w (BoolThat (fun b => b = true) w) := by
  have hb := get_bt s
  have H := Lib.hid h
  clear h
  go_enter Tryz.func146, Tryz.ntmps146
  go_wp2
  go_loop [3] (fun v => ∃ k : Nat, v = .int .i64 k ∧ k ≤ s.size) (fun v => s.size - (intOf v).toNat)
  case atStart => exact ⟨0, rfl, by omega⟩
  case round =>
    obtain ⟨k, rfl, hk⟩ := hrel
    by_cases hlt : k < s.size
    · have d1 : (bt s k == 95) = false := by have := H.out k hlt; simpa using this
      go_wp2
      go_round
      case rel => exact ⟨k + 1, by go_num, by omega⟩
      case measure => simp [intOf]; omega
    · go_wp2
      go_ret
      exact ⟨_, rfl, rfl, rfl⟩

/-- A text that is empty, or begins with a letter, is no number to the light reading. -/
def NoHead (t : ByteArray) : Prop := t.size = 0 ∨ (0 < t.size ∧ LetterP (bt t 0))

set_option maxHeartbeats 3200000 in
set_option maxRecDepth 100000 in
theorem light_read_none (t : ByteArray) (w : World) (hs : t.size ≤ 2147483647) (h : NoHead t) :
    Calls Tryz.prog 145 #[.string t] w fun e w' => e = .returned (.tuple #[.pointer none, .bool false]) ∧ Below w.heap.size w w' := by
  have hb := get_bt t
  rcases h with h | ⟨h0, h⟩
  · have d1 : decide (2 ≤ (t.size : Int)) = false := decide_eq_false (by omega)
    have d2 : decide ((0 : Int) < (t.size : Int)) = false := decide_eq_false (by omega)
    go_enter Tryz.func145, Tryz.ntmps145
    go_wp2_with fail
    refine wp_loop_rounds 1 ?_
    rw [rounds_succ]
    go_wp2_with fail
    go_ret2
    exact ⟨rfl, (Below.refl _ _).alloc (Nat.le_refl _) _⟩
  · have d2 : decide ((0 : Int) < (t.size : Int)) = true := decide_eq_true (by omega)
    have k1 : (bt t 0 == 48) = false := by rcases h with h | h <;> simp <;> omega
    have k2 : (bt t 0 == 95) = false := by rcases h with h | h <;> simp <;> omega
    have k3 : (bt t 0 == 46) = false := by rcases h with h | h <;> simp <;> omega
    have k4 : decide (48 ≤ bt t 0) = true := decide_eq_true (by rcases h with h | h <;> omega)
    have k5 : decide (bt t 0 ≤ 57) = false := decide_eq_false (by rcases h with h | h <;> omega)
    clear h
    by_cases h2 : 2 ≤ t.size
    · have d1 : decide ((2 : Int) ≤ (t.size : Int)) = true := decide_eq_true (by omega)
      go_enter Tryz.func145, Tryz.ntmps145
      go_wp2_with fail
      refine wp_loop_rounds 1 ?_
      rw [rounds_succ]
      go_wp2_with fail
      go_ret2
      exact ⟨rfl, (Below.refl _ _).alloc (Nat.le_refl _) _⟩
    · have d1 : decide ((2 : Int) ≤ (t.size : Int)) = false := decide_eq_false (by omega)
      go_enter Tryz.func145, Tryz.ntmps145
      go_wp2_with fail
      refine wp_loop_rounds 1 ?_
      rw [rounds_succ]
      go_wp2_with fail
      go_ret2
      exact ⟨rfl, (Below.refl _ _).alloc (Nat.le_refl _) _⟩

end Go.Proofs.YtgolhmiocjpohaaGreatDoor

set_option linter.unusedVariables false
set_option linter.unusedSimpArgs false
namespace Go.Proofs.YtgolhmiocjpohaaGreatDoor
open Go.RowKit Go.PlainAid

def wNan : ByteArray := ⟨#[110, 97, 110]⟩
def wInf : ByteArray := ⟨#[105, 110, 102]⟩
def wInfinity : ByteArray := ⟨#[105, 110, 102, 105, 110, 105, 116, 121]⟩

theorem fold_no {s word : ByteArray} {w : World} (hs : s.size ≤ 2147483647) (h : ¬ FoldP s word) : Calls Tryz.prog 140 #[.string s, .string word] w fun e w' => e = .returned (.bool false) ∧ w' = w :=
  (light_fold s word w hs).mono fun e w' ⟨b, he, hb, hw⟩ => ⟨by rw [he, show b = false from Bool.eq_false_iff.2 (fun h' => h (hb.1 h'))], hw.symm⟩

set_option maxHeartbeats 400000 in
set_option maxRecDepth 100000 in
theorem light_form (w : World) : Calls Tryz.prog 143 #[.int .i64 64] w fun e w' => e = .returned (.agg #[.int .i64 52, .int .i64 11, .int .i64 (-1023)]) ∧ Below w.heap.size w w' := by
  go_enter Tryz.func143, Tryz.ntmps143
  go_wp2_with fail
  refine bodyPost_ret (v := .agg #[.int .i64 52, .int .i64 11, .int .i64 (-1023)]) ?_ rfl ⟨rfl, (Below.refl _ _).alloc (Nat.le_refl _) _⟩
  have hr : Tryz.f143.results = #[.cell 2 227] := rfl
  simp [results, hr, go_sem]

set_option maxHeartbeats 400000 in
set_option maxRecDepth 100000 in
theorem light_fail (a b c : ByteArray) (w : World) : Calls Tryz.prog 147 #[.string a, .string b, .string c] w fun e w' => (∃ t v, e = .returned (.iface t v)) ∧ Below w.heap.size w w' := by
  go_enter Tryz.func147, Tryz.ntmps147
  go_wp2_with fail
  go_ret
  exact ⟨⟨_, _, rfl⟩, (Below.refl _ _).alloc (Nat.le_refl _) _⟩

set_option maxHeartbeats 3200000 in
set_option maxRecDepth 100000 in
theorem light_none (s : ByteArray) (w : World) (hs : s.size ≤ 2147483647) (h : WordedP s ∨ s.size = 0) (h1 : ¬ FoldP s wNan) (h2 : ¬ FoldP s wInf) (h3 : ¬ FoldP s wInfinity) :
    Calls Tryz.prog 117 #[.string s, .int .i64 64] w (NumIs none w) := by
  have K1 := Lib.hid (fun w => fold_no (w := w) hs h1)
  have K2 := Lib.hid (fun w => fold_no (w := w) hs h2)
  have K3 := Lib.hid (fun w => fold_no (w := w) hs h3)
  have KR := Lib.hid (fun w => light_read_none s w hs (by rcases h with h | h; exact Or.inr ⟨h.1, h.2 0 h.1⟩; exact Or.inl h))
  clear h1 h2 h3
  have hb := get_bt s
  unfold wNan at K1
  unfold wInf at K2
  unfold wInfinity at K3
  rcases h with h | h
  · have hh := h.2 0 h.1
    have hp := h.1
    have he : (s.toList == []) = false := by
      cases e : s.toList == []
      · rfl
      · have := (empty_toList s).1 e; omega
    have k1 : (bt s 0 == 43) = false := by rcases hh with h | h <;> simp <;> omega
    have k2 : (bt s 0 == 45) = false := by rcases hh with h | h <;> simp <;> omega
    clear hh h
    go_enter Tryz.func117, Tryz.ntmps117
    go_wp2_with (first
      | (go_at_call 140; (with_reducible refine (K1.out _).mono ?_); rintro e w1 ⟨rfl, rfl⟩)
      | (go_at_call 140; (with_reducible refine (K2.out _).mono ?_); rintro e w1 ⟨rfl, rfl⟩)
      | (go_at_call 140; (with_reducible refine (K3.out _).mono ?_); rintro e w1 ⟨rfl, rfl⟩)
      | (go_at_call 143; (with_reducible refine (light_form _).mono ?_); rintro e w1 ⟨rfl, hb1⟩; have HB1 := Lib.hid hb1; clear hb1)
      | (go_at_call 147; (with_reducible refine (light_fail _ _ _ _).mono ?_); rintro e w3 ⟨⟨t, v, rfl⟩, hb3⟩; have HB3 := Lib.hid hb3; clear hb3)
      | (go_at_call 145; (with_reducible refine (KR.out _).mono ?_); rintro e w2 ⟨rfl, hb2⟩; have HB2 := Lib.hid hb2; clear hb2))
    go_ret2
    have q1 := (HB1.out.alloc HB1.out.size (.cells #[.int .i64 52, .int .i64 11, .int .i64 (-1023)] 227))
    have z1 : ∀ u : World, (u.alloc (.cells #[.int .i64 52, .int .i64 11, .int .i64 (-1023)] 227)).heap.size = u.heap.size + 1 := fun u => by simp
    have q2 := q1.trans (HB2.out.mono (by have := HB1.out.size; rw [z1]; omega))
    exact ⟨⟨0, t, v, rfl⟩, q2.trans (HB3.out.mono q2.size)⟩
  · have he : (s.toList == []) = true := (empty_toList s).2 h
    go_enter Tryz.func117, Tryz.ntmps117
    go_wp2_with (first
      | (go_at_call 140; (with_reducible refine (K1.out _).mono ?_); rintro e w1 ⟨rfl, rfl⟩)
      | (go_at_call 140; (with_reducible refine (K2.out _).mono ?_); rintro e w1 ⟨rfl, rfl⟩)
      | (go_at_call 140; (with_reducible refine (K3.out _).mono ?_); rintro e w1 ⟨rfl, rfl⟩)
      | (go_at_call 143; (with_reducible refine (light_form _).mono ?_); rintro e w1 ⟨rfl, hb1⟩; have HB1 := Lib.hid hb1; clear hb1)
      | (go_at_call 147; (with_reducible refine (light_fail _ _ _ _).mono ?_); rintro e w3 ⟨⟨t, v, rfl⟩, hb3⟩; have HB3 := Lib.hid hb3; clear hb3)
      | (go_at_call 145; (with_reducible refine (KR.out _).mono ?_); rintro e w2 ⟨rfl, hb2⟩; have HB2 := Lib.hid hb2; clear hb2))
    go_ret2
    have q1 := (HB1.out.alloc HB1.out.size (.cells #[.int .i64 52, .int .i64 11, .int .i64 (-1023)] 227))
    have z1 : ∀ u : World, (u.alloc (.cells #[.int .i64 52, .int .i64 11, .int .i64 (-1023)] 227)).heap.size = u.heap.size + 1 := fun u => by simp
    have q2 := q1.trans (HB2.out.mono (by have := HB1.out.size; rw [z1]; omega))
    exact ⟨⟨0, t, v, rfl⟩, q2.trans (HB3.out.mono q2.size)⟩

end Go.Proofs.YtgolhmiocjpohaaGreatDoor
