/- The reference's looks at one text: spec.Single, Worded and Whole answer by plain functions on bytes. No condition. -/
import Derived.Test.YtgolhmiocjpohaaGreatDoorBase
import Derived.PlainAid
set_option linter.unusedVariables false
set_option linter.unusedSimpArgs false
namespace Go.Proofs.YtgolhmiocjpohaaGreatDoor
open Go.RowKit Go.PlainAid

/-- All bytes from 32 to 126. -/
def SingleP (s : ByteArray) : Prop := ∀ i, i < s.size → 32 ≤ bt s i ∧ bt s i ≤ 126
def LetterP (c : Int) : Prop := (97 ≤ c ∧ c ≤ 122) ∨ (65 ≤ c ∧ c ≤ 90)
/-- Letters alone, at least one. -/
def WordedP (s : ByteArray) : Prop := 0 < s.size ∧ ∀ i, i < s.size → LetterP (bt s i)

set_option maxHeartbeats 400000 in
theorem spec_Single (s : ByteArray) (w : World) (hs : s.size ≤ 2147483647) :
    Calls Tryz.prog 29 #[.string s] w (BoolThat (fun b => b = true ↔ SingleP s) w) := by
  have hb := get_bt s
  go_enter Tryz.func29, Tryz.ntmps29
  go_wp2
  go_loop [3] (fun v => ∃ k : Nat, v = .int .i64 k ∧ k ≤ s.size ∧ ∀ i, i < k → 32 ≤ bt s i ∧ bt s i ≤ 126) (fun v => s.size - (intOf v).toNat)
  case atStart => exact ⟨0, rfl, by omega, by omega⟩
  case round =>
    obtain ⟨k, rfl, hk, hall⟩ := hrel
    have HALL := Lib.hid hall
    clear hall
    by_cases hlt : k < s.size
    · by_cases h1 : bt s k < 32
      · have d1 : decide (bt s k < 32) = true := decide_eq_true h1
        go_wp2
        go_ret
        exact ⟨_, rfl, ⟨fun h => by simp at h, fun h => by have := h k hlt; omega⟩, rfl⟩
      · have d1 : decide (bt s k < 32) = false := decide_eq_false h1
        by_cases h2 : 126 < bt s k
        · have d2 : decide (126 < bt s k) = true := decide_eq_true h2
          go_wp2
          go_ret
          exact ⟨_, rfl, ⟨fun h => by simp at h, fun h => by have := h k hlt; omega⟩, rfl⟩
        · have d2 : decide (126 < bt s k) = false := decide_eq_false h2
          go_wp2
          go_round
          case rel => exact ⟨k + 1, by go_num, by omega, fun i hi => by
            by_cases e : i = k
            · rw [e]; omega
            · exact HALL.out i (by omega)⟩
          case measure => simp [intOf]; omega
    · go_wp2
      go_ret
      exact ⟨_, rfl, ⟨fun _ i hi => HALL.out i (by omega), fun _ => by simp⟩, rfl⟩

set_option maxHeartbeats 1600000 in
theorem spec_Worded (s : ByteArray) (w : World) (hs : s.size ≤ 2147483647) :
    Calls Tryz.prog 30 #[.string s] w (BoolThat (fun b => b = true ↔ WordedP s) w) := by
  have hb := get_bt s
  go_enter Tryz.func30, Tryz.ntmps30
  go_wp2
  go_loop [3] (fun v => ∃ k : Nat, v = .int .i64 k ∧ k ≤ s.size ∧ ∀ i, i < k → LetterP (bt s i)) (fun v => s.size - (intOf v).toNat)
  case atStart => exact ⟨0, rfl, by omega, by omega⟩
  case round =>
    obtain ⟨k, rfl, hk, hall⟩ := hrel
    have HALL := Lib.hid hall
    clear hall
    by_cases hlt : k < s.size
    · have hno : Hid (¬ LetterP (bt s k) → ¬ WordedP s) := fun h1 h2 => h1 (h2.2 k hlt)
      have hyes : Hid (LetterP (bt s k) → ∀ i, i < k + 1 → LetterP (bt s i)) := fun h i hi => by
        by_cases e : i = k
        · rw [e]; exact h
        · exact HALL.out i (by omega)
      by_cases h1 : bt s k < 65
      · have d1 : decide (bt s k < 97) = true := decide_eq_true (by omega)
        have d2 : decide (bt s k < 65) = true := decide_eq_true (by omega)
        go_wp2
        go_ret
        exact ⟨_, rfl, ⟨fun h => by simp at h, fun h => (hno.out (by unfold LetterP; omega) h).elim⟩, rfl⟩
      · have d2 : decide (bt s k < 65) = false := decide_eq_false (by omega)
        by_cases h2 : bt s k ≤ 90
        · have d1 : decide (bt s k < 97) = true := decide_eq_true (by omega)
          have d3 : decide (90 < bt s k) = false := decide_eq_false (by omega)
          go_wp2
          go_round
          case rel => exact ⟨k + 1, by go_num, by omega, hyes.out (by unfold LetterP; omega)⟩
          case measure => simp [intOf]; omega
        · have d3 : decide (90 < bt s k) = true := decide_eq_true (by omega)
          by_cases h3 : bt s k < 97
          · have d1 : decide (bt s k < 97) = true := decide_eq_true (by omega)
            go_wp2
            go_ret
            exact ⟨_, rfl, ⟨fun h => by simp at h, fun h => (hno.out (by unfold LetterP; omega) h).elim⟩, rfl⟩
          · have d1 : decide (bt s k < 97) = false := decide_eq_false (by omega)
            by_cases h4 : bt s k ≤ 122
            · have d4 : decide (122 < bt s k) = false := decide_eq_false (by omega)
              go_wp2
              go_round
              case rel => exact ⟨k + 1, by go_num, by omega, hyes.out (by unfold LetterP; omega)⟩
              case measure => simp [intOf]; omega
            · have d4 : decide (122 < bt s k) = true := decide_eq_true (by omega)
              go_wp2
              go_ret
              exact ⟨_, rfl, ⟨fun h => by simp at h, fun h => (hno.out (by unfold LetterP; omega) h).elim⟩, rfl⟩
    · go_wp2
      go_ret
      exact ⟨_, rfl, ⟨fun h => ⟨by simpa using h, fun i hi => HALL.out i (by omega)⟩, fun h => by simpa using h.1⟩, rfl⟩

/-- At least one and at most fifteen digits. -/
def DigitsP (t : ByteArray) : Prop := 0 < t.size ∧ t.size ≤ 15 ∧ ∀ i, i < t.size → 48 ≤ bt t i ∧ bt t i ≤ 57
/-- So, with a minus ahead or not. -/
def WholeP (s : ByteArray) : Prop := (0 < s.size ∧ bt s 0 = 45 → DigitsP (s.extract 1 s.size)) ∧ (¬ (0 < s.size ∧ bt s 0 = 45) → DigitsP s)

set_option maxHeartbeats 1600000 in
theorem spec_Whole (s : ByteArray) (w : World) (hs : s.size ≤ 2147483647) :
    Calls Tryz.prog 31 #[.string s] w (BoolThat (fun b => b = true ↔ WholeP s) w) := by
  by_cases hm : 0 < s.size ∧ bt s 0 = 45
  · have hw : DigitsP (s.extract 1 s.size) ↔ WholeP s := ⟨fun h => ⟨fun _ => h, fun h' => (h' hm).elim⟩, fun h => h.1 hm⟩
    have hts : (s.extract 1 s.size).size ≤ 2147483647 := by simp; omega
    obtain ⟨h0, h45⟩ := hm
    have d0 : decide (0 < s.size) = true := decide_eq_true h0
    have d1 : (bt s 0 == 45) = true := by simpa using h45
    clear h45
    have hb := get_bt s
    have HW := Lib.hid hw
    clear hw
    go_enter Tryz.func31, Tryz.ntmps31
    go_wp2
    clear hb d1
    generalize s.extract 1 s.size = t at *
    have hb := get_bt t
    go_loop [3] (fun v => ∃ k : Nat, v = .int .i64 k ∧ k ≤ t.size ∧ ∀ i, i < k → 48 ≤ bt t i ∧ bt t i ≤ 57) (fun v => t.size - (intOf v).toNat)
    case atStart => exact ⟨0, rfl, by omega, by omega⟩
    case round =>
      obtain ⟨k, rfl, hk, hall⟩ := hrel
      have HALL := Lib.hid hall
      clear hall
      by_cases hlt : k < t.size
      · by_cases h1 : bt t k < 48
        · have d1 : decide (bt t k < 48) = true := decide_eq_true h1
          go_wp2
          go_ret
          exact ⟨_, rfl, (Iff.trans ⟨fun h => by exfalso; revert h; simp <;> omega, fun h => by have := h.2.2 k hlt; omega⟩ HW.out), rfl⟩
        · have d1 : decide (bt t k < 48) = false := decide_eq_false h1
          by_cases h2 : 57 < bt t k
          · have d2 : decide (57 < bt t k) = true := decide_eq_true h2
            go_wp2
            go_ret
            exact ⟨_, rfl, (Iff.trans ⟨fun h => by exfalso; revert h; simp <;> omega, fun h => by have := h.2.2 k hlt; omega⟩ HW.out), rfl⟩
          · have d2 : decide (57 < bt t k) = false := decide_eq_false h2
            go_wp2
            go_round
            case rel => exact ⟨k + 1, by go_num, by omega, fun i hi => by
              by_cases e : i = k
              · rw [e]; omega
              · exact HALL.out i (by omega)⟩
            case measure => simp [intOf]; omega
      · have hz : Hid (∀ i, i < t.size → 48 ≤ bt t i ∧ bt t i ≤ 57) := fun i hi => HALL.out i (by omega)
        by_cases h0 : 0 < t.size
        · have d0 : decide (0 < t.size) = true := decide_eq_true h0
          by_cases h15 : t.size ≤ 15
          · have d15 : decide (t.size ≤ 15) = true := decide_eq_true h15
            go_wp2
            go_ret
            exact ⟨_, rfl, (Iff.trans ⟨fun _ => ⟨h0, h15, hz.out⟩, fun _ => by first | rfl | (simp; omega)⟩ HW.out), rfl⟩
          · have d15 : decide (t.size ≤ 15) = false := decide_eq_false h15
            go_wp2
            go_ret
            exact ⟨_, rfl, (Iff.trans ⟨fun h => by exfalso; revert h; simp <;> omega, fun h => by have := h.2.1; omega⟩ HW.out), rfl⟩
        · have d0 : decide (0 < t.size) = false := decide_eq_false h0
          go_wp2
          go_ret
          exact ⟨_, rfl, (Iff.trans ⟨fun h => by exfalso; revert h; simp <;> omega, fun h => by have := h.1; omega⟩ HW.out), rfl⟩
  · have hw : DigitsP s ↔ WholeP s := ⟨fun h => ⟨fun h' => (hm h').elim, fun _ => h⟩, fun h => h.2 hm⟩
    have HW := Lib.hid hw
    clear hw
    have hb := get_bt s
    by_cases h0 : 0 < s.size
    · have d0 : decide (0 < s.size) = true := decide_eq_true h0
      have d1 : (bt s 0 == 45) = false := by
        have : ¬ bt s 0 = 45 := fun h => hm ⟨h0, h⟩
        simpa using this
      clear hm
      go_enter Tryz.func31, Tryz.ntmps31
      go_wp2
      clear d1 h0 d0 hb
      obtain ⟨t, rfl⟩ : ∃ t, t = s := ⟨s, rfl⟩
      have hb := get_bt t
      go_loop [3] (fun v => ∃ k : Nat, v = .int .i64 k ∧ k ≤ t.size ∧ ∀ i, i < k → 48 ≤ bt t i ∧ bt t i ≤ 57) (fun v => t.size - (intOf v).toNat)
      case atStart => exact ⟨0, rfl, by omega, by omega⟩
      case round =>
        obtain ⟨k, rfl, hk, hall⟩ := hrel
        have HALL := Lib.hid hall
        clear hall
        by_cases hlt : k < t.size
        · by_cases h1 : bt t k < 48
          · have d1 : decide (bt t k < 48) = true := decide_eq_true h1
            go_wp2
            go_ret
            exact ⟨_, rfl, (Iff.trans ⟨fun h => by exfalso; revert h; simp <;> omega, fun h => by have := h.2.2 k hlt; omega⟩ HW.out), rfl⟩
          · have d1 : decide (bt t k < 48) = false := decide_eq_false h1
            by_cases h2 : 57 < bt t k
            · have d2 : decide (57 < bt t k) = true := decide_eq_true h2
              go_wp2
              go_ret
              exact ⟨_, rfl, (Iff.trans ⟨fun h => by exfalso; revert h; simp <;> omega, fun h => by have := h.2.2 k hlt; omega⟩ HW.out), rfl⟩
            · have d2 : decide (57 < bt t k) = false := decide_eq_false h2
              go_wp2
              go_round
              case rel => exact ⟨k + 1, by go_num, by omega, fun i hi => by
                by_cases e : i = k
                · rw [e]; omega
                · exact HALL.out i (by omega)⟩
              case measure => simp [intOf]; omega
        · have hz : Hid (∀ i, i < t.size → 48 ≤ bt t i ∧ bt t i ≤ 57) := fun i hi => HALL.out i (by omega)
          by_cases h0 : 0 < t.size
          · have d0 : decide (0 < t.size) = true := decide_eq_true h0
            by_cases h15 : t.size ≤ 15
            · have d15 : decide (t.size ≤ 15) = true := decide_eq_true h15
              go_wp2
              go_ret
              exact ⟨_, rfl, (Iff.trans ⟨fun _ => ⟨h0, h15, hz.out⟩, fun _ => by first | rfl | (simp; omega)⟩ HW.out), rfl⟩
            · have d15 : decide (t.size ≤ 15) = false := decide_eq_false h15
              go_wp2
              go_ret
              exact ⟨_, rfl, (Iff.trans ⟨fun h => by exfalso; revert h; simp <;> omega, fun h => by have := h.2.1; omega⟩ HW.out), rfl⟩
          · have d0 : decide (0 < t.size) = false := decide_eq_false h0
            go_wp2
            go_ret
            exact ⟨_, rfl, (Iff.trans ⟨fun h => by exfalso; revert h; simp <;> omega, fun h => by have := h.1; omega⟩ HW.out), rfl⟩
    · have d0 : decide (0 < s.size) = false := decide_eq_false h0
      clear hm
      go_enter Tryz.func31, Tryz.ntmps31
      go_wp2
      clear d0 hb
      obtain ⟨t, rfl⟩ : ∃ t, t = s := ⟨s, rfl⟩
      have hb := get_bt t
      go_loop [3] (fun v => ∃ k : Nat, v = .int .i64 k ∧ k ≤ t.size ∧ ∀ i, i < k → 48 ≤ bt t i ∧ bt t i ≤ 57) (fun v => t.size - (intOf v).toNat)
      case atStart => exact ⟨0, rfl, by omega, by omega⟩
      case round =>
        obtain ⟨k, rfl, hk, hall⟩ := hrel
        have HALL := Lib.hid hall
        clear hall
        by_cases hlt : k < t.size
        · by_cases h1 : bt t k < 48
          · have d1 : decide (bt t k < 48) = true := decide_eq_true h1
            go_wp2
            go_ret
            exact ⟨_, rfl, (Iff.trans ⟨fun h => by exfalso; revert h; simp <;> omega, fun h => by have := h.2.2 k hlt; omega⟩ HW.out), rfl⟩
          · have d1 : decide (bt t k < 48) = false := decide_eq_false h1
            by_cases h2 : 57 < bt t k
            · have d2 : decide (57 < bt t k) = true := decide_eq_true h2
              go_wp2
              go_ret
              exact ⟨_, rfl, (Iff.trans ⟨fun h => by exfalso; revert h; simp <;> omega, fun h => by have := h.2.2 k hlt; omega⟩ HW.out), rfl⟩
            · have d2 : decide (57 < bt t k) = false := decide_eq_false h2
              go_wp2
              go_round
              case rel => exact ⟨k + 1, by go_num, by omega, fun i hi => by
                by_cases e : i = k
                · rw [e]; omega
                · exact HALL.out i (by omega)⟩
              case measure => simp [intOf]; omega
        · have hz : Hid (∀ i, i < t.size → 48 ≤ bt t i ∧ bt t i ≤ 57) := fun i hi => HALL.out i (by omega)
          by_cases h0 : 0 < t.size
          · have d0 : decide (0 < t.size) = true := decide_eq_true h0
            by_cases h15 : t.size ≤ 15
            · have d15 : decide (t.size ≤ 15) = true := decide_eq_true h15
              go_wp2
              go_ret
              exact ⟨_, rfl, (Iff.trans ⟨fun _ => ⟨h0, h15, hz.out⟩, fun _ => by first | rfl | (simp; omega)⟩ HW.out), rfl⟩
            · have d15 : decide (t.size ≤ 15) = false := decide_eq_false h15
              go_wp2
              go_ret
              exact ⟨_, rfl, (Iff.trans ⟨fun h => by exfalso; revert h; simp <;> omega, fun h => by have := h.2.1; omega⟩ HW.out), rfl⟩
          · have d0 : decide (0 < t.size) = false := decide_eq_false h0
            go_wp2
            go_ret
            exact ⟨_, rfl, (Iff.trans ⟨fun h => by exfalso; revert h; simp <;> omega, fun h => by have := h.1; omega⟩ HW.out), rfl⟩

/-- A byte in the lower case, of ASCII. -/
def lowerI (c : Int) : Int := if 65 ≤ c ∧ c ≤ 90 then c + 32 else c
def lowNums (s : ByteArray) : List Int := (List.range s.size).map fun j => lowerI (bt s j)
/-- A text in the lower case, of ASCII. -/
def lowA (s : ByteArray) : ByteArray := strOfNums (lowNums s)

theorem lowNums_getD (s : ByteArray) (j : Nat) (hj : j < s.size) : (lowNums s).getD j 0 = lowerI (bt s j) := by
  simp [lowNums, List.getD_eq_getElem?_getD, hj]

theorem bt_data (s : ByteArray) (j : Nat) (hj : j < s.size) : (((s.data.toList.getD j 0).toNat : Nat) : Int) = bt s j := by
  unfold bt
  rw [dif_pos hj]
  have : s.data.toList.getD j 0 = s[j] := by
    rw [List.getD_eq_getElem?_getD, List.getElem?_eq_getElem (by simpa using hj)]
    rfl
  rw [this]

theorem bytes_frozen (w : World) (e : TypeId) (s : ByteArray) (j : Nat) (hj : j < s.size) : (Lib.bytesWorld w e s).frozen? ⟨w.heap.size, j, none⟩ = false := by
  unfold World.frozen?
  show (match (Lib.bytesWorld w e s).heap[w.heap.size]? with | some (.cells _ _ (lo, hi)) => _ | _ => _) = false
  rw [Lib.bytesWorld_at_new]
  have : s.size ≤ (Lib.bytesCells w e s).size := by simp [Lib.bytesCells]
  simp; omega

theorem bytes_below (w : World) (e : TypeId) (s : ByteArray) : Below w.heap.size w (Lib.bytesWorld w e s) := by
  refine ⟨?_, ?_, ?_, by rw [Lib.bytesWorld_size]; omega, fun k hk => Lib.bytesWorld_at_old w e s k hk⟩
  all_goals
    unfold Lib.bytesWorld World.freeze
    split <;> rfl

/-- A post: this text is handed back. -/
def TextIs2 (s : ByteArray) (w : World) (e : Ending) (w' : World) : Prop := e = .returned (.string s) ∧ Below w.heap.size w w'

structure CasedAt (w wr : World) (s : ByteArray) (k : Nat) : Prop where
  below : Below w.heap.size w wr
  size : wr.heap.size = w.heap.size + 1
  cell : ∀ j, j < s.size → wr.cell? ⟨w.heap.size, j, none⟩ = some (.int .u8 (if j < k then lowerI (bt s j) else bt s j))
  free : ∀ j, j < s.size → wr.frozen? ⟨w.heap.size, j, none⟩ = false

theorem CasedAt.start (w : World) (s : ByteArray) : CasedAt w (Lib.bytesWorld w 5 s) s 0 :=
  ⟨bytes_below w 5 s, Lib.bytesWorld_size w 5 s, fun j hj => by rw [Lib.bytesWorld_cell w 5 s j hj, if_neg (by omega), bt_data s j hj], fun j hj => bytes_frozen w 5 s j hj⟩

theorem CasedAt.keep {w wr : World} {s : ByteArray} {k : Nat} (h : CasedAt w wr s k) (hl : lowerI (bt s k) = bt s k) : CasedAt w wr s (k + 1) :=
  ⟨h.below, h.size, fun j hj => by
    rw [h.cell j hj]
    by_cases e : j = k
    · subst e; rw [if_neg (by omega), if_pos (by omega), hl]
    · by_cases e2 : j < k
      · rw [if_pos e2, if_pos (by omega)]
      · rw [if_neg e2, if_neg (by omega)], h.free⟩

theorem CasedAt.turn {w wr : World} {s : ByteArray} {k : Nat} (h : CasedAt w wr s k) (hk : k < s.size) : CasedAt w (wr.setCell ⟨w.heap.size, k, none⟩ (.int .u8 (lowerI (bt s k)))) s (k + 1) := by
  refine ⟨h.below.setCell (Nat.le_refl _) _, by simpa using h.size, fun j hj => ?_, fun j hj => by simpa using h.free j hj⟩
  by_cases e : j = k
  · subst e
    rw [if_pos (by omega)]
    exact World.cell?_setCell_same _ _ _ (h.cell j hj)
  · rw [World.cell?_setCell_other _ _ _ _ (by first | (simp; done) | (simp; omega)), h.cell j hj]
    by_cases e2 : j < k
    · rw [if_pos e2, if_pos (by omega)]
    · rw [if_neg e2, if_neg (by omega)]

theorem byte_add (c : Int) (h0 : 65 ≤ c) (h1 : c ≤ 90) : IntKind.u8.wrap (c + 32) = lowerI c := by
  unfold lowerI
  rw [if_pos ⟨h0, h1⟩]
  exact IntWalk.u8_in _ (by omega)

set_option maxHeartbeats 1600000 in
set_option maxRecDepth 100000 in
theorem spec_Cased (s : ByteArray) (w : World) (hs : s.size ≤ 2147483647) :
    Calls Tryz.prog 45 #[.string s, .int .i64 1] w (TextIs2 (lowA s) w) := by
  have hconv := Lib.run_convert_string_bytes (P := Tryz.prog) w 9 122 5 s Tryz.underlying9 Tryz.underlying122 Tryz.underlying5
  have HC := Lib.hid (CasedAt.start w s)
  have hl : (lowNums s).length = s.size := by simp [lowNums]
  have HL := Lib.hid hl
  clear hl
  go_enter Tryz.func45, Tryz.ntmps45
  go_wp2_with fail
  clear hconv
  generalize Lib.bytesWorld w 5 s = wb at *
  generalize grownCap w s.size 0 5 = cp at *
  go_loopw [6] (fun v wr => ∃ k : Nat, v = .int .i64 k ∧ k ≤ s.size ∧ CasedAt w wr s k) (fun v _ => s.size - (intOf v).toNat)
  case atStart => exact ⟨0, rfl, by omega, HC.out⟩
  case round =>
    clear HC
    obtain ⟨k, rfl, hk, hcs⟩ := hrel
    have HCS := Lib.hid hcs
    clear hcs
    by_cases hlt : k < s.size
    · have hc : wr.cell? ⟨w.heap.size, k, none⟩ = some (.int .u8 (bt s k)) := by rw [HCS.out.cell k hlt, if_neg (by omega)]
      have hf : wr.frozen? ⟨w.heap.size, k, none⟩ = false := HCS.out.free k hlt
      by_cases h1 : 65 ≤ bt s k
      · have d1 : decide (65 ≤ bt s k) = true := decide_eq_true h1
        by_cases h2 : bt s k ≤ 90
        · have d2 : decide (bt s k ≤ 90) = true := decide_eq_true h2
          have ha := byte_add (bt s k) h1 h2
          go_wp2_with fail
          go_roundw
          case rel => exact ⟨k + 1, by go_num, by omega, HCS.out.turn hlt⟩
          case measure => simp [intOf]; omega
        · have d2 : decide (bt s k ≤ 90) = false := decide_eq_false h2
          go_wp2_with fail
          go_roundw
          case rel => exact ⟨k + 1, by go_num, by omega, HCS.out.keep (by unfold lowerI; rw [if_neg (by omega)])⟩
          case measure => simp [intOf]; omega
      · have d1 : decide (65 ≤ bt s k) = false := decide_eq_false h1
        go_wp2_with fail
        go_roundw
        case rel => exact ⟨k + 1, by go_num, by omega, HCS.out.keep (by unfold lowerI; rw [if_neg (by omega)])⟩
        case measure => simp [intOf]; omega
    · have hback := run_convert_bytes_arg (P := Tryz.prog) wr 122 5 Tryz.underlying122 Tryz.underlying5 w.heap.size 0 s.size cp (lowNums s) HL.out (fun i hi => by rw [Nat.zero_add, HCS.out.cell i hi, if_pos (by omega), lowNums_getD s i hi]) 9 Tryz.underlying9
      go_wp2_with fail
      go_ret
      exact ⟨rfl, HCS.out.below⟩

/-- Whether a text of letters, in the lower case, is a name of a float. -/
def namedB (s : ByteArray) : Bool := (lowA s).toList == [105, 110, 102] || (lowA s).toList == [105, 110, 102, 105, 110, 105, 116, 121] || (lowA s).toList == [110, 97, 110]

set_option maxHeartbeats 1600000 in
set_option maxRecDepth 100000 in
theorem spec_named (s : ByteArray) (w : World) (hs : s.size ≤ 2147483647) :
    Calls Tryz.prog 32 #[.string s] w fun e w' => e = .returned (.bool (namedB s)) ∧ Below w.heap.size w w' := by
  unfold namedB
  have HCS := Lib.hid (fun w => spec_Cased s w hs)
  generalize lowA s = t at *
  cases h1 : (t.toList == [105, 110, 102]) <;> cases h2 : (t.toList == [105, 110, 102, 105, 110, 105, 116, 121]) <;> cases h3 : (t.toList == [110, 97, 110])
  all_goals
    go_enter Tryz.func32, Tryz.ntmps32
    go_wp2_with fail
    refine (HCS.out _).mono ?_
    rintro e w1 ⟨rfl, hb1⟩
    have HB := Lib.hid hb1
    clear hb1
    go_wp2_with fail
    go_ret
    exact ⟨rfl, HB.out⟩

end Go.Proofs.YtgolhmiocjpohaaGreatDoor
