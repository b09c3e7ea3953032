/- Go's own reading of floats: readFloat (154) on whole numbers of at most fifteen digits. No condition beyond that on the text. -/
import Derived.Test.YtgolhmiocjpohaaGreatDoorStd7
set_option linter.unusedVariables false
set_option linter.unusedSimpArgs false
namespace Go.Proofs.YtgolhmiocjpohaaGreatDoor
open Go.RowKit Go.PlainAid

theorem std_lower_digit (c : Int) (w : World) (h : 48 ≤ c ∧ c ≤ 57) : Calls Tryz.prog 183 #[.int .u8 c] w fun e w' => e = .returned (.int .u8 c) ∧ w' = w := by
  have ho := or32 h
  clear h
  go_enter Tryz.func183, Tryz.ntmps183
  go_wp2
  go_ret
  exact ⟨rfl, rfl⟩

/-- A whole number's text by its parts. -/
structure Parts (s t : ByteArray) (p : Nat) : Prop where
  digits : DigitsP t
  size : s.size = p + t.size
  at' : ∀ j, p ≤ j → j < s.size → bt s j = bt t (j - p)

theorem WholeP.parts {s : ByteArray} (h : WholeP s) : Parts s (bodyOf s) (if negP s then 1 else 0) := by
  have hb := h.body
  by_cases hm : 0 < s.size ∧ bt s 0 = 45
  · have hneg : negP s = true := by unfold negP; simp [hm]
    have hbo : bodyOf s = s.extract 1 s.size := by unfold bodyOf; rw [hneg]; rfl
    rw [hbo] at hb ⊢
    rw [hneg]
    refine ⟨hb, by simp; omega, fun j h1 h2 => ?_⟩
    simp only [if_true] at *
    rw [bt_tail s (j - 1) (by omega)]
    congr 1
    omega
  · have hneg : negP s = false := by unfold negP; simp [hm]
    have hbo : bodyOf s = s := by unfold bodyOf; rw [hneg]; rfl
    rw [hbo] at hb ⊢
    rw [hneg]
    exact ⟨hb, by simp, fun j _ _ => by simp⟩

/-- A post of readFloat: the digits, all read. -/
def ReadWhole (s : ByteArray) (w : World) (e : Ending) (w' : World) : Prop :=
  e = .returned (.tuple #[.int .u64 (worth (bodyOf s) : Nat), .int .i64 0, .bool (negP s), .bool false, .bool false, .int .i64 (s.size : Nat), .bool true]) ∧ w = w'

set_option maxHeartbeats 6400000 in
set_option maxRecDepth 100000 in
theorem std_read_whole (s : ByteArray) (w : World) (h : WholeP s) : Calls Tryz.prog 154 #[.string s] w (ReadWhole s w) := by
  have hP := h.parts
  have hb := get_bt s
  obtain ⟨t, ht⟩ : ∃ t, t = bodyOf s := ⟨_, rfl⟩
  rw [← ht] at hP
  have hsize := hP.size
  have hlen0 : 0 < t.size := hP.digits.1
  have hlen : t.size ≤ 15 := hP.digits.2.1
  have h0s : 0 < s.size := by omega
  have e0 : decide ((s.size : Int) ≤ 0) = false := decide_eq_false (by omega)
  have hne : decide (s = ByteArray.empty) = false := decide_eq_false (fun h => by rw [h] at h0s; simp at h0s)
  have e1 : decide ((0 : Int) < (s.size : Int)) = true := decide_eq_true (by omega)
  have k1 : (bt s 0 == 43) = false := by
    by_cases hm : negP s = true
    · unfold negP at hm
      have := of_decide_eq_true hm
      simp [this.2]
    · have hn : negP s = false := by simpa using hm
      rw [hn] at hP
      have h1 := hP.at' 0 (by simp) h0s
      have h2 := hP.digits.2.2 0 hlen0
      simp at h1
      simp
      omega
  have HP := Lib.hid hP
  have HS := Lib.hid hsize
  have hcase : ∃ p, Hid (Parts s t p) ∧
      (((bt s 0 == 45) = true ∧ Hid (p = 1 ∧ negP s = true) ∧
        ((decide ((3 : Int) < (s.size : Int)) = true ∧ (bt s 1 == 48) = true ∧ (bt s 2 == 120) = false ∧ 3 < s.size) ∨ (decide ((3 : Int) < (s.size : Int)) = true ∧ (bt s 1 == 48) = false ∧ True ∧ 3 < s.size) ∨ (decide ((3 : Int) < (s.size : Int)) = false ∧ True ∧ True ∧ True)))
      ∨ ((bt s 0 == 45) = false ∧ Hid (p = 0 ∧ negP s = false) ∧
        ((decide ((2 : Int) < (s.size : Int)) = true ∧ (bt s 0 == 48) = true ∧ (bt s 1 == 120) = false ∧ 2 < s.size) ∨ (decide ((2 : Int) < (s.size : Int)) = true ∧ (bt s 0 == 48) = false ∧ True ∧ 2 < s.size) ∨ (decide ((2 : Int) < (s.size : Int)) = false ∧ True ∧ True ∧ True)))) := by
    cases hn : negP s with
    | true =>
      rw [hn] at hP
      refine ⟨1, hP, Or.inl ⟨?_, ⟨rfl, rfl⟩, ?_⟩⟩
      · unfold negP at hn
        have := of_decide_eq_true hn
        simp [this.2]
      · by_cases h3 : 3 < s.size
        · have hd := hP.at' 2 (by simp) (by omega)
          have hd2 := hP.digits.2.2 (2 - 1) (by have := hP.size; simp at this; omega)
          simp only [if_true] at hd
          by_cases h48 : bt s 1 = 48
          · exact Or.inl ⟨decide_eq_true (by omega), by simp [h48], by simp; omega, h3⟩
          · exact Or.inr (Or.inl ⟨decide_eq_true (by omega), by simp [h48], trivial, h3⟩)
        · exact Or.inr (Or.inr ⟨decide_eq_false (by omega), trivial, trivial, trivial⟩)
    | false =>
      rw [hn] at hP
      have hP0 : Parts s t 0 := hP
      have hd0 := hP0.at' 0 (by omega) h0s
      have hd1 := hP0.digits.2.2 0 hlen0
      refine ⟨0, hP0, Or.inr ⟨by simp at hd0; simp; omega, ⟨rfl, rfl⟩, ?_⟩⟩
      by_cases h3 : 2 < s.size
      · have hd := hP0.at' 1 (by omega) (by omega)
        have hd2 := hP0.digits.2.2 (1 - 0) (by have := hP0.size; omega)
        by_cases h48 : bt s 0 = 48
        · exact Or.inl ⟨decide_eq_true (by omega), by simp [h48], by simp; omega, h3⟩
        · exact Or.inr (Or.inl ⟨decide_eq_true (by omega), by simp [h48], trivial, h3⟩)
      · exact Or.inr (Or.inr ⟨decide_eq_false (by omega), trivial, trivial, trivial⟩)
  have HTB := Lib.hid ht
  clear hP hsize HP HS ht h
  obtain ⟨p, HP, hcase⟩ := hcase
  have HLow := Lib.hid (fun wx j (h1 : p ≤ j) (h2 : j < s.size) => std_lower_digit (bt s j) wx (by rw [HP.out.at' j h1 h2]; exact HP.out.digits.2.2 _ (by have := HP.out.size; omega)))
  have hss : s.size ≤ 16 := by
    have := HP.out.size
    rcases hcase with ⟨_, h1, _⟩ | ⟨_, h1, _⟩ <;> (have := h1.out.1; omega)
  rcases hcase with ⟨k2, HPP, ⟨d1, d3, d4, h3⟩ | ⟨d1, d3, d4, h3⟩ | ⟨d1, d3, d4, h3⟩⟩ | ⟨k2, HPP, ⟨d1, d3, d4, h3⟩ | ⟨d1, d3, d4, h3⟩ | ⟨d1, d3, d4, h3⟩⟩
  all_goals
    go_enter Tryz.func154, Tryz.ntmps154
    go_wp2_with (first
      | (go_at_call 183; (with_reducible refine (HLow.out _ 2 (by have := HPP.out.1; omega) (by omega)).mono ?_); rintro e w1 ⟨rfl, rfl⟩)
      | (go_at_call 183; (with_reducible refine (HLow.out _ 1 (by have := HPP.out.1; omega) (by omega)).mono ?_); rintro e w1 ⟨rfl, rfl⟩))
    go_step3
    go_wp2_with (first
      | (go_at_call 183; (with_reducible refine (HLow.out _ 2 (by have := HPP.out.1; omega) (by omega)).mono ?_); rintro e w1 ⟨rfl, rfl⟩)
      | (go_at_call 183; (with_reducible refine (HLow.out _ 1 (by have := HPP.out.1; omega) (by omega)).mono ?_); rintro e w1 ⟨rfl, rfl⟩))
    go_step3
    go_wp2_with fail
    clear d1 d3 d4 h3 k1 k2 e1
    go_loop [2, 5, 7, 9, 13, 14, 15, 16, 17] (fun v2 v5 v7 v9 v13 v14 v15 v16 v17 => ∃ (n j nd : Nat) (dp : Int), v2 = .int .u64 (n : Int) ∧ v5 = .bool false ∧ v7 = .int .i64 (j : Int) ∧ v9 = .bool false ∧ v13 = .bool false ∧ v14 = .bool (decide (p < j)) ∧ v15 = .int .i64 (nd : Int) ∧ v16 = .int .i64 (nd : Int) ∧ v17 = .int .i64 dp ∧
      p ≤ j ∧ j ≤ s.size ∧ n = pre (digs t) (j - p) ∧ nd ≤ j ∧ (nd = 0 → n = 0) ∧ -(j : Int) ≤ dp ∧ dp ≤ 0) (fun _ _ v _ _ _ _ _ _ => s.size - (intOf v).toNat)
    case atStart => exact ⟨0, p, 0, 0, rfl, rfl, by rw [HPP.out.1]; rfl, rfl, rfl, by simp, rfl, rfl, rfl, Nat.le_refl _, by have := HP.out.size; omega, by rw [Nat.sub_self]; rfl, by omega, fun _ => rfl, by omega, by omega⟩
    case round =>
      obtain ⟨n, j, nd, dp, rfl, rfl, rfl, rfl, rfl, rfl, rfl, rfl, rfl, hpj, hjs, hn, hnd, hz, hdp1, hdp2⟩ := hrel
      have HN := Lib.hid hn
      have HZ := Lib.hid hz
      clear hn hz
      by_cases hlt : j < s.size
      · have hjt : j - p < t.size := by have := HP.out.size; omega
        have hat := HP.out.at' j hpj hlt
        have hdg := HP.out.digits.2.2 (j - p) hjt
        rw [← hat] at hdg
        obtain ⟨d, hdd⟩ : ∃ d, d = (bt s j - 48).toNat := ⟨_, rfl⟩
        have HD : Hid (d = dAt (digs t) (j - p)) := by show _ = _; rw [digs_at hjt, hdd, hat]
        have q1 : (bt s j == 95) = false := by simp; omega
        have q2 : (bt s j == 46) = false := by simp; omega
        have q3 : decide (48 ≤ bt s j) = true := decide_eq_true hdg.1
        have q4 : decide (bt s j ≤ 57) = true := decide_eq_true hdg.2
        have q5 : (bt s j - 48) % 256 = (d : Int) := by omega
        have hd9 : d ≤ 9 := by omega
        have hj0 : (0 : Int) ≤ (j : Int) := by omega
        have hnb : n ≤ 999999999999999 := by
          have h1 := pre_lt (digs_digits HP.out.digits) (j - p)
          rw [← HN.out] at h1
          have h2 : 10 ^ (j - p) ≤ 10 ^ 15 := Nat.pow_le_pow_right (by omega) (by have := HP.out.digits.2.1; omega)
          omega
        have HNX : Hid (n * 10 + d = pre (digs t) (j + 1 - p)) := by
          show _ = _
          rw [show j + 1 - p = (j - p) + 1 by omega, HN.out, HD.out]
          rfl
        by_cases hz : d = 0 ∧ nd = 0
        · have q6 : (bt s j == 48) = true := by simp; omega
          have hz2 : nd = 0 := hz.2
          have HZ2 := Lib.hid hz
          clear hz hat hdg hdd
          go_wp2_with fail
          go_round
          case rel => exact ⟨n, j + 1, nd, dp - 1, rfl, rfl, by go_num, rfl, rfl, by rw [decide_eq_true (show p < j + 1 by omega)], rfl, rfl, by go_num, by omega, by omega, by rw [← HNX.out, HZ2.out.1, HZ.out HZ2.out.2], by omega, HZ.out, by omega, by omega⟩
          case measure => simp [intOf]; omega
        · have hcs : ((bt s j == 48) = false ∧ True) ∨ ((bt s j == 48) = true ∧ ¬ nd = 0) := by
            by_cases e : d = 0
            · exact Or.inr ⟨by simp; omega, fun e2 => hz ⟨e, e2⟩⟩
            · exact Or.inl ⟨by simp; omega, trivial⟩
          have hnd16 : nd ≤ 15 := by omega
          clear hz hat hdg hdd
          rcases hcs with ⟨q6, q7⟩ | ⟨q6, q7⟩
          all_goals
            go_wp2_with fail
            go_round
            case rel => exact ⟨n * 10 + d, j + 1, nd + 1, dp, by go_num, rfl, by go_num, rfl, rfl, by rw [decide_eq_true (show p < j + 1 by omega)], by go_num, by go_num, rfl, by omega, by omega, HNX.out, by omega, by omega, by omega, by omega⟩
            case measure => simp [intOf]; omega
      · have hj : j = s.size := by omega
        subst hj
        have hfull : Hid (n = worth t) := by
          show _ = _
          rw [HN.out]
          unfold worth dval
          rw [digs_length]
          congr 1
          have := HP.out.size
          omega
        have hpl : p < s.size := by have := HP.out.size; omega
        have hbase : decide (p < s.size) = true := decide_eq_true hpl
        have hncs : ((n : Int) != 0) = true ∨ ((n : Int) != 0) = false := by cases ((n : Int) != 0) <;> simp
        have hr : Tryz.f154.results = #[.tmp 2, .tmp 3, .tmp 4, .tmp 5, .tmp 6, .tmp 7, .tmp 8] := rfl
        have HRS : Hid (∀ wx b, negP s = b → ReadWhole s wx (.returned (.tuple #[.int .u64 (n : Nat), .int .i64 0, .bool b, .bool false, .bool false, .int .i64 (s.size : Nat), .bool true])) wx) := fun wx b hb => by
          unfold ReadWhole
          rw [hb, hfull.out, HTB.out]
          exact ⟨rfl, rfl⟩
        rcases hncs with hncs | hncs
        all_goals
          go_wp2_with fail
          first
            | exact bodyPost_ret (v := .tuple #[.int .u64 (n : Nat), .int .i64 0, .bool true, .bool false, .bool false, .int .i64 (s.size : Nat), .bool true]) (by simp [results, hr, go_sem]) rfl (HRS.out _ _ HPP.out.2)
            | exact bodyPost_ret (v := .tuple #[.int .u64 (n : Nat), .int .i64 0, .bool false, .bool false, .bool false, .int .i64 (s.size : Nat), .bool true]) (by simp [results, hr, go_sem]) rfl (HRS.out _ _ HPP.out.2)

end Go.Proofs.YtgolhmiocjpohaaGreatDoor
