/- Go's look for the names of floats (153), on any text. No condition beyond sizes. The light newDecimal (171): the decimal of a whole number. No condition beyond the number's kind. -/
import Derived.Test.YtgolhmiocjpohaaGreatDoorSp2
import Derived.Test.YtgolhmiocjpohaaGreatDoorTx2
import Derived.Test.YtgolhmiocjpohaaGreatDoorLight4
set_option linter.unusedVariables false
set_option linter.unusedSimpArgs false
namespace Go.Proofs.YtgolhmiocjpohaaGreatDoor
open Go.RowKit Go.PlainAid

/-- So much of a word stands at place o, and no more. -/
def HeadIs (s : ByteArray) (o : Nat) (word : ByteArray) (k : Nat) : Prop :=
 o + k ≤ s.size ∧ k ≤ word.size ∧ (∀ i, i < k → lowerI (bt s (o + i)) = bt word i) ∧ (k = word.size ∨ o + k = s.size ∨ lowerI (bt s (o + k)) ≠ bt word k)

/-- The bits of a name of a float, and how many octets it has. -/
def NameIs (s : ByteArray) (x n : Nat) (ok : Bool) : Prop :=
 (∃ k m, HeadIs s (signLen s) wInfinity k ∧ (signLen s = 1 ∨ 0 < k) ∧ m = (if 3 < k ∧ k < 8 then 3 else k) ∧ ok = decide (m = 3 ∨ m = 8) ∧ (ok = true → n = signLen s + m ∧ x = if negB s then 18442240474082181120 else 9218868437227405312)) ∨
 (∃ k, signLen s = 0 ∧ HeadIs s 0 wNan k ∧ 0 < k ∧ ok = decide (k = 3) ∧ (ok = true → n = 3 ∧ x = 9221120237041090561)) ∨
 (ok = false ∧ signLen s = 0 ∧ HeadIs s 0 wInfinity 0 ∧ HeadIs s 0 wNan 0)

/-- A post. -/
def SpecialIs (s : ByteArray) (w : World) (e : Ending) (w' : World) : Prop :=
 ∃ (x n : Nat) (ok : Bool), e = .returned (.tuple #[.float .f64 x, .int .i64 n, .bool ok]) ∧ NameIs s x n ok ∧ w = w'

theorem head0 {s word : ByteArray} {k : Nat} (h1 : k ≤ s.size) (h2 : k ≤ word.size) (h3 : ∀ i, i < k → lowerI (bt s i) = bt word i) (h4 : k = word.size ∨ k = s.size ∨ lowerI (bt s k) ≠ bt word k) : HeadIs s 0 word k :=
 ⟨by omega, h2, fun i hi => by rw [Nat.zero_add]; exact h3 i hi, by rw [Nat.zero_add]; exact h4⟩

theorem name_inf {s : ByteArray} {k o x : Nat} (ho : o = signLen s) (hx : x = if negB s then 18442240474082181120 else 9218868437227405312) (hh : HeadIs s o wInfinity k) (hp : signLen s = 1 ∨ 0 < k) :
  (3 < k ∧ k < 8 → NameIs s x (o + 3) true) ∧ (k = 8 → NameIs s x (o + 8) true) ∧ (k = 3 → NameIs s x (o + 3) true) ∧ (k < 3 → ∀ y z, NameIs s y z false) := by
 subst ho
 refine ⟨fun h => ?_, fun h => ?_, fun h => ?_, fun h y z => ?_⟩
 ·exact Or.inl ⟨k, 3, hh, hp, by rw [if_pos h], by decide, fun _ => ⟨rfl, hx⟩⟩
 ·exact Or.inl ⟨k, 8, hh, hp, by rw [if_neg (by omega), h], by decide, fun _ => ⟨rfl, hx⟩⟩
 ·exact Or.inl ⟨k, 3, hh, hp, by rw [if_neg (by omega), h], by decide, fun _ => ⟨rfl, hx⟩⟩
 ·exact Or.inl ⟨k, k, hh, hp, by rw [if_neg (by omega)], (decide_eq_false (by omega)).symm, fun h => by simp at h⟩

theorem head1 {s t word : ByteArray} {k : Nat} (htz : t.size + 1 = s.size) (ht : t = s.extract 1 s.size) (h1 : k ≤ t.size) (h2 : k ≤ word.size) (h3 : ∀ i, i < k → lowerI (bt t i) = bt word i) (h4 : k = word.size ∨ k = t.size ∨ lowerI (bt t k) ≠ bt word k) : HeadIs s 1 word k := by
 have e : ∀ i, i < t.size → bt t i = bt s (1 + i) := fun i hi => by rw [ht, bt_tail s i (by omega), Nat.add_comm]
 refine ⟨by omega, h2, fun i hi => by rw [← e i (by omega)]; exact h3 i hi, ?_⟩
 rcases h4 with h | h | h
 ·exact Or.inl h
 ·exact Or.inr (Or.inl (by omega))
 ·by_cases hk : k < t.size
  ·exact Or.inr (Or.inr (by rw [← e k hk]; exact h))
  ·exact Or.inr (Or.inl (by omega))

theorem name_nan {s : ByteArray} {k : Nat} (ho : signLen s = 0) (hh : HeadIs s 0 wNan k) (hp : 0 < k) : (k = 3 → NameIs s 9221120237041090561 3 true) ∧ (k ≠ 3 → ∀ y z, NameIs s y z false) :=
 ⟨fun h => Or.inr (Or.inl ⟨k, ho, hh, hp, (decide_eq_true h).symm, fun _ => ⟨rfl, rfl⟩⟩), fun h y z => Or.inr (Or.inl ⟨k, ho, hh, hp, (decide_eq_false h).symm, fun h => by simp at h⟩)⟩

theorem name_none {s : ByteArray} {y z : Nat} (ho : signLen s = 0) (h : s.size = 0 ∨ (lowerI (bt s 0) ≠ 105 ∧ lowerI (bt s 0) ≠ 110)) : NameIs s y z false := by
 refine Or.inr (Or.inr ⟨rfl, ho, ⟨by omega, by omega, fun i hi => by omega, ?_⟩, ⟨by omega, by omega, fun i hi => by omega, ?_⟩⟩)
 ·rcases h with h | h
  ·exact Or.inr (Or.inl (by omega))
  ·exact Or.inr (Or.inr (by rw [show bt wInfinity 0 = 105 from by decide]; exact h.1))
 ·rcases h with h | h
  ·exact Or.inr (Or.inl (by omega))
  ·exact Or.inr (Or.inr (by rw [show bt wNan 0 = 110 from by decide]; exact h.2))

set_option maxHeartbeats 3200000 in
set_option maxRecDepth 100000 in
theorem special_i (s : ByteArray) (w : World) (hs : s.size ≤ 2147483647) (hp : 0 < s.size) (c1 : bt s 0 = 105) : Calls Tryz.prog 153 #[.string s] w (SpecialIs s w) := by
 have K1 := Lib.hid (fun w => std_prefix_max s ⟨#[105, 110, 102, 105, 110, 105, 116, 121]⟩ w hs (by decide))
 have hb := get_bt s
 have HS : Hid (signLen s = 0 ∧ negB s = false) := ⟨by unfold signLen; rw [if_neg (by omega)], by unfold negB; exact decide_eq_false (by omega)⟩
 have e0 : ((s.size : Int) == 0) = false := beq_eq_false_iff_ne.2 (by omega)
 have k1 : (bt s 0 == 43) = false := by simp [c1]
 have k2 : (bt s 0 == 45) = false := by simp [c1]
 have m1 : (bt s 0 == 105) = true := by simp [c1]
 have HH : Hid (∀ k, k ≤ s.size → k ≤ 8 → (∀ i, i < k → lowerI (bt s i) = bt wInfinity i) → (k = 8 ∨ k = s.size ∨ lowerI (bt s k) ≠ bt wInfinity k) → HeadIs s 0 wInfinity k) := fun k h1 h2 h3 h4 => head0 h1 h2 h3 h4
 have HKP : Hid (∀ k, (k = 8 ∨ k = s.size ∨ lowerI (bt s k) ≠ bt wInfinity k) → 0 < k) := fun k h => by
  rcases Nat.eq_zero_or_pos k with h0 | h0
  ·subst h0
   rcases h with h | h | h
   ·omega
   ·omega
   ·rw [c1] at h
    exact absurd (by decide) h
  ·exact h0
 clear c1
 go_enter Tryz.func153, Tryz.ntmps153
 go_wp2_with (first
  | (go_at_call 180; (with_reducible refine (K1.out _).mono ?_); rintro e w1 ⟨k, rfl, hk1, hk2, hall, hmax, rfl⟩; have HA := Lib.hid (And.intro hall hmax); clear hall hmax; rw [sz8] at hk2)
  | (go_at_call 181; (with_reducible refine (std_inf_pos _).mono ?_); rintro e w1 ⟨rfl, rfl⟩))
 all_goals
  go_ret3
  simp only [beq_iff_eq, beq_eq_false_iff_ne, ne_eq] at *
  have N := name_inf (o := 0) (x := 9218868437227405312) HS.out.1.symm (by rw [HS.out.2]; rfl) (HH.out k hk1 hk2 HA.out.1 HA.out.2) (Or.inr (HKP.out k HA.out.2))
  first
   | exact ⟨_, 3, true, rfl, N.1 ⟨by omega, by omega⟩, rfl⟩
   | exact ⟨_, 3, true, rfl, N.2.2.1 (by omega), rfl⟩
   | exact ⟨_, 0, false, rfl, N.2.2.2 (by omega) _ _, rfl⟩
   | (have hk : k = 3 ∨ k = 8 := by omega
      rcases hk with rfl | rfl
      ·exact ⟨_, 3, true, rfl, N.2.2.1 rfl, rfl⟩
      ·exact ⟨_, 8, true, rfl, N.2.1 rfl, rfl⟩)
   | (exfalso; omega)

set_option maxHeartbeats 3200000 in
set_option maxRecDepth 100000 in
theorem special_I (s : ByteArray) (w : World) (hs : s.size ≤ 2147483647) (hp : 0 < s.size) (c1 : bt s 0 = 73) : Calls Tryz.prog 153 #[.string s] w (SpecialIs s w) := by
 have K1 := Lib.hid (fun w => std_prefix_max s ⟨#[105, 110, 102, 105, 110, 105, 116, 121]⟩ w hs (by decide))
 have hb := get_bt s
 have HS : Hid (signLen s = 0 ∧ negB s = false) := ⟨by unfold signLen; rw [if_neg (by omega)], by unfold negB; exact decide_eq_false (by omega)⟩
 have e0 : ((s.size : Int) == 0) = false := beq_eq_false_iff_ne.2 (by omega)
 have k1 : (bt s 0 == 43) = false := by simp [c1]
 have k2 : (bt s 0 == 45) = false := by simp [c1]
 have m1 : (bt s 0 == 105) = false := by simp [c1]
 have m2 : (bt s 0 == 73) = true := by simp [c1]
 have HH : Hid (∀ k, k ≤ s.size → k ≤ 8 → (∀ i, i < k → lowerI (bt s i) = bt wInfinity i) → (k = 8 ∨ k = s.size ∨ lowerI (bt s k) ≠ bt wInfinity k) → HeadIs s 0 wInfinity k) := fun k h1 h2 h3 h4 => head0 h1 h2 h3 h4
 have HKP : Hid (∀ k, (k = 8 ∨ k = s.size ∨ lowerI (bt s k) ≠ bt wInfinity k) → 0 < k) := fun k h => by
  rcases Nat.eq_zero_or_pos k with h0 | h0
  ·subst h0
   rcases h with h | h | h
   ·omega
   ·omega
   ·rw [c1] at h
    exact absurd (by decide) h
  ·exact h0
 clear c1
 go_enter Tryz.func153, Tryz.ntmps153
 go_wp2_with (first
  | (go_at_call 180; (with_reducible refine (K1.out _).mono ?_); rintro e w1 ⟨k, rfl, hk1, hk2, hall, hmax, rfl⟩; have HA := Lib.hid (And.intro hall hmax); clear hall hmax; rw [sz8] at hk2)
  | (go_at_call 181; (with_reducible refine (std_inf_pos _).mono ?_); rintro e w1 ⟨rfl, rfl⟩))
 all_goals
  go_ret3
  simp only [beq_iff_eq, beq_eq_false_iff_ne, ne_eq] at *
  have N := name_inf (o := 0) (x := 9218868437227405312) HS.out.1.symm (by rw [HS.out.2]; rfl) (HH.out k hk1 hk2 HA.out.1 HA.out.2) (Or.inr (HKP.out k HA.out.2))
  first
   | exact ⟨_, 3, true, rfl, N.1 ⟨by omega, by omega⟩, rfl⟩
   | exact ⟨_, 3, true, rfl, N.2.2.1 (by omega), rfl⟩
   | exact ⟨_, 0, false, rfl, N.2.2.2 (by omega) _ _, rfl⟩
   | (have hk : k = 3 ∨ k = 8 := by omega
      rcases hk with rfl | rfl
      ·exact ⟨_, 3, true, rfl, N.2.2.1 rfl, rfl⟩
      ·exact ⟨_, 8, true, rfl, N.2.1 rfl, rfl⟩)
   | (exfalso; omega)

set_option maxHeartbeats 3200000 in
set_option maxRecDepth 100000 in
theorem special_plus (s : ByteArray) (w : World) (hs : s.size ≤ 2147483647) (hp : 0 < s.size) (c1 : bt s 0 = 43) : Calls Tryz.prog 153 #[.string s] w (SpecialIs s w) := by
 obtain ⟨t, ht⟩ : ∃ t, t = s.extract 1 s.size := ⟨_, rfl⟩
 have htz : t.size + 1 = s.size := by rw [ht]; simp; omega
 have K1 := Lib.hid (fun w => std_prefix_max t ⟨#[105, 110, 102, 105, 110, 105, 116, 121]⟩ w (by omega) (by decide))
 have hb := get_bt s
 have HS : Hid (signLen s = 1 ∧ negB s = false) := ⟨by unfold signLen; rw [if_pos ⟨hp, by omega⟩], by unfold negB; simp [c1]⟩
 have e0 : ((s.size : Int) == 0) = false := beq_eq_false_iff_ne.2 (by omega)
 have k1 : (bt s 0 == 43) = true := by simp [c1]
 have k3 : (bt s 0 == 45) = false := by simp [c1]
 have HH : Hid (∀ k, k ≤ t.size → k ≤ 8 → (∀ i, i < k → lowerI (bt t i) = bt wInfinity i) → (k = 8 ∨ k = t.size ∨ lowerI (bt t k) ≠ bt wInfinity k) → HeadIs s 1 wInfinity k) := fun k h1 h2 h3 h4 => head1 htz ht h1 h2 h3 h4
 have htt : s.extract 1 s.size = t := ht.symm
 have h1s : (1 : Int) ≤ (s.size : Int) := by omega
 have HTZ := Lib.hid htz
 clear c1 ht htz
 go_enter Tryz.func153, Tryz.ntmps153
 go_wp2_with (first
  | (go_at_call 180; (with_reducible refine (K1.out _).mono ?_); rintro e w1 ⟨k, rfl, hk1, hk2, hall, hmax, rfl⟩; have HA := Lib.hid (And.intro hall hmax); clear hall hmax; rw [sz8] at hk2)
  | (go_at_call 181; (with_reducible refine (std_inf_pos _).mono ?_); rintro e w1 ⟨rfl, rfl⟩))
 all_goals
  go_ret3
  simp only [beq_iff_eq, beq_eq_false_iff_ne, ne_eq] at *
  have N := name_inf (o := 1) (x := 9218868437227405312) HS.out.1.symm (by rw [HS.out.2]; rfl) (HH.out k hk1 hk2 HA.out.1 HA.out.2) (Or.inl HS.out.1)
  first
   | exact ⟨_, 4, true, rfl, N.1 ⟨by omega, by omega⟩, rfl⟩
   | exact ⟨_, 4, true, rfl, N.2.2.1 (by omega), rfl⟩
   | exact ⟨_, 0, false, rfl, N.2.2.2 (by omega) _ _, rfl⟩
   | (have hk : k = 3 ∨ k = 8 := by omega
      rcases hk with rfl | rfl
      ·exact ⟨_, 4, true, rfl, N.2.2.1 rfl, rfl⟩
      ·exact ⟨_, 9, true, rfl, N.2.1 rfl, rfl⟩)
   | (exfalso; omega)

set_option maxHeartbeats 3200000 in
set_option maxRecDepth 100000 in
theorem special_minus (s : ByteArray) (w : World) (hs : s.size ≤ 2147483647) (hp : 0 < s.size) (c1 : bt s 0 = 45) : Calls Tryz.prog 153 #[.string s] w (SpecialIs s w) := by
 obtain ⟨t, ht⟩ : ∃ t, t = s.extract 1 s.size := ⟨_, rfl⟩
 have htz : t.size + 1 = s.size := by rw [ht]; simp; omega
 have K1 := Lib.hid (fun w => std_prefix_max t ⟨#[105, 110, 102, 105, 110, 105, 116, 121]⟩ w (by omega) (by decide))
 have hb := get_bt s
 have HS : Hid (signLen s = 1 ∧ negB s = true) := ⟨by unfold signLen; rw [if_pos ⟨hp, by omega⟩], by unfold negB; simp [c1, hp]⟩
 have e0 : ((s.size : Int) == 0) = false := beq_eq_false_iff_ne.2 (by omega)
 have k1 : (bt s 0 == 43) = false := by simp [c1]
 have k2 : (bt s 0 == 45) = true := by simp [c1]
 have HH : Hid (∀ k, k ≤ t.size → k ≤ 8 → (∀ i, i < k → lowerI (bt t i) = bt wInfinity i) → (k = 8 ∨ k = t.size ∨ lowerI (bt t k) ≠ bt wInfinity k) → HeadIs s 1 wInfinity k) := fun k h1 h2 h3 h4 => head1 htz ht h1 h2 h3 h4
 have htt : s.extract 1 s.size = t := ht.symm
 have h1s : (1 : Int) ≤ (s.size : Int) := by omega
 have HTZ := Lib.hid htz
 clear c1 ht htz
 go_enter Tryz.func153, Tryz.ntmps153
 go_wp2_with (first
  | (go_at_call 180; (with_reducible refine (K1.out _).mono ?_); rintro e w1 ⟨k, rfl, hk1, hk2, hall, hmax, rfl⟩; have HA := Lib.hid (And.intro hall hmax); clear hall hmax; rw [sz8] at hk2)
  | (go_at_call 181; (with_reducible refine (std_inf_neg _).mono ?_); rintro e w1 ⟨rfl, rfl⟩))
 all_goals
  go_ret3
  simp only [beq_iff_eq, beq_eq_false_iff_ne, ne_eq] at *
  have N := name_inf (o := 1) (x := 18442240474082181120) HS.out.1.symm (by rw [HS.out.2]; rfl) (HH.out k hk1 hk2 HA.out.1 HA.out.2) (Or.inl HS.out.1)
  first
   | exact ⟨_, 4, true, rfl, N.1 ⟨by omega, by omega⟩, rfl⟩
   | exact ⟨_, 4, true, rfl, N.2.2.1 (by omega), rfl⟩
   | exact ⟨_, 0, false, rfl, N.2.2.2 (by omega) _ _, rfl⟩
   | (have hk : k = 3 ∨ k = 8 := by omega
      rcases hk with rfl | rfl
      ·exact ⟨_, 4, true, rfl, N.2.2.1 rfl, rfl⟩
      ·exact ⟨_, 9, true, rfl, N.2.1 rfl, rfl⟩)
   | (exfalso; omega)

set_option maxHeartbeats 3200000 in
set_option maxRecDepth 100000 in
theorem special_n (s : ByteArray) (w : World) (hs : s.size ≤ 2147483647) (hp : 0 < s.size) (c1 : bt s 0 = 110) : Calls Tryz.prog 153 #[.string s] w (SpecialIs s w) := by
 have K2 := Lib.hid (fun w => std_prefix_max s ⟨#[110, 97, 110]⟩ w hs (by decide))
 have hb := get_bt s
 have HS : Hid (signLen s = 0) := by show signLen s = 0; unfold signLen; rw [if_neg (by omega)]
 have e0 : ((s.size : Int) == 0) = false := beq_eq_false_iff_ne.2 (by omega)
 have k1 : (bt s 0 == 43) = false := by simp [c1]
 have k2 : (bt s 0 == 45) = false := by simp [c1]
 have m1 : (bt s 0 == 105) = false := by simp [c1]
 have m2 : (bt s 0 == 73) = false := by simp [c1]
 have m3 : (bt s 0 == 110) = true := by simp [c1]
 have HH : Hid (∀ k, k ≤ s.size → k ≤ 3 → (∀ i, i < k → lowerI (bt s i) = bt wNan i) → (k = 3 ∨ k = s.size ∨ lowerI (bt s k) ≠ bt wNan k) → HeadIs s 0 wNan k) := fun k h1 h2 h3 h4 => head0 h1 h2 h3 h4
 have HKP : Hid (∀ k, (k = 3 ∨ k = s.size ∨ lowerI (bt s k) ≠ bt wNan k) → 0 < k) := fun k h => by
  rcases Nat.eq_zero_or_pos k with h0 | h0
  ·subst h0
   rcases h with h | h | h
   ·omega
   ·omega
   ·rw [c1] at h
    exact absurd (by decide) h
  ·exact h0
 clear c1
 go_enter Tryz.func153, Tryz.ntmps153
 go_wp2_with (first
  | (go_at_call 180; (with_reducible refine (K2.out _).mono ?_); rintro e w1 ⟨k, rfl, hk1, hk2, hall, hmax, rfl⟩; have HA := Lib.hid (And.intro hall hmax); clear hall hmax; rw [sz3] at hk2)
  | (go_at_call 182; (with_reducible refine (std_nan_is _).mono ?_); rintro e w1 ⟨rfl, rfl⟩))
 all_goals
  go_ret3
  simp only [beq_iff_eq, beq_eq_false_iff_ne, ne_eq] at *
  have N := name_nan HS.out (HH.out k hk1 hk2 HA.out.1 HA.out.2) (HKP.out k HA.out.2)
  first
   | exact ⟨_, 3, true, rfl, N.1 (by omega), rfl⟩
   | exact ⟨_, 0, false, rfl, N.2 (by omega) _ _, rfl⟩

set_option maxHeartbeats 3200000 in
set_option maxRecDepth 100000 in
theorem special_N (s : ByteArray) (w : World) (hs : s.size ≤ 2147483647) (hp : 0 < s.size) (c1 : bt s 0 = 78) : Calls Tryz.prog 153 #[.string s] w (SpecialIs s w) := by
 have K2 := Lib.hid (fun w => std_prefix_max s ⟨#[110, 97, 110]⟩ w hs (by decide))
 have hb := get_bt s
 have HS : Hid (signLen s = 0) := by show signLen s = 0; unfold signLen; rw [if_neg (by omega)]
 have e0 : ((s.size : Int) == 0) = false := beq_eq_false_iff_ne.2 (by omega)
 have k1 : (bt s 0 == 43) = false := by simp [c1]
 have k2 : (bt s 0 == 45) = false := by simp [c1]
 have m1 : (bt s 0 == 105) = false := by simp [c1]
 have m2 : (bt s 0 == 73) = false := by simp [c1]
 have m3 : (bt s 0 == 110) = false := by simp [c1]
 have m4 : (bt s 0 == 78) = true := by simp [c1]
 have HH : Hid (∀ k, k ≤ s.size → k ≤ 3 → (∀ i, i < k → lowerI (bt s i) = bt wNan i) → (k = 3 ∨ k = s.size ∨ lowerI (bt s k) ≠ bt wNan k) → HeadIs s 0 wNan k) := fun k h1 h2 h3 h4 => head0 h1 h2 h3 h4
 have HKP : Hid (∀ k, (k = 3 ∨ k = s.size ∨ lowerI (bt s k) ≠ bt wNan k) → 0 < k) := fun k h => by
  rcases Nat.eq_zero_or_pos k with h0 | h0
  ·subst h0
   rcases h with h | h | h
   ·omega
   ·omega
   ·rw [c1] at h
    exact absurd (by decide) h
  ·exact h0
 clear c1
 go_enter Tryz.func153, Tryz.ntmps153
 go_wp2_with (first
  | (go_at_call 180; (with_reducible refine (K2.out _).mono ?_); rintro e w1 ⟨k, rfl, hk1, hk2, hall, hmax, rfl⟩; have HA := Lib.hid (And.intro hall hmax); clear hall hmax; rw [sz3] at hk2)
  | (go_at_call 182; (with_reducible refine (std_nan_is _).mono ?_); rintro e w1 ⟨rfl, rfl⟩))
 all_goals
  go_ret3
  simp only [beq_iff_eq, beq_eq_false_iff_ne, ne_eq] at *
  have N := name_nan HS.out (HH.out k hk1 hk2 HA.out.1 HA.out.2) (HKP.out k HA.out.2)
  first
   | exact ⟨_, 3, true, rfl, N.1 (by omega), rfl⟩
   | exact ⟨_, 0, false, rfl, N.2 (by omega) _ _, rfl⟩

set_option maxHeartbeats 1600000 in
set_option maxRecDepth 100000 in
theorem special_other (s : ByteArray) (w : World) (hs : s.size ≤ 2147483647) (hp : 0 < s.size) (c : bt s 0 ≠ 43 ∧ bt s 0 ≠ 45 ∧ bt s 0 ≠ 105 ∧ bt s 0 ≠ 73 ∧ bt s 0 ≠ 110 ∧ bt s 0 ≠ 78) : Calls Tryz.prog 153 #[.string s] w (SpecialIs s w) := by
 have hb := get_bt s
 have HN : Hid (∀ y z, NameIs s y z false) := fun y z => name_none (by unfold signLen; rw [if_neg (by omega)]) (Or.inr (by unfold lowerI; split <;> omega))
 have e0 : ((s.size : Int) == 0) = false := beq_eq_false_iff_ne.2 (by omega)
 have k1 : (bt s 0 == 43) = false := by simp; omega
 have k2 : (bt s 0 == 45) = false := by simp; omega
 have k3 : (bt s 0 == 105) = false := by simp; omega
 have k4 : (bt s 0 == 73) = false := by simp; omega
 have k5 : (bt s 0 == 110) = false := by simp; omega
 have k6 : (bt s 0 == 78) = false := by simp; omega
 clear c
 go_enter Tryz.func153, Tryz.ntmps153
 go_wp2
 go_ret3
 exact ⟨0, 0, false, rfl, HN.out _ _, rfl⟩

set_option maxHeartbeats 1600000 in
set_option maxRecDepth 100000 in
theorem special_empty (s : ByteArray) (w : World) (h : s.size = 0) : Calls Tryz.prog 153 #[.string s] w (SpecialIs s w) := by
 have d : ((s.size : Int) == 0) = true := by simp [h]
 have HN : Hid (∀ y z, NameIs s y z false) := fun y z => name_none (by unfold signLen; rw [if_neg (by omega)]) (Or.inl h)
 have e : (s.size : Int) = 0 := by omega
 clear h
 go_enter Tryz.func153, Tryz.ntmps153
 go_wp2
 go_ret3
 exact ⟨0, 0, false, rfl, HN.out _ _, rfl⟩

/-- Go's look for the names of floats, on any text. -/
theorem special_any (s : ByteArray) (w : World) (hs : s.size ≤ 2147483647) : Calls Tryz.prog 153 #[.string s] w (SpecialIs s w) := by
 rcases Nat.eq_zero_or_pos s.size with h | hp
 ·exact special_empty s w h
 by_cases c1 : bt s 0 = 43
 ·exact special_plus s w hs hp c1
 by_cases c2 : bt s 0 = 45
 ·exact special_minus s w hs hp c2
 by_cases c3 : bt s 0 = 105
 ·exact special_i s w hs hp c3
 by_cases c4 : bt s 0 = 73
 ·exact special_I s w hs hp c4
 by_cases c5 : bt s 0 = 110
 ·exact special_n s w hs hp c5
 by_cases c6 : bt s 0 = 78
 ·exact special_N s w hs hp c6
 ·exact special_other s w hs hp ⟨c1, c2, c3, c4, c5, c6⟩

end Go.Proofs.YtgolhmiocjpohaaGreatDoor

namespace Go.Proofs.YtgolhmiocjpohaaGreatDoor
open Go.RowKit Go.PlainAid

/-- A post: the decimal of a whole number in a new block. -/
def NewDec (n : Nat) (w : World) (e : Ending) (w' : World) : Prop :=
 ∃ b es ep, e = .returned (.pointer (some ⟨b, 0, none⟩)) ∧ DecAt w' w.heap.size b es ep ∧ (es = [] ∧ n = 0 ∨ Canon es ∧ Same es ep n 1 ∧ 0 < n) ∧ es.length ≤ 20 ∧ 0 ≤ ep ∧ ep ≤ 20 ∧ Below w.heap.size w w'

/-- How the loop over the digits' octets stands. -/
structure NdAt (w : World) (ds : List Nat) (bb k : Nat) (x : Value) (wr : World) : Prop where
 le : k ≤ ds.length
 ob : wr.heap[w.heap.size]? = some (.cells #[x, .int .i64 0] 265 (0, 0))
 own : wr.ownsRow (bb + 1) 5 1 x k (digVals (ds.take k))
 oct : ∀ j, j < ds.length → wr.cell? ⟨bb, j, none⟩ = some (.int .u8 ((48 + ds.getD j 0 : Nat) : Int))
 below : Below w.heap.size w wr
 big : w.heap.size < bb
 size : bb + 1 ≤ wr.heap.size

theorem oct_of (w : World) (n j : Nat) (h : j < (decL n).length) : (Lib.bytesWorld w 5 (natText n)).cell? ⟨w.heap.size, j, none⟩ = some (.int .u8 ((48 + (decL n).getD j 0 : Nat) : Int)) := by
 have hz : (natText n).size = (decL n).length := by unfold natText; rw [strOfNums_size, digNums_length]
 rw [Lib.bytesWorld_cell w 5 (natText n) j (by omega)]
 have hd : (decL n).getD j 0 < 10 := by
  rw [List.getD_eq_getElem?_getD, List.getElem?_eq_getElem h]
  exact decL_lt n _ (List.getElem_mem h)
 have : ((natText n).data.toList.getD j 0).toNat = 48 + (decL n).getD j 0 := by
  unfold natText digNums
  rw [strOfNums_data, List.map_map, List.getD_eq_getElem?_getD, List.getElem?_map, List.getElem?_eq_getElem h]
  rw [List.getD_eq_getElem?_getD, List.getElem?_eq_getElem h] at hd ⊢
  simp only [Option.getD_some] at hd
  simp only [Option.map_some, Option.getD_some, Function.comp_apply, Int.toNat_natCast]
  rw [UInt8.toNat_ofNat']
  omega
 rw [this]

theorem dval_decL (n : Nat) : dval (decL n) = n := by rw [← wnat_dval, decL_val]

theorem decL_digits (n : Nat) : Digits (decL n) := fun i hi => by
 unfold dAt
 rw [List.getD_eq_getElem?_getD, List.getElem?_eq_getElem hi]
 exact decL_lt n _ (List.getElem_mem hi)

theorem take_snoc_nat {ds : List Nat} {k : Nat} (h : k < ds.length) : ds.take (k + 1) = ds.take k ++ [ds.getD k 0] := by
 rw [List.take_succ_eq_append_getElem h, List.getD_eq_getElem?_getD, List.getElem?_eq_getElem h]
 rfl

set_option maxHeartbeats 3200000 in
set_option maxRecDepth 100000 in
theorem new_decimal (n : Nat) (w : World) (hn : n < 2 ^ 64) : Calls Tryz.prog 171 #[.int .u64 (n : Int)] w (NewDec n w) := by
 obtain ⟨i0, hi, hz0, hz1, hz2⟩ := info_parts info5
 have HI := Lib.hid hi
 have HZ0 := Lib.hid hz0
 have HZ1 := Lib.hid hz1
 have HZ2 := Lib.hid hz2
 clear hi hz0 hz1 hz2
 have K := Lib.hid (fun w => fmt_uint n w hn)
 obtain ⟨ds, hds⟩ : ∃ ds, ds = decL n := ⟨_, rfl⟩
 have hl20 : ds.length ≤ 20 := by rw [hds]; exact decL_len n 19 (by omega)
 have hl0 : 0 < ds.length := by rw [hds]; exact decL_pos n
 have hst : (natText n).size = ds.length := by unfold natText; rw [strOfNums_size, digNums_length, hds]
 obtain ⟨st, hstt⟩ : ∃ st, st = natText n := ⟨_, rfl⟩
 have HO := Lib.hid (fun (w : World) j h => oct_of w n j h)
 rw [← hstt] at K HO hst
 rw [← hds] at HO
 have HDS := Lib.hid hds
 have HST := Lib.hid hst
 clear hds hst hstt hn
 go_enter Tryz.func171, Tryz.ntmps171
 go_wp2_with (go_at_call 149; (with_reducible refine (K.out _).mono ?_); rintro e w1 ⟨rfl, hb⟩; have HB := Lib.hid hb; have hconv := Lib.run_convert_string_bytes (P := Tryz.prog) w1 9 122 5 st Tryz.underlying9 Tryz.underlying122 Tryz.underlying5; clear hb)
 clear hconv
 rw [HST.out]
 have H1 : Hid (NdAt w ds w1.heap.size 0 (.slice none 0 0) (Lib.bytesWorld w1 5 st)) := by
  have hb := HB.out
  have hsz := hb.size
  simp at hsz
  have hob : w1.heap[w.heap.size]? = some (.cells #[.slice none 0 0, .int .i64 0] 265 (0, 0)) := by
   rw [hb.block w.heap.size (by simp)]
   exact heap_alloc_new w _
  refine ⟨by omega, ?_, World.ownsRow_nil _ _ _ _, HO.out w1, (((Below.refl _ _).alloc (Nat.le_refl _) _).trans (hb.mono (by simp))).trans ((bytes_below w1 5 st).mono (by omega)), by omega, by rw [Lib.bytesWorld_size]; omega⟩
  rw [Lib.bytesWorld_at_old _ _ _ _ (by omega)]
  exact hob
 generalize Lib.bytesWorld w1 5 st = wb at *
 generalize grownCap w1 ds.length 0 5 = cp at *
 obtain ⟨bb, hbb⟩ : ∃ bb, bb = w1.heap.size := ⟨_, rfl⟩
 rw [← hbb] at H1 ⊢
 clear HB hbb
 go_loopw [10] (fun v10 wr => ∃ (k : Nat) (x : Value), v10 = .int .i64 (k : Int) ∧ NdAt w ds bb k x wr) (fun v _ => ds.length - (intOf v).toNat)
 case atStart => exact ⟨0, .slice none 0 0, rfl, H1.out⟩
 case round =>
  obtain ⟨k, x, rfl, hat⟩ := hrel
  obtain ⟨A, cap, rfl⟩ : ∃ A cap, x = .slice A k cap := own_form hat.own
  have HAT := Lib.hid hat
  obtain ⟨c0, c1, f0, f1⟩ := obj_cells hat.ob
  have hkl := hat.le
  clear hat
  by_cases hlt : k < ds.length
  ·obtain ⟨d, hd⟩ : ∃ d, d = ds.getD k 0 := ⟨_, rfl⟩
   have hc := HAT.out.oct k hlt
   rw [← hd] at hc
   have hd9 : d < 10 := by
    rw [hd, HDS.out, List.getD_eq_getElem?_getD, List.getElem?_eq_getElem (by rw [← HDS.out]; exact hlt)]
    exact decL_lt n _ (List.getElem_mem _)
   have k6 : 48 + (d : Int) - 48 = (d : Int) := by omega
   have HTK : Hid (ds.take (k + 1) = ds.take k ++ [d]) := by show _ = _; rw [take_snoc_nat hlt, hd]
   have HGE : Hid (∀ (v' : Value) (w1 : World), w1.ownsRow (bb + 1) 5 1 v' (k + 1) (digVals (ds.take k) ++ [.int .u8 (d : Int)]) → (wr.alloc (.cells #[.int .u8 (d : Int)] 5)).grownBy w1 (Value.slice A k cap).ownBlock →
     w1.heap[w.heap.size]? = some (.cells #[.slice A k cap, .int .i64 0] 265 (0, 0)) ∧ w1.ownsRow (bb + 1) 5 1 v' (k + 1) (digVals (ds.take (k + 1))) ∧ Below w.heap.size w w1 ∧ bb + 1 ≤ w1.heap.size ∧ (∀ j, j < ds.length → w1.cell? ⟨bb, j, none⟩ = some (.int .u8 ((48 + ds.getD j 0 : Nat) : Int)))) := by
    intro v' w1 ho hg
    have hs := HAT.out.size
    have hbg := HAT.out.big
    have hB : Below (bb + 1) wr w1 := ((Below.refl _ _).alloc hs _).grown hg (by simp; omega) (fun q hq => (HAT.out.own.lt q hq).1)
    refine ⟨by rw [hB.block _ (by omega)]; exact HAT.out.ob, by rw [HTK.out, digVals_snoc]; exact ho, HAT.out.below.trans (hB.mono (by omega)), Nat.le_trans hs hB.size, fun j hj => ?_⟩
    rw [hB.cell (p := ⟨bb, j, none⟩) (Nat.lt_succ_self bb)]
    exact HAT.out.oct j hj
   clear hd
   go_upto_region 5 with fail
   go_wp2_with (at_builtin; refine wpList_append_own _ rfl _ _ 122 rfl (bb + 1) 5 i0 (.int .u8 0) 1 1 Tryz.underlying122 HI.out HZ0.out HZ1.out HZ2.out rfl (by decide) _ _ _ rfl (HAT.out.own.alloc _) ⟨wr.heap.size, 0, none⟩ 1 1 [.int .u8 (d : Int)] rfl rfl (cell_one_new _ _ _) (by intro u hu; simp at hu; subst hu; rfl) (by unfold maxLen; omega) (by omega) (by simp; have := HAT.out.size; omega) ?_; intro v' w1 hown1 hgr1 hxx; obtain ⟨A2, cap2, rfl⟩ := own_form hown1; have HA := Lib.hid (HGE.out _ w1 hown1 hgr1); have f0' := (obj_cells HA.out.1).2.2.1; have c0' := (obj_cells HA.out.1).1; clear hown1 hgr1 hxx)
   go_roundw
   case rel =>
    obtain ⟨a1, a2, a3, a4, a5⟩ := HA.out
    have hbg := HAT.out.big
    refine ⟨k + 1, .slice A2 (k + 1) cap2, by go_num, ⟨by omega, obj_set0 a1 _, ownsRow_setCell_below a2 (a := ⟨w.heap.size, 0, none⟩) (by show w.heap.size < bb + 1; omega) _, fun j hj => ?_, a3.setCell (p := ⟨w.heap.size, 0, none⟩) (Nat.le_refl _) _, hbg, by simpa [World.setCell] using a4⟩⟩
    rw [World.cell?_setCell_other _ _ _ _ (by first | (simp; done) | (simp; omega))]
    exact a5 j hj
   case measure => simp [intOf]; omega
  ·have hk : k = ds.length := by omega
   subst hk
   have hDA : Hid (DecAt (wr.setCell ⟨w.heap.size, 1, none⟩ (.int .i64 (ds.length : Nat))) w.heap.size w.heap.size ds (ds.length : Nat)) := by
    have hbg := HAT.out.big
    have how := HAT.out.own
    rw [List.take_of_length_le (Nat.le_refl _)] at how
    refine ⟨Nat.le_refl _, _, obj_set1 HAT.out.ob _, ?_⟩
    rcases how.2 with ⟨h1, h2⟩ | ⟨g2, cap2, cur, h1, hg2, hgc, hnc, _⟩
    ·omega
    ·cases h1
     refine Or.inr ⟨g2, cap, rfl, hnc, by omega, by omega, by simpa [World.setCell] using (Array.getElem?_eq_some_iff.1 hgc).1, fun j hj => ?_⟩
     rw [World.cell?_setCell_other _ _ _ _ (by first | (simp; done) | (simp; omega)), World.ownsRow.cellAt how j (by omega), digVals_at hj]
   have HBS : Hid (Below w.heap.size w (wr.setCell ⟨w.heap.size, 1, none⟩ (.int .i64 (ds.length : Nat)))) := HAT.out.below.setCell (p := ⟨w.heap.size, 1, none⟩) (Nat.le_refl _) _
   have HSS : Hid (w.heap.size < (wr.setCell ⟨w.heap.size, 1, none⟩ (.int .i64 (ds.length : Nat))).heap.size) := by have := HAT.out.size; have := HAT.out.big; show _ < _; simp [World.setCell]; omega
   have HTR := Lib.hid (trim _ w.heap.size w.heap.size ds (ds.length : Nat) hDA.out (by omega))
   go_wp2_with (go_at_call 170; (with_reducible refine HTR.out.mono ?_); rintro e w9 ⟨rfl, es, t1, t2, t3⟩; have H9 := Lib.hid (And.intro t1 (And.intro t2 t3)); clear t1 t2 t3)
   go_ret
   obtain ⟨t1, t2, t3⟩ := H9.out
   have hle := t1.dval.1
   have hv : dval ds = n := by rw [HDS.out]; exact dval_decL n
   have hdg : Digits ds := by rw [HDS.out]; exact decL_digits n
   have hB := HBS.out.trans (t3.toBelow (Nat.le_refl _) HSS.out)
   by_cases hz : n = 0
   ·have hd0 : ds = [0] := by rw [HDS.out, hz, decL_small (by omega)]
    have he : es = [] := by
     obtain ⟨m, h1, h2, _, h4⟩ := t1.take
     rcases h4 with h4 | h4
     ·rw [h2, h4]; rfl
     ·exfalso
      apply h4
      rw [hd0]
      rw [hd0] at h1
      rw [show m - 1 = 0 by simp at h1; omega]
      rfl
    rw [if_pos he] at t2
    rw [he] at t2
    exact ⟨_, [], 0, rfl, t2, Or.inl ⟨rfl, hz⟩, by simp, by omega, by omega, hB⟩
   ·have hfz : dAt ds 0 ≠ 0 := by rw [HDS.out]; exact decL_first n hz
    have hcan := t1.canon hdg hfz hl0
    have hne : ¬ es = [] := fun e => by have := hcan.pos; rw [e] at this; simp at this
    rw [if_neg hne] at t2
    have hsame : Same ds (ds.length : Nat) n 1 := Same.of 0 0 (by omega) (by rw [hv]; simp)
    exact ⟨_, es, _, rfl, t2, Or.inr ⟨hcan, hsame.trim t1, by omega⟩, by omega, by omega, by omega, hB⟩

end Go.Proofs.YtgolhmiocjpohaaGreatDoor
