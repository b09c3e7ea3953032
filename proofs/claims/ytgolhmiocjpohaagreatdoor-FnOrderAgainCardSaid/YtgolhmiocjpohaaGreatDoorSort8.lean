/- sort.partialInsertionSort_func (114). (Printed by gen_sort8.py.) -/
import Derived.Test.YtgolhmiocjpohaaGreatDoorSort0
set_option linter.unusedVariables false
set_option linter.unusedSimpArgs false
namespace Go.Proofs.YtgolhmiocjpohaaGreatDoor
open Go.RowKit Go.Sort

section
variable {lt : Nat → Nat → Bool} {a b i j s : Nat} {d : Array Nat}
theorem scanSorted_on (h : i < b) (hl : lt d[i]! d[i - 1]! = false) : scanSorted lt d b (i + 1) = scanSorted lt d b i := by
  conv => rhs; rw [scanSorted]
  simp [h, hl]
theorem scanSorted_off (h : ¬ i < b ∨ lt d[i]! d[i - 1]! = true) : scanSorted lt d b i = i := by
  rw [scanSorted]
  rcases h with h | h <;> simp [h]
theorem shiftDown_on (h : 1 ≤ j) (hl : lt d[j]! d[j - 1]! = true) : shiftDown lt j d = shiftDown lt (j - 1) (swp d j (j - 1)) := by
  cases j with
  | zero => omega
  | succ j =>
    conv => lhs; rw [shiftDown]
    simp only [Nat.add_sub_cancel] at hl ⊢
    simp [hl]
theorem shiftDown_off (h : ¬ 1 ≤ j ∨ lt d[j]! d[j - 1]! = false) : shiftDown lt j d = d := by
  cases j with
  | zero => rw [shiftDown]
  | succ j =>
    rw [shiftDown]
    rcases h with h | h
    · omega
    · simp only [Nat.add_sub_cancel] at h
      simp [h]
theorem shiftUp_on (h : j < b) (hl : lt d[j]! d[j - 1]! = true) : shiftUp lt b j d = shiftUp lt b (j + 1) (swp d j (j - 1)) := by
  conv => lhs; rw [shiftUp]
  simp [h, hl]
theorem shiftUp_off (h : ¬ j < b ∨ lt d[j]! d[j - 1]! = false) : shiftUp lt b j d = d := by
  rw [shiftUp]
  rcases h with h | h <;> simp [h]
end

/-- The parts of a step of partialInsertionSort. -/
def downP (lt : Nat → Nat → Bool) (a i : Nat) (d : Array Nat) : Array Nat := if i - a ≥ 2 then shiftDown lt (i - 1) d else d
def upP (lt : Nat → Nat → Bool) (b i : Nat) (d : Array Nat) : Array Nat := if b - i ≥ 2 then shiftUp lt b (i + 1) d else d

theorem partialIns_step (lt : Nat → Nat → Bool) (a b s i : Nat) (d : Array Nat) : partialIns lt a b (s + 1) i d =
    if scanSorted lt d b i = b then (d, true) else if b - a < 50 then (d, false)
    else partialIns lt a b s (scanSorted lt d b i) (upP lt b (scanSorted lt d b i) (downP lt a (scanSorted lt d b i) (swp d (scanSorted lt d b i) (scanSorted lt d b i - 1)))) := by
  rw [partialIns]
  rfl

/-- A post of partialInsertionSort. -/
def PInsIs (g n m : Nat) (r : Array Nat × Bool) (w : World) (e : Ending) (w' : World) : Prop := e = .returned (.bool r.2) ∧ Moved g n m r.1 w w'

set_option maxHeartbeats 12800000 in
set_option maxRecDepth 100000 in
theorem sort_partial {w0 : World} {g n m : Nat} {lt : Nat → Nat → Bool} {gl : Nat} {lb : Array Value} {sf : Nat} {sb : Array Value} (E : SortEnv w0 g n m lt gl lb sf sb) (d : Array Nat) (w : World) (hw : Moved g n m d w0 w)
    (a b : Nat) (hab : a < b) (hb : b ≤ n) :
    Calls Tryz.prog 114 #[.agg #[.func (.func gl) #[] lb, .func (.func sf) #[] sb], .int .i64 a, .int .i64 b] w (PInsIs g n m (partialInsertionSort lt d a b) w) := by
  have HE := Lib.hid E
  have eg := E.enter
  have hn := E.hn
  have HS := Lib.hid (InS.start (gl := gl) (lb := lb) (sf := sf) (sb := sb) hw)
  have HW0 := Lib.hid hw
  clear E hw
  go_enter Tryz.func114, Tryz.ntmps114
  go_wp2
  go_loopw [7, 8] (fun u v wr => ∃ (i t : Nat) (dk : Array Nat), u = .int .i64 i ∧ v = .int .i64 t ∧ a < i ∧ i ≤ b ∧ t ≤ 5 ∧ InS g n m w.heap.size gl lb sf sb dk w wr ∧ partialIns lt a b (5 - t) i dk = partialInsertionSort lt d a b) (fun _ v _ => 5 - (intOf v).toNat)
  case atStart => exact ⟨a + 1, 0, d, by go_num, rfl, by omega, by omega, by omega, HS.out, rfl⟩
  case round =>
    obtain ⟨i, t, dk, rfl, rfl, hai, hib, ht, hs, hO⟩ := hrel
    have HK := Lib.hid hs
    have HO := Lib.hid hO
    clear hs hO
    by_cases ht5 : t < 5
    · have HST : Hid (∀ i2, scanSorted lt dk b i = i2 → (if i2 = b then (dk, true) else if b - a < 50 then (dk, false) else partialIns lt a b (5 - (t + 1)) i2 (upP lt b i2 (downP lt a i2 (swp dk i2 (i2 - 1))))) = partialInsertionSort lt d a b) := by
        intro i2 e
        have h := HO.out
        rw [show 5 - t = (5 - (t + 1)) + 1 by omega, partialIns_step, e] at h
        exact h
      clear HO
      have dt : decide ((t : Int) < 5) = true := by simp; omega
      go_wp2
      go_loopw [7] (fun u wr => ∃ (i2 : Nat), u = .int .i64 i2 ∧ i ≤ i2 ∧ i2 ≤ b ∧ InS g n m w.heap.size gl lb sf sb dk w wr ∧ scanSorted lt dk b i2 = scanSorted lt dk b i) (fun u _ => b - (intOf u).toNat)
      case atStart => exact ⟨i, rfl, Nat.le_refl _, hib, HK.out, rfl⟩
      case round =>
        obtain ⟨i2, rfl, hi2, hib2, hs, hU⟩ := hrel
        have hc0 := hs.c0
        have HK2 := Lib.hid hs
        have HU := Lib.hid hU
        clear hs hU
        by_cases hij : i2 < b
        · cases hlv : lt dk[i2]! dk[i2 - 1]! with
          | false =>
            go_wp2_with (go_at_fn gl; refine (HK2.out.less HE.out HW0.out i2 (i2 - 1) _ _ (by omega) (by omega) (by omega) (by omega)).mono ?_; rw [hlv]; rintro e w' ⟨rfl, hs1⟩; have HK3 := Lib.hid hs1; clear hs1)
            go_roundw
            case rel => exact ⟨i2 + 1, by go_num, by omega, by omega, HK3.out, by rw [← HU.out]; exact scanSorted_on hij hlv⟩
            case measure => simp [intOf]; omega
          | true =>
            have HF := Lib.hid (HST.out i2 (HU.out.symm.trans (scanSorted_off (Or.inr hlv))))
            clear HU HST
            by_cases h50 : b - a < 50
            · have d50 : decide ((b : Int) - a < 50) = true := by simp; omega
              go_wp2_with (go_at_fn gl; refine (HK2.out.less HE.out HW0.out i2 (i2 - 1) _ _ (by omega) (by omega) (by omega) (by omega)).mono ?_; rw [hlv]; rintro e w' ⟨rfl, hs1⟩; have hc1 := hs1.c1; have HK3 := Lib.hid hs1; clear hs1)
              have h := HF.out
              rw [if_neg (by omega), if_pos h50] at h
              go_ret
              refine ⟨by rw [← h]; rfl, ?_⟩
              rw [← h]
              exact HK3.out.mv
            · have HN : Hid (partialIns lt a b (5 - (t + 1)) i2 (upP lt b i2 (downP lt a i2 (swp dk i2 (i2 - 1)))) = partialInsertionSort lt d a b) := by
                have h := HF.out
                rw [if_neg (by omega), if_neg h50] at h
                exact h
              have d50 : decide ((b : Int) - a < 50) = false := by simp; omega
              go_wp2_with (go_at_fn gl; refine (HK2.out.less HE.out HW0.out i2 (i2 - 1) _ _ (by omega) (by omega) (by omega) (by omega)).mono ?_; rw [hlv]; rintro e w' ⟨rfl, hs1⟩; have hc1 := hs1.c1; have HK3 := Lib.hid hs1; clear hs1)
              obtain ⟨w3, hrun, hs3⟩ := HK3.out.swap HE.out HW0.out i2 (i2 - 1) (by omega) (by omega)
              have HK4 := Lib.hid hs3
              clear hs3
              rw [hrun _ _ (by omega) (by omega), Oper.upon_value]
              clear hrun hc0 hc1 hlv HF
              generalize swp dk i2 (i2 - 1) = d1 at *
              by_cases h2 : 2 ≤ i2 - a
              · have HN1 : Hid (partialIns lt a b (5 - (t + 1)) i2 (upP lt b i2 (shiftDown lt (i2 - 1) d1)) = partialInsertionSort lt d a b) := by
                  have h := HN.out
                  unfold downP at h
                  rw [if_pos h2] at h
                  exact h
                clear HN
                have d2 : decide ((2 : Int) ≤ (i2 : Int) - a) = true := by simp; omega
                go_wp2
                go_loopw [9] (fun u wr => ∃ (j : Nat) (dj : Array Nat), u = .int .i64 j ∧ j < i2 ∧ InS g n m w.heap.size gl lb sf sb dj w wr ∧ shiftDown lt j dj = shiftDown lt (i2 - 1) d1) (fun u _ => (intOf u).toNat)
                case atStart => exact ⟨i2 - 1, d1, by congr 1 <;> omega, by omega, HK4.out, rfl⟩
                case round =>
                  obtain ⟨j, dj, rfl, hj, hs, hD⟩ := hrel
                  have hc0 := hs.c0
                  have HK5 := Lib.hid hs
                  have HD := Lib.hid hD
                  clear hs hD
                  by_cases hj1 : 1 ≤ j
                  · cases hlv2 : lt dj[j]! dj[j - 1]! with
                    | true =>
                      go_wp2_with (go_at_fn gl; refine (HK5.out.less HE.out HW0.out j (j - 1) _ _ (by omega) (by omega) (by omega) (by omega)).mono ?_; rw [hlv2]; rintro e w' ⟨rfl, hs1⟩; have hc1 := hs1.c1; have HK6 := Lib.hid hs1; clear hs1)
                      obtain ⟨w3, hrun, hs3⟩ := HK6.out.swap HE.out HW0.out j (j - 1) (by omega) (by omega)
                      have HK7 := Lib.hid hs3
                      clear hs3
                      rw [hrun _ _ (by omega) (by omega), Oper.upon_value]
                      clear hrun
                      go_wp2
                      go_roundw
                      case rel => exact ⟨j - 1, _, by congr 1 <;> omega, by omega, HK7.out, by rw [← HD.out]; exact (shiftDown_on hj1 hlv2).symm⟩
                      case measure => simp [intOf]; omega
                    | false =>
                      have HM : Hid (partialIns lt a b (5 - (t + 1)) i2 (upP lt b i2 dj) = partialInsertionSort lt d a b) := by
                        have h := HN1.out
                        rw [← HD.out, shiftDown_off (Or.inr hlv2)] at h
                        exact h
                      by_cases hb2 : 2 ≤ b - i2
                      · have db : decide ((2 : Int) ≤ (b : Int) - i2) = true := by simp; omega
                        go_wp2_with (go_at_fn gl; refine (HK5.out.less HE.out HW0.out j (j - 1) _ _ (by omega) (by omega) (by omega) (by omega)).mono ?_; rw [hlv2]; rintro e w' ⟨rfl, hs1⟩; have HK8 := Lib.hid hs1; clear hs1)
                        clear HN1 HD HK5 hlv2 hc0
                        have HM1 : Hid (partialIns lt a b (5 - (t + 1)) i2 (shiftUp lt b (i2 + 1) dj) = partialInsertionSort lt d a b) := by
                          have h := HM.out
                          unfold upP at h
                          rw [if_pos hb2] at h
                          exact h
                        clear HM
                        go_loopw [10] (fun u wr => ∃ (k : Nat) (dm : Array Nat), u = .int .i64 k ∧ i2 < k ∧ k ≤ b ∧ InS g n m w.heap.size gl lb sf sb dm w wr ∧ shiftUp lt b k dm = shiftUp lt b (i2 + 1) dj) (fun u _ => b - (intOf u).toNat)
                        case atStart => exact ⟨i2 + 1, dj, by go_num, by omega, by omega, HK8.out, rfl⟩
                        case round =>
                          obtain ⟨k, dm, rfl, hk1, hk2, hs, hD⟩ := hrel
                          have hc0 := hs.c0
                          have HK9 := Lib.hid hs
                          have HD := Lib.hid hD
                          clear hs hD HK8
                          by_cases hkb : k < b
                          · cases hlv3 : lt dm[k]! dm[k - 1]! with
                            | true =>
                              go_wp2_with (go_at_fn gl; refine (HK9.out.less HE.out HW0.out k (k - 1) _ _ (by omega) (by omega) (by omega) (by omega)).mono ?_; rw [hlv3]; rintro e w' ⟨rfl, hs1⟩; have hc1 := hs1.c1; have HKA := Lib.hid hs1; clear hs1)
                              obtain ⟨w3, hrun, hs3⟩ := HKA.out.swap HE.out HW0.out k (k - 1) (by omega) (by omega)
                              have HKB := Lib.hid hs3
                              clear hs3
                              rw [hrun _ _ (by omega) (by omega), Oper.upon_value]
                              clear hrun
                              go_wp2
                              go_roundw
                              case rel => exact ⟨k + 1, _, by go_num, by omega, by omega, HKB.out, by rw [← HD.out]; exact (shiftUp_on hkb hlv3).symm⟩
                              case measure => simp [intOf]; omega
                            | false =>
                              go_wp2_with (go_at_fn gl; refine (HK9.out.less HE.out HW0.out k (k - 1) _ _ (by omega) (by omega) (by omega) (by omega)).mono ?_; rw [hlv3]; rintro e w' ⟨rfl, hs1⟩; have HKA := Lib.hid hs1; clear hs1)
                              go_roundw
                              case rel => exact ⟨i2, t + 1, dm, rfl, by go_num, by omega, by omega, by omega, HKA.out, by rw [← HM1.out, ← HD.out, shiftUp_off (Or.inr hlv3)]⟩
                              case measure => simp [intOf]; omega
                          · go_wp2
                            go_roundw
                            case rel => exact ⟨i2, t + 1, dm, rfl, by go_num, by omega, by omega, by omega, HK9.out, by rw [← HM1.out, ← HD.out, shiftUp_off (Or.inl hkb)]⟩
                            case measure => simp [intOf]; omega
                      · have db : decide ((2 : Int) ≤ (b : Int) - i2) = false := by simp; omega
                        go_wp2_with (go_at_fn gl; refine (HK5.out.less HE.out HW0.out j (j - 1) _ _ (by omega) (by omega) (by omega) (by omega)).mono ?_; rw [hlv2]; rintro e w' ⟨rfl, hs1⟩; have HK8 := Lib.hid hs1; clear hs1)
                        go_roundw
                        case rel => exact ⟨i2, t + 1, dj, rfl, by go_num, by omega, by omega, by omega, HK8.out, by rw [← HM.out]; unfold upP; rw [if_neg hb2]⟩
                        case measure => simp [intOf]; omega
                  · have HM : Hid (partialIns lt a b (5 - (t + 1)) i2 (upP lt b i2 dj) = partialInsertionSort lt d a b) := by
                      have h := HN1.out
                      rw [← HD.out, shiftDown_off (Or.inl hj1)] at h
                      exact h
                    have HK8 := Lib.hid HK5.out
                    clear HN1 HD HK5 hc0
                    by_cases hb2 : 2 ≤ b - i2
                    · have db : decide ((2 : Int) ≤ (b : Int) - i2) = true := by simp; omega
                      go_wp2
                      have HM1 : Hid (partialIns lt a b (5 - (t + 1)) i2 (shiftUp lt b (i2 + 1) dj) = partialInsertionSort lt d a b) := by
                        have h := HM.out
                        unfold upP at h
                        rw [if_pos hb2] at h
                        exact h
                      clear HM
                      go_loopw [10] (fun u wr => ∃ (k : Nat) (dm : Array Nat), u = .int .i64 k ∧ i2 < k ∧ k ≤ b ∧ InS g n m w.heap.size gl lb sf sb dm w wr ∧ shiftUp lt b k dm = shiftUp lt b (i2 + 1) dj) (fun u _ => b - (intOf u).toNat)
                      case atStart => exact ⟨i2 + 1, dj, by go_num, by omega, by omega, HK8.out, rfl⟩
                      case round =>
                        obtain ⟨k, dm, rfl, hk1, hk2, hs, hD⟩ := hrel
                        have hc0 := hs.c0
                        have HK9 := Lib.hid hs
                        have HD := Lib.hid hD
                        clear hs hD HK8
                        by_cases hkb : k < b
                        · cases hlv3 : lt dm[k]! dm[k - 1]! with
                          | true =>
                            go_wp2_with (go_at_fn gl; refine (HK9.out.less HE.out HW0.out k (k - 1) _ _ (by omega) (by omega) (by omega) (by omega)).mono ?_; rw [hlv3]; rintro e w' ⟨rfl, hs1⟩; have hc1 := hs1.c1; have HKA := Lib.hid hs1; clear hs1)
                            obtain ⟨w3, hrun, hs3⟩ := HKA.out.swap HE.out HW0.out k (k - 1) (by omega) (by omega)
                            have HKB := Lib.hid hs3
                            clear hs3
                            rw [hrun _ _ (by omega) (by omega), Oper.upon_value]
                            clear hrun
                            go_wp2
                            go_roundw
                            case rel => exact ⟨k + 1, _, by go_num, by omega, by omega, HKB.out, by rw [← HD.out]; exact (shiftUp_on hkb hlv3).symm⟩
                            case measure => simp [intOf]; omega
                          | false =>
                            go_wp2_with (go_at_fn gl; refine (HK9.out.less HE.out HW0.out k (k - 1) _ _ (by omega) (by omega) (by omega) (by omega)).mono ?_; rw [hlv3]; rintro e w' ⟨rfl, hs1⟩; have HKA := Lib.hid hs1; clear hs1)
                            go_roundw
                            case rel => exact ⟨i2, t + 1, dm, rfl, by go_num, by omega, by omega, by omega, HKA.out, by rw [← HM1.out, ← HD.out, shiftUp_off (Or.inr hlv3)]⟩
                            case measure => simp [intOf]; omega
                        · go_wp2
                          go_roundw
                          case rel => exact ⟨i2, t + 1, dm, rfl, by go_num, by omega, by omega, by omega, HK9.out, by rw [← HM1.out, ← HD.out, shiftUp_off (Or.inl hkb)]⟩
                          case measure => simp [intOf]; omega
                    · have db : decide ((2 : Int) ≤ (b : Int) - i2) = false := by simp; omega
                      go_wp2
                      go_roundw
                      case rel => exact ⟨i2, t + 1, dj, rfl, by go_num, by omega, by omega, by omega, HK8.out, by rw [← HM.out]; unfold upP; rw [if_neg hb2]⟩
                      case measure => simp [intOf]; omega
              · have d2 : decide ((2 : Int) ≤ (i2 : Int) - a) = false := by simp; omega
                have HM : Hid (partialIns lt a b (5 - (t + 1)) i2 (upP lt b i2 d1) = partialInsertionSort lt d a b) := by
                  have h := HN.out
                  unfold downP at h
                  rw [if_neg h2] at h
                  exact h
                clear HN
                have HK8 := Lib.hid HK4.out
                clear HK4
                by_cases hb2 : 2 ≤ b - i2
                · have db : decide ((2 : Int) ≤ (b : Int) - i2) = true := by simp; omega
                  go_wp2
                  have HM1 : Hid (partialIns lt a b (5 - (t + 1)) i2 (shiftUp lt b (i2 + 1) d1) = partialInsertionSort lt d a b) := by
                    have h := HM.out
                    unfold upP at h
                    rw [if_pos hb2] at h
                    exact h
                  clear HM
                  go_loopw [10] (fun u wr => ∃ (k : Nat) (dm : Array Nat), u = .int .i64 k ∧ i2 < k ∧ k ≤ b ∧ InS g n m w.heap.size gl lb sf sb dm w wr ∧ shiftUp lt b k dm = shiftUp lt b (i2 + 1) d1) (fun u _ => b - (intOf u).toNat)
                  case atStart => exact ⟨i2 + 1, d1, by go_num, by omega, by omega, HK8.out, rfl⟩
                  case round =>
                    obtain ⟨k, dm, rfl, hk1, hk2, hs, hD⟩ := hrel
                    have hc0 := hs.c0
                    have HK9 := Lib.hid hs
                    have HD := Lib.hid hD
                    clear hs hD HK8
                    by_cases hkb : k < b
                    · cases hlv3 : lt dm[k]! dm[k - 1]! with
                      | true =>
                        go_wp2_with (go_at_fn gl; refine (HK9.out.less HE.out HW0.out k (k - 1) _ _ (by omega) (by omega) (by omega) (by omega)).mono ?_; rw [hlv3]; rintro e w' ⟨rfl, hs1⟩; have hc1 := hs1.c1; have HKA := Lib.hid hs1; clear hs1)
                        obtain ⟨w3, hrun, hs3⟩ := HKA.out.swap HE.out HW0.out k (k - 1) (by omega) (by omega)
                        have HKB := Lib.hid hs3
                        clear hs3
                        rw [hrun _ _ (by omega) (by omega), Oper.upon_value]
                        clear hrun
                        go_wp2
                        go_roundw
                        case rel => exact ⟨k + 1, _, by go_num, by omega, by omega, HKB.out, by rw [← HD.out]; exact (shiftUp_on hkb hlv3).symm⟩
                        case measure => simp [intOf]; omega
                      | false =>
                        go_wp2_with (go_at_fn gl; refine (HK9.out.less HE.out HW0.out k (k - 1) _ _ (by omega) (by omega) (by omega) (by omega)).mono ?_; rw [hlv3]; rintro e w' ⟨rfl, hs1⟩; have HKA := Lib.hid hs1; clear hs1)
                        go_roundw
                        case rel => exact ⟨i2, t + 1, dm, rfl, by go_num, by omega, by omega, by omega, HKA.out, by rw [← HM1.out, ← HD.out, shiftUp_off (Or.inr hlv3)]⟩
                        case measure => simp [intOf]; omega
                    · go_wp2
                      go_roundw
                      case rel => exact ⟨i2, t + 1, dm, rfl, by go_num, by omega, by omega, by omega, HK9.out, by rw [← HM1.out, ← HD.out, shiftUp_off (Or.inl hkb)]⟩
                      case measure => simp [intOf]; omega
                · have db : decide ((2 : Int) ≤ (b : Int) - i2) = false := by simp; omega
                  go_wp2
                  go_roundw
                  case rel => exact ⟨i2, t + 1, d1, rfl, by go_num, by omega, by omega, by omega, HK8.out, by rw [← HM.out]; unfold upP; rw [if_neg hb2]⟩
                  case measure => simp [intOf]; omega
        · have HF := Lib.hid (HST.out i2 (HU.out.symm.trans (scanSorted_off (Or.inl hij))))
          have hib3 : i2 = b := by omega
          clear HST HU
          subst hib3
          go_wp2
          have h := HF.out
          rw [if_pos trivial] at h
          go_ret
          refine ⟨by rw [← h]; rfl, ?_⟩
          rw [← h]
          exact HK2.out.mv
    · have ht6 : t = 5 := by omega
      subst ht6
      go_wp2
      go_ret
      refine ⟨by rw [← HO.out]; rfl, ?_⟩
      rw [← HO.out]
      exact HK.out.mv

end Go.Proofs.YtgolhmiocjpohaaGreatDoor
