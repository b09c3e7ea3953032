/- sort.partitionEqual_func (115). (Printed by gen_sort6.py.) -/
import Derived.Test.YtgolhmiocjpohaaGreatDoorSort0
set_option linter.unusedVariables false
set_option linter.unusedSimpArgs false
namespace Go.Proofs.YtgolhmiocjpohaaGreatDoor
open Go.RowKit Go.Sort

theorem scanUp_on {p : Nat → Bool} {d : Array Nat} {j i : Nat} (h : i ≤ j) (hp : p d[i]! = true) : scanUp p d j (i + 1) = scanUp p d j i := by
  conv => rhs; rw [scanUp]
  simp [h, hp]
theorem scanUp_off {p : Nat → Bool} {d : Array Nat} {j i : Nat} (h : ¬ i ≤ j ∨ p d[i]! = false) : scanUp p d j i = i := by
  rw [scanUp]
  rcases h with h | h <;> simp [h]
theorem scanDown_on {p : Nat → Bool} {d : Array Nat} {j i : Nat} (hj : 1 ≤ j) (h : i ≤ j) (hp : p d[j]! = true) : scanDown p d i (j - 1) = scanDown p d i j := by
  cases j with
  | zero => omega
  | succ j =>
    conv => rhs; rw [scanDown]
    simp [h, hp]
theorem scanDown_off {p : Nat → Bool} {d : Array Nat} {j i : Nat} (h : ¬ i ≤ j ∨ p d[j]! = false) : scanDown p d i j = j := by
  cases j with
  | zero => rw [scanDown]
  | succ j =>
    rw [scanDown]
    rcases h with h | h <;> simp [h]

theorem partEqLoop_done {lt : Nat → Nat → Bool} {a i j i2 j2 : Nat} {d : Array Nat} (hu : scanUp (fun x => !lt d[a]! x) d j i = i2) (hd : scanDown (fun x => lt d[a]! x) d i2 j = j2) (h : j2 < i2) : partEqLoop lt a i j d = (i2, d) := by
  rw [partEqLoop, hu]
  simp only [hd]
  rw [if_pos h]
theorem partEqLoop_on {lt : Nat → Nat → Bool} {a i j i2 j2 : Nat} {d : Array Nat} (hu : scanUp (fun x => !lt d[a]! x) d j i = i2) (hd : scanDown (fun x => lt d[a]! x) d i2 j = j2) (h : i2 ≤ j2) (h1 : 1 ≤ i2) (hi : i ≤ i2) (hj : j2 ≤ j) :
    partEqLoop lt a i j d = partEqLoop lt a (i2 + 1) (j2 - 1) (swp d i2 j2) := by
  conv => lhs; rw [partEqLoop, hu]
  simp only [hd]
  rw [if_neg (by omega), dif_pos (by omega)]

/-- A post of partitionEqual. -/
def PartEqIs (g n m : Nat) (r : Nat × Array Nat) (w : World) (e : Ending) (w' : World) : Prop := e = .returned (.int .i64 (r.1 : Int)) ∧ Moved g n m r.2 w w'

set_option maxHeartbeats 6400000 in
set_option maxRecDepth 100000 in
theorem sort_partEq {w0 : World} {g n m : Nat} {lt : Nat → Nat → Bool} {gl : Nat} {lb : Array Value} {sf : Nat} {sb : Array Value} (E : SortEnv w0 g n m lt gl lb sf sb) (d : Array Nat) (w : World) (hw : Moved g n m d w0 w)
    (a b pivot : Nat) (hab : a < b) (hb : b ≤ n) (hp : pivot < n) :
    Calls Tryz.prog 115 #[.agg #[.func (.func gl) #[] lb, .func (.func sf) #[] sb], .int .i64 a, .int .i64 b, .int .i64 pivot] w (PartEqIs g n m (partitionEqual lt d a b pivot) w) := by
  have HE := Lib.hid E
  have eg := E.enter
  have hn := E.hn
  have HS := Lib.hid (InS.start (gl := gl) (lb := lb) (sf := sf) (sb := sb) hw)
  have HW0 := Lib.hid hw
  clear E hw
  go_enter Tryz.func115, Tryz.ntmps115
  go_wp2
  obtain ⟨w1, hrun, hs1⟩ := HS.out.swap HE.out HW0.out a pivot (by omega) (by omega)
  have HS1 := Lib.hid hs1
  clear hs1
  rw [hrun _ _ (by omega) (by omega), Oper.upon_value]
  clear hrun
  go_wp2
  go_loopw [9, 10] (fun u v wr => ∃ (i j : Nat) (dk : Array Nat), u = .int .i64 i ∧ v = .int .i64 j ∧ a < i ∧ i ≤ n ∧ j < b ∧ InS g n m w.heap.size gl lb sf sb dk w wr ∧ partEqLoop lt a i j dk = partitionEqual lt d a b pivot) (fun u v _ => (intOf v + 1 - intOf u).toNat)
  case atStart => exact ⟨a + 1, b - 1, swp d a pivot, by go_num, by congr 1; omega, by omega, by omega, by omega, HS1.out, rfl⟩
  case round =>
    obtain ⟨i, j, dk, rfl, rfl, hai, hin, hjb, hs, hO⟩ := hrel
    have HK := Lib.hid hs
    have HO := Lib.hid hO
    clear hs hO
    go_wp2
    go_loopw [9] (fun u wr => ∃ (i2 : Nat), u = .int .i64 i2 ∧ i ≤ i2 ∧ i2 ≤ n ∧ InS g n m w.heap.size gl lb sf sb dk w wr ∧ scanUp (fun x => !lt dk[a]! x) dk j i2 = scanUp (fun x => !lt dk[a]! x) dk j i) (fun u _ => (j : Nat) + 1 - (intOf u).toNat)
    case atStart => exact ⟨i, rfl, Nat.le_refl _, hin, HK.out, rfl⟩
    case round =>
      obtain ⟨i2, rfl, hi2, hin2, hs, hU⟩ := hrel
      have hc0 := hs.c0
      have HK2 := Lib.hid hs
      have HU := Lib.hid hU
      clear hs hU
      by_cases hij : i2 ≤ j
      · cases hlv : lt dk[a]! dk[i2]! with
        | false =>
          go_wp2_with (go_at_fn gl; refine (HK2.out.less HE.out HW0.out a i2 _ _ (by omega) (by omega) (by omega) (by omega)).mono ?_; rw [hlv]; rintro e w' ⟨rfl, hs1⟩; have HK3 := Lib.hid hs1; clear hs1)
          go_roundw
          case rel => exact ⟨i2 + 1, by go_num, by omega, by omega, HK3.out, by rw [← HU.out]; exact scanUp_on hij (by simp [hlv])⟩
          case measure => simp [intOf]; omega
        | true =>
          have HU2 : Hid (scanUp (fun x => !lt dk[a]! x) dk j i = i2) := HU.out.symm.trans (scanUp_off (Or.inr (by simp [hlv])))
          clear HU
          go_wp2_with (go_at_fn gl; refine (HK2.out.less HE.out HW0.out a i2 _ _ (by omega) (by omega) (by omega) (by omega)).mono ?_; rw [hlv]; rintro e w' ⟨rfl, hs1⟩; have HK3 := Lib.hid hs1; clear hs1)
          clear hc0
          go_loopw [10] (fun u wr => ∃ (j2 : Nat), u = .int .i64 j2 ∧ j2 ≤ j ∧ InS g n m w.heap.size gl lb sf sb dk w wr ∧ scanDown (fun x => lt dk[a]! x) dk i2 j2 = scanDown (fun x => lt dk[a]! x) dk i2 j) (fun u _ => (intOf u).toNat)
          case atStart => exact ⟨j, rfl, Nat.le_refl _, HK3.out, rfl⟩
          case round =>
            obtain ⟨j2, rfl, hj2, hs, hD⟩ := hrel
            have hc0 := hs.c0
            have hc1 := hs.c1
            have HK4 := Lib.hid hs
            have HD := Lib.hid hD
            clear hs hD hlv
            by_cases hij2 : i2 ≤ j2
            · cases hlv2 : lt dk[a]! dk[j2]! with
              | true =>
                go_wp2_with (go_at_fn gl; refine (HK4.out.less HE.out HW0.out a j2 _ _ (by omega) (by omega) (by omega) (by omega)).mono ?_; rw [hlv2]; rintro e w' ⟨rfl, hs1⟩; have HK5 := Lib.hid hs1; clear hs1)
                go_roundw
                case rel => exact ⟨j2 - 1, by congr 1 <;> omega, by omega, HK5.out, by rw [← HD.out]; exact scanDown_on (by omega) hij2 (by simp [hlv2])⟩
                case measure => simp [intOf]; omega
              | false =>
                have HD2 : Hid (scanDown (fun x => lt dk[a]! x) dk i2 j = j2) := HD.out.symm.trans (scanDown_off (Or.inr (by simp [hlv2])))
                have HN := Lib.hid ((partEqLoop_on HU2.out HD2.out hij2 (by omega) (by omega) (by omega)).symm.trans HO.out)
                go_wp2_with (go_at_fn gl; refine (HK4.out.less HE.out HW0.out a j2 _ _ (by omega) (by omega) (by omega) (by omega)).mono ?_; rw [hlv2]; rintro e w' ⟨rfl, hs1⟩; have hd1 := hs1.c1; have HK5 := Lib.hid hs1; clear hs1)
                obtain ⟨w3, hrun, hs3⟩ := HK5.out.swap HE.out HW0.out i2 j2 (by omega) (by omega)
                have HKC := Lib.hid hs3
                clear hs3
                rw [hrun _ _ (by omega) (by omega), Oper.upon_value]
                clear hrun
                go_wp2
                go_roundw
                case rel => exact ⟨i2 + 1, j2 - 1, _, by go_num, by congr 1 <;> omega, by omega, by omega, by omega, HKC.out, HN.out⟩
                case measure => simp [intOf]; omega
            · have HD2 : Hid (scanDown (fun x => lt dk[a]! x) dk i2 j = j2) := HD.out.symm.trans (scanDown_off (Or.inl hij2))
              have HN := Lib.hid ((partEqLoop_done HU2.out HD2.out (by omega)).symm.trans HO.out)
              go_wp2
              go_ret
              refine ⟨by rw [← HN.out]; rfl, ?_⟩
              rw [← HN.out]
              exact HK4.out.mv
      · have HU2 : Hid (scanUp (fun x => !lt dk[a]! x) dk j i = i2) := HU.out.symm.trans (scanUp_off (Or.inl hij))
        have HK3 := Lib.hid HK2.out
        clear HU hc0
        go_wp2
        go_loopw [10] (fun u wr => ∃ (j2 : Nat), u = .int .i64 j2 ∧ j2 ≤ j ∧ InS g n m w.heap.size gl lb sf sb dk w wr ∧ scanDown (fun x => lt dk[a]! x) dk i2 j2 = scanDown (fun x => lt dk[a]! x) dk i2 j) (fun u _ => (intOf u).toNat)
        case atStart => exact ⟨j, rfl, Nat.le_refl _, HK3.out, rfl⟩
        case round =>
          obtain ⟨j2, rfl, hj2, hs, hD⟩ := hrel
          have hc0 := hs.c0
          have hc1 := hs.c1
          have HK4 := Lib.hid hs
          have HD := Lib.hid hD
          clear hs hD
          by_cases hij2 : i2 ≤ j2
          · exfalso; omega
          · have HD2 : Hid (scanDown (fun x => lt dk[a]! x) dk i2 j = j2) := HD.out.symm.trans (scanDown_off (Or.inl hij2))
            have HN := Lib.hid ((partEqLoop_done HU2.out HD2.out (by omega)).symm.trans HO.out)
            go_wp2
            go_ret
            refine ⟨by rw [← HN.out]; rfl, ?_⟩
            rw [← HN.out]
            exact HK4.out.mv

end Go.Proofs.YtgolhmiocjpohaaGreatDoor
