/- sort.partition_func (116). (Printed by gen_sort7.py.) -/
import Derived.Test.YtgolhmiocjpohaaGreatDoorSort6
set_option linter.unusedVariables false
set_option linter.unusedSimpArgs false
namespace Go.Proofs.YtgolhmiocjpohaaGreatDoor
open Go.RowKit Go.Sort

theorem partLoop_done {lt : Nat → Nat → Bool} {a i j i2 j2 : Nat} {d : Array Nat} (hu : scanUp (fun x => lt x d[a]!) d j i = i2) (hd : scanDown (fun x => !lt x d[a]!) d i2 j = j2) (h : j2 < i2) : partLoop lt a i j d = (j2, d) := by
  rw [partLoop, hu]
  simp only [hd]
  rw [if_pos h]
theorem partLoop_on {lt : Nat → Nat → Bool} {a i j i2 j2 : Nat} {d : Array Nat} (hu : scanUp (fun x => lt x d[a]!) d j i = i2) (hd : scanDown (fun x => !lt x d[a]!) d i2 j = j2) (h : i2 ≤ j2) (h1 : 1 ≤ i2) (hi : i ≤ i2) (hj : j2 ≤ j) :
    partLoop lt a i j d = partLoop lt a (i2 + 1) (j2 - 1) (swp d i2 j2) := by
  conv => lhs; rw [partLoop, hu]
  simp only [hd]
  rw [if_neg (by omega), dif_pos (by omega)]
theorem partition_done {lt : Nat → Nat → Bool} {a b pivot i2 j2 : Nat} {d d1 : Array Nat} (e : swp d a pivot = d1) (hu : scanUp (fun x => lt x d1[a]!) d1 (b - 1) (a + 1) = i2) (hd : scanDown (fun x => !lt x d1[a]!) d1 i2 (b - 1) = j2) (h : j2 < i2) :
    partition lt d a b pivot = (j2, true, swp d1 j2 a) := by
  subst e
  unfold partition
  simp only [hu, hd]
  rw [if_pos h]
theorem partition_on {lt : Nat → Nat → Bool} {a b pivot i2 j2 : Nat} {d d1 : Array Nat} (e : swp d a pivot = d1) (hu : scanUp (fun x => lt x d1[a]!) d1 (b - 1) (a + 1) = i2) (hd : scanDown (fun x => !lt x d1[a]!) d1 i2 (b - 1) = j2) (h : i2 ≤ j2) :
    ∃ r, partLoop lt a (i2 + 1) (j2 - 1) (swp d1 i2 j2) = r ∧ partition lt d a b pivot = (r.1, false, swp r.2 r.1 a) := by
  subst e
  refine ⟨_, rfl, ?_⟩
  unfold partition
  simp only [hu, hd]
  rw [if_neg (by omega)]

/-- A post of partition. -/
def PartIs (g n m : Nat) (r : Nat × Bool × Array Nat) (w : World) (e : Ending) (w' : World) : Prop := e = .returned (.tuple #[.int .i64 (r.1 : Int), .bool r.2.1]) ∧ Moved g n m r.2.2 w w'

set_option maxHeartbeats 12800000 in
set_option maxRecDepth 100000 in
theorem sort_part {w0 : World} {g n m : Nat} {lt : Nat → Nat → Bool} {gl : Nat} {lb : Array Value} {sf : Nat} {sb : Array Value} (E : SortEnv w0 g n m lt gl lb sf sb) (d : Array Nat) (w : World) (hw : Moved g n m d w0 w)
    (a b pivot : Nat) (hab : a < b) (hb : b ≤ n) (hp : pivot < n) :
    Calls Tryz.prog 116 #[.agg #[.func (.func gl) #[] lb, .func (.func sf) #[] sb], .int .i64 a, .int .i64 b, .int .i64 pivot] w (PartIs g n m (partition lt d a b pivot) w) := by
  have HE := Lib.hid E
  have eg := E.enter
  have hn := E.hn
  have HS := Lib.hid (InS.start (gl := gl) (lb := lb) (sf := sf) (sb := sb) hw)
  have HW0 := Lib.hid hw
  clear E hw
  go_enter Tryz.func116, Tryz.ntmps116
  go_wp2
  obtain ⟨w1, hrun, hs1⟩ := HS.out.swap HE.out HW0.out a pivot (by omega) (by omega)
  obtain ⟨d1, hd1⟩ : ∃ d1, swp d a pivot = d1 := ⟨_, rfl⟩
  have HD1 := Lib.hid hd1
  rw [hd1] at hs1
  clear hd1
  have HS1 := Lib.hid hs1
  clear hs1
  rw [hrun _ _ (by omega) (by omega), Oper.upon_value]
  clear hrun
  go_wp2
  obtain ⟨j, hjb⟩ : ∃ j, j = b - 1 := ⟨_, rfl⟩
  rw [show ((b : Int) - 1) = (j : Int) by omega]
  have hj1 : j < b := by omega
  have hj2' : b ≤ j + 1 := by omega
  have HJB := Lib.hid hjb
  clear hjb
  go_loopw [10] (fun u wr => ∃ (i2 : Nat), u = .int .i64 i2 ∧ a < i2 ∧ i2 ≤ n ∧ InS g n m w.heap.size gl lb sf sb d1 w wr ∧ scanUp (fun x => lt x d1[a]!) d1 (b - 1) i2 = scanUp (fun x => lt x d1[a]!) d1 (b - 1) (a + 1)) (fun u _ => b - (intOf u).toNat)
  case atStart => exact ⟨a + 1, by go_num, by omega, by omega, HS1.out, rfl⟩
  case round =>
    obtain ⟨i2, rfl, hi2, hin2, hs, hU⟩ := hrel
    have hc0 := hs.c0
    have HK2 := Lib.hid hs
    have HU := Lib.hid hU
    clear hs hU
    by_cases hij : i2 ≤ j
    · cases hlv : lt d1[i2]! d1[a]! with
      | true =>
        go_wp2_with (go_at_fn gl; refine (HK2.out.less HE.out HW0.out i2 a _ _ (by omega) (by omega) (by omega) (by omega)).mono ?_; rw [hlv]; rintro e w' ⟨rfl, hs1⟩; have HK3 := Lib.hid hs1; clear hs1)
        go_roundw
        case rel => exact ⟨i2 + 1, by go_num, by omega, by omega, HK3.out, by rw [← HU.out]; exact scanUp_on (by omega) (by simp [hlv])⟩
        case measure => simp [intOf]; omega
      | false =>
        have HU2 : Hid (scanUp (fun x => lt x d1[a]!) d1 (b - 1) (a + 1) = i2) := HU.out.symm.trans (scanUp_off (Or.inr (by simp [hlv])))
        clear HU
        go_wp2_with (go_at_fn gl; refine (HK2.out.less HE.out HW0.out i2 a _ _ (by omega) (by omega) (by omega) (by omega)).mono ?_; rw [hlv]; rintro e w' ⟨rfl, hs1⟩; have HK3 := Lib.hid hs1; clear hs1)
        clear hc0 hlv
        go_loopw [11] (fun u wr => ∃ (j2 : Nat), u = .int .i64 j2 ∧ j2 ≤ j ∧ InS g n m w.heap.size gl lb sf sb d1 w wr ∧ scanDown (fun x => !lt x d1[a]!) d1 i2 j2 = scanDown (fun x => !lt x d1[a]!) d1 i2 (b - 1)) (fun u _ => (intOf u).toNat)
        case atStart => exact ⟨j, rfl, Nat.le_refl _, HK3.out, by rw [HJB.out]⟩
        case round =>
          obtain ⟨j2, rfl, hj2, hs, hD⟩ := hrel
          have hc0 := hs.c0
          have hc1 := hs.c1
          have HK4 := Lib.hid hs
          have HD := Lib.hid hD
          clear hs hD
          by_cases hij2 : i2 ≤ j2
          · cases hlv2 : lt d1[j2]! d1[a]! with
            | false =>
              go_wp2_with (go_at_fn gl; refine (HK4.out.less HE.out HW0.out j2 a _ _ (by omega) (by omega) (by omega) (by omega)).mono ?_; rw [hlv2]; rintro e w' ⟨rfl, hs1⟩; have HK5 := Lib.hid hs1; clear hs1)
              go_roundw
              case rel => exact ⟨j2 - 1, by congr 1 <;> omega, by omega, HK5.out, by rw [← HD.out]; exact scanDown_on (by omega) hij2 (by simp [hlv2])⟩
              case measure => simp [intOf]; omega
            | true =>
              have HD2 : Hid (scanDown (fun x => !lt x d1[a]!) d1 i2 (b - 1) = j2) := HD.out.symm.trans (scanDown_off (Or.inr (by simp [hlv2])))
              obtain ⟨r, hr1, hr2⟩ := partition_on HD1.out HU2.out HD2.out hij2
              have HR1 := Lib.hid hr1
              have HR2 := Lib.hid hr2
              clear hr1 hr2
              go_wp2_with (go_at_fn gl; refine (HK4.out.less HE.out HW0.out j2 a _ _ (by omega) (by omega) (by omega) (by omega)).mono ?_; rw [hlv2]; rintro e w' ⟨rfl, hs1⟩; have hd1 := hs1.c1; have HK5 := Lib.hid hs1; clear hs1)
              obtain ⟨w3, hrun, hs3⟩ := HK5.out.swap HE.out HW0.out i2 j2 (by omega) (by omega)
              have HKC := Lib.hid hs3
              clear hs3
              rw [hrun _ _ (by omega) (by omega), Oper.upon_value]
              clear hrun hc0 hc1 hd1 hlv2
              go_wp2
              go_loopw [10, 11] (fun u v wr => ∃ (i j : Nat) (dk : Array Nat), u = .int .i64 i ∧ v = .int .i64 j ∧ a < i ∧ i ≤ n ∧ j < b ∧ InS g n m w.heap.size gl lb sf sb dk w wr ∧ partLoop lt a i j dk = r) (fun u v _ => (intOf v + 1 - intOf u).toNat)
              case atStart => exact ⟨i2 + 1, j2 - 1, _, by go_num, by congr 1 <;> omega, by omega, by omega, by omega, HKC.out, HR1.out⟩
              case round =>
                clear hij hij2 hj2 hi2 hin2 hj1 hj2' HJB
                obtain ⟨i, j, dk, rfl, rfl, hai, hin, hjb, hs, hO⟩ := hrel
                have HK := Lib.hid hs
                have HO := Lib.hid hO
                clear hs hO
                go_wp2
                go_loopw [10] (fun u wr => ∃ (i2 : Nat), u = .int .i64 i2 ∧ i ≤ i2 ∧ i2 ≤ n ∧ InS g n m w.heap.size gl lb sf sb dk w wr ∧ scanUp (fun x => lt x dk[a]!) dk j i2 = scanUp (fun x => lt x dk[a]!) dk j i) (fun u _ => (j : Nat) + 1 - (intOf u).toNat)
                case atStart => exact ⟨i, rfl, Nat.le_refl _, hin, HK.out, rfl⟩
                case round =>
                  obtain ⟨i3, rfl, hi3, hin3, hs, hU⟩ := hrel
                  have hc0 := hs.c0
                  have HK7 := Lib.hid hs
                  have HU := Lib.hid hU
                  clear hs hU
                  by_cases hij : i3 ≤ j
                  · cases hlv : lt dk[i3]! dk[a]! with
                    | true =>
                      go_wp2_with (go_at_fn gl; refine (HK7.out.less HE.out HW0.out i3 a _ _ (by omega) (by omega) (by omega) (by omega)).mono ?_; rw [hlv]; rintro e w' ⟨rfl, hs1⟩; have HK8 := Lib.hid hs1; clear hs1)
                      go_roundw
                      case rel => exact ⟨i3 + 1, by go_num, by omega, by omega, HK8.out, by rw [← HU.out]; exact scanUp_on hij (by simp [hlv])⟩
                      case measure => simp [intOf]; omega
                    | false =>
                      have HU3 : Hid (scanUp (fun x => lt x dk[a]!) dk j i = i3) := HU.out.symm.trans (scanUp_off (Or.inr (by simp [hlv])))
                      clear HU
                      go_wp2_with (go_at_fn gl; refine (HK7.out.less HE.out HW0.out i3 a _ _ (by omega) (by omega) (by omega) (by omega)).mono ?_; rw [hlv]; rintro e w' ⟨rfl, hs1⟩; have HK8 := Lib.hid hs1; clear hs1)
                      clear hc0 hlv
                      go_loopw [11] (fun u wr => ∃ (j3 : Nat), u = .int .i64 j3 ∧ j3 ≤ j ∧ InS g n m w.heap.size gl lb sf sb dk w wr ∧ scanDown (fun x => !lt x dk[a]!) dk i3 j3 = scanDown (fun x => !lt x dk[a]!) dk i3 j) (fun u _ => (intOf u).toNat)
                      case atStart => exact ⟨j, rfl, Nat.le_refl _, HK8.out, rfl⟩
                      case round =>
                        obtain ⟨j3, rfl, hj3, hs, hD⟩ := hrel
                        have hc0 := hs.c0
                        have hc1 := hs.c1
                        have HK9 := Lib.hid hs
                        have HD := Lib.hid hD
                        clear hs hD
                        by_cases hij3 : i3 ≤ j3
                        · cases hlv3 : lt dk[j3]! dk[a]! with
                          | false =>
                            go_wp2_with (go_at_fn gl; refine (HK9.out.less HE.out HW0.out j3 a _ _ (by omega) (by omega) (by omega) (by omega)).mono ?_; rw [hlv3]; rintro e w' ⟨rfl, hs1⟩; have HKA := Lib.hid hs1; clear hs1)
                            go_roundw
                            case rel => exact ⟨j3 - 1, by congr 1 <;> omega, by omega, HKA.out, by rw [← HD.out]; exact scanDown_on (by omega) hij3 (by simp [hlv3])⟩
                            case measure => simp [intOf]; omega
                          | true =>
                            have HD3 : Hid (scanDown (fun x => !lt x dk[a]!) dk i3 j = j3) := HD.out.symm.trans (scanDown_off (Or.inr (by simp [hlv3])))
                            have HN := Lib.hid ((partLoop_on HU3.out HD3.out hij3 (by omega) (by omega) (by omega)).symm.trans HO.out)
                            go_wp2_with (go_at_fn gl; refine (HK9.out.less HE.out HW0.out j3 a _ _ (by omega) (by omega) (by omega) (by omega)).mono ?_; rw [hlv3]; rintro e w' ⟨rfl, hs1⟩; have hd1 := hs1.c1; have HKA := Lib.hid hs1; clear hs1)
                            obtain ⟨w3, hrun, hs3⟩ := HKA.out.swap HE.out HW0.out i3 j3 (by omega) (by omega)
                            have HKD := Lib.hid hs3
                            clear hs3
                            rw [hrun _ _ (by omega) (by omega), Oper.upon_value]
                            clear hrun
                            go_wp2
                            go_roundw
                            case rel => exact ⟨i3 + 1, j3 - 1, _, by go_num, by congr 1 <;> omega, by omega, by omega, by omega, HKD.out, HN.out⟩
                            case measure => simp [intOf]; omega
                        · have HD3 : Hid (scanDown (fun x => !lt x dk[a]!) dk i3 j = j3) := HD.out.symm.trans (scanDown_off (Or.inl hij3))
                          have HN := Lib.hid ((partLoop_done HU3.out HD3.out (by omega)).symm.trans HO.out)
                          go_wp2
                          obtain ⟨w3, hrun, hs3⟩ := HK9.out.swap HE.out HW0.out j3 a (by omega) (by omega)
                          have HKD := Lib.hid hs3
                          clear hs3
                          rw [hrun _ _ (by omega) (by omega), Oper.upon_value]
                          clear hrun
                          go_wp2
                          go_ret2
                          refine ⟨by rw [HR2.out, ← HN.out]; rfl, ?_⟩
                          rw [HR2.out, ← HN.out]
                          exact HKD.out.mv
                  · have HU3 : Hid (scanUp (fun x => lt x dk[a]!) dk j i = i3) := HU.out.symm.trans (scanUp_off (Or.inl hij))
                    have HK8 := Lib.hid HK7.out
                    clear HU hc0
                    go_wp2
                    go_loopw [11] (fun u wr => ∃ (j3 : Nat), u = .int .i64 j3 ∧ j3 ≤ j ∧ InS g n m w.heap.size gl lb sf sb dk w wr ∧ scanDown (fun x => !lt x dk[a]!) dk i3 j3 = scanDown (fun x => !lt x dk[a]!) dk i3 j) (fun u _ => (intOf u).toNat)
                    case atStart => exact ⟨j, rfl, Nat.le_refl _, HK8.out, rfl⟩
                    case round =>
                      obtain ⟨j3, rfl, hj3, hs, hD⟩ := hrel
                      have hc0 := hs.c0
                      have hc1 := hs.c1
                      have HK9 := Lib.hid hs
                      have HD := Lib.hid hD
                      clear hs hD
                      by_cases hij3 : i3 ≤ j3
                      · exfalso; omega
                      · have HD3 : Hid (scanDown (fun x => !lt x dk[a]!) dk i3 j = j3) := HD.out.symm.trans (scanDown_off (Or.inl hij3))
                        have HN := Lib.hid ((partLoop_done HU3.out HD3.out (by omega)).symm.trans HO.out)
                        go_wp2
                        obtain ⟨w3, hrun, hs3⟩ := HK9.out.swap HE.out HW0.out j3 a (by omega) (by omega)
                        have HKD := Lib.hid hs3
                        clear hs3
                        rw [hrun _ _ (by omega) (by omega), Oper.upon_value]
                        clear hrun
                        go_wp2
                        go_ret2
                        refine ⟨by rw [HR2.out, ← HN.out]; rfl, ?_⟩
                        rw [HR2.out, ← HN.out]
                        exact HKD.out.mv
          · have HD2 : Hid (scanDown (fun x => !lt x d1[a]!) d1 i2 (b - 1) = j2) := HD.out.symm.trans (scanDown_off (Or.inl hij2))
            have HN := Lib.hid (partition_done HD1.out HU2.out HD2.out (by omega))
            go_wp2
            obtain ⟨w3, hrun, hs3⟩ := HK4.out.swap HE.out HW0.out j2 a (by omega) (by omega)
            have HKC := Lib.hid hs3
            clear hs3
            rw [hrun _ _ (by omega) (by omega), Oper.upon_value]
            clear hrun
            go_wp2
            go_ret2
            refine ⟨by rw [HN.out]; rfl, ?_⟩
            rw [HN.out]
            exact HKC.out.mv
    · have HU2 : Hid (scanUp (fun x => lt x d1[a]!) d1 (b - 1) (a + 1) = i2) := HU.out.symm.trans (scanUp_off (Or.inl (by omega)))
      have HK3 := Lib.hid HK2.out
      clear HU hc0
      go_wp2
      go_loopw [11] (fun u wr => ∃ (j2 : Nat), u = .int .i64 j2 ∧ j2 ≤ j ∧ InS g n m w.heap.size gl lb sf sb d1 w wr ∧ scanDown (fun x => !lt x d1[a]!) d1 i2 j2 = scanDown (fun x => !lt x d1[a]!) d1 i2 (b - 1)) (fun u _ => (intOf u).toNat)
      case atStart => exact ⟨j, rfl, Nat.le_refl _, HK3.out, by rw [HJB.out]⟩
      case round =>
        obtain ⟨j2, rfl, hj2, hs, hD⟩ := hrel
        have hc0 := hs.c0
        have hc1 := hs.c1
        have HK4 := Lib.hid hs
        have HD := Lib.hid hD
        clear hs hD
        by_cases hij2 : i2 ≤ j2
        · exfalso; omega
        · have HD2 : Hid (scanDown (fun x => !lt x d1[a]!) d1 i2 (b - 1) = j2) := HD.out.symm.trans (scanDown_off (Or.inl hij2))
          have HN := Lib.hid (partition_done HD1.out HU2.out HD2.out (by omega))
          go_wp2
          obtain ⟨w3, hrun, hs3⟩ := HK4.out.swap HE.out HW0.out j2 a (by omega) (by omega)
          have HKC := Lib.hid hs3
          clear hs3
          rw [hrun _ _ (by omega) (by omega), Oper.upon_value]
          clear hrun
          go_wp2
          go_ret2
          refine ⟨by rw [HN.out]; rfl, ?_⟩
          rw [HN.out]
          exact HKC.out.mv

end Go.Proofs.YtgolhmiocjpohaaGreatDoor
